import JvmDerived
import JvmDerived.Pilot.@@N@@Statement
import JvmDerived.Pilot.@@N@@Code
set_option linter.unusedVariables false
set_option linter.unusedSimpArgs false
namespace Jvm.Pilot.@@N@@
open Jvm Jvm.ClassFile Sem Op Lib Jvm.Free Jvm.Stand Jvm.LawKit Jvm.RoadKit Bundle Jvm.Pilot.@@N@@.Jvm.D
-- BY HAND: an array of ints, bytes or chars, by the function that says what lies in each place
def up (f : Nat → Int32) (i : Nat) (v : Int32) : Nat → Int32 := fun j => if j = i then v else f j
theorem up_at (f : Nat → Int32) (i : Nat) (v : Int32) : up f i v i = v := if_pos rfl
theorem up_ne (f : Nat → Int32) {i j : Nat} (v : Int32) (h : j ≠ i) : up f i v j = f j := if_neg h
def Ia (Z : State) (h : Heap) (a : Addr) (ty : FieldType) (n : Nat) (f : Nat → Int32) : Prop :=
  ∃ c : Cell, Arr Z h a c ty ∧ c.slots.size = n ∧ n < 2147483648 ∧ ∀ j, j < n → c.slots[j]? = some (.int (f j)) ∧ fits ty (.int (f j)) = true
theorem clamp_of {j : Int32} {i : Nat} (h : j.toInt = (i : Int)) : j.toNatClampNeg = i := by
  rw [Int32.toNatClampNeg, h]; rfl
theorem inb {j : Int32} {i n : Nat} {c : Cell} (h : j.toInt = (i : Int)) (hn : i < n) (S : c.slots.size = n) : ¬ (j < 0 ∨ c.slots.size ≤ j.toNatClampNeg) := by
  rw [clamp_of h, Int32.lt_iff_toInt_lt, h, S, show (0 : Int32).toInt = 0 from rfl]
  omega
section OwnArr
variable {Z : State} {h h' : Heap} {a b : Addr} {ty : FieldType} {n : Nat} {f : Nat → Int32} {ws : List Addr} {sl : Nat} {v : Value}
theorem Ia.lt (F : Ia Z h a ty n f) : a < h.size := by obtain ⟨c, A, -⟩ := F; exact A.lt
theorem Ia.ext (F : Ia Z h a ty n f) (E : Ext h h') : Ia Z h' a ty n f := by obtain ⟨c, A, r⟩ := F; exact ⟨c, A.ext E, r⟩
theorem Ia.other (F : Ia Z h b ty n f) (W : Wr h h' a sl v) (q : b ≠ a) : Ia Z h' b ty n f := by obtain ⟨c, A, r⟩ := F; exact ⟨c, A.other W q, r⟩
theorem Ia.keep (F : Ia Z h a ty n f) (K : Keep h h' ws) (q : a ∉ ws) : Ia Z h' a ty n f := by obtain ⟨c, A, r⟩ := F; exact ⟨c, ⟨K.2.1 a c A.1 q, A.2⟩, r⟩
theorem Ia.fun {g : Nat → Int32} (F : Ia Z h a ty n f) (e : ∀ j, j < n → f j = g j) : Ia Z h a ty n g := by
  obtain ⟨c, A, S, q, H⟩ := F; exact ⟨c, A, S, q, fun j hj => by rw [← e j hj]; exact H j hj⟩
theorem Ia.set {c : Cell} (A : Arr Z h a c ty) (S : c.slots.size = n) (q : n < 2147483648) (H : ∀ j, j < n → c.slots[j]? = some (.int (f j)) ∧ fits ty (.int (f j)) = true) {i : Nat} {x : Int32} (W : Wr h h' a i (.int x)) (hf : fits ty (.int x) = true) : Ia Z h' a ty n (up f i x) := by
  refine ⟨c.setSlot i (.int x), A.same W, by rw [sz_set]; exact S, q, fun j hj => ?_⟩
  by_cases e : j = i
  · subst e
    rw [up_at]
    refine ⟨?_, hf⟩
    have : j < c.slots.size := by omega
    simp [Cell.setSlot, this]
  · rw [up_ne _ _ e]
    refine ⟨?_, (H j hj).2⟩
    have : ¬ i = j := fun z => e z.symm
    rw [← (H j hj).1]
    simp [Cell.setSlot, this]
theorem Ia.mk0 {k : ClassId} {z : Int32} (A : Arr Z h a (newA k ty z) ty) (hz : z.toInt = (n : Int)) (hd : defaultValue ty = .int 0) (hf : fits ty (.int 0) = true) : Ia Z h a ty n (fun _ => 0) := by
  have e := clamp_of hz
  have := rng32 z
  refine ⟨_, A, by rw [sz_new, e], by omega, fun j hj => ⟨?_, hf⟩⟩
  show (Array.replicate z.toNatClampNeg (defaultValue ty))[j]? = _
  rw [e, hd]
  simp [hj]
end OwnArr
section OwnSteps
variable {p : Program} {l : Launch} {e : Env} {R : Room} {s : State} {m : MethodId} {args : Array Value} {below : List Frame} {meth : Method} {c : Code} {T : State} {locs : List Loc} {cells slots : Nat} {Z : State} {a0 : Array Value} {h : Heap} {a : Addr} {n : Nat} {f : Nat → Int32} {ty : FieldType}
theorem iaI (X : Stand p l e R s m args below meth c T locs cells slots) (hx : p.tables.exec = Jvm.exec) (hZ : Z.Warmed39 s.vm) (eT : T.heap = h) (A : Ia Z h a .int n f) {j x : Int32} (i : Nat) (hi : j.toInt = (i : Int)) (hn : i < n) {g : JFrame} (hg : g.method = m) {rest : List Value} (hs : g.stack = .int x :: .int j :: .ref a :: rest) (hd : decode c.code g.pc = .ok (.iastore, 1)) :
    ∃ T' h', Stand p l e R s m args below meth c T' (locs ++ [⟨a, i⟩]) cells slots ∧ T'.heap = h' ∧ Wr h h' a i (.int x) ∧ Ia Z h' a .int n (up f i x) ∧ ∀ target, Steps p.tables e below (T'.setTop { g with pc := g.pc + 1, stack := rest }) target → Steps p.tables e below (T.setTop g) target := by
  obtain ⟨cl, A1, S, q, H⟩ := A
  obtain ⟨T', h', X', e', W, st⟩ := stI X hx hZ eT A1 (j := j) (inb hi hn S) hg hs hd
  rw [clamp_of hi] at X' W
  exact ⟨T', h', X', e', W, Ia.set A1 S q H W rfl, st⟩
theorem iaB (X : Stand p l e R s m args below meth c T locs cells slots) (hx : p.tables.exec = Jvm.exec) (hZ : Z.Warmed39 s.vm) (eT : T.heap = h) (A : Ia Z h a .byte n f) {j x : Int32} (i : Nat) (hi : j.toInt = (i : Int)) (hn : i < n) {g : JFrame} (hg : g.method = m) {rest : List Value} (hs : g.stack = .int x :: .int j :: .ref a :: rest) (hd : decode c.code g.pc = .ok (.bastore, 1)) :
    ∃ T' h', Stand p l e R s m args below meth c T' (locs ++ [⟨a, i⟩]) cells slots ∧ T'.heap = h' ∧ Wr h h' a i (.int (nar .byte x)) ∧ Ia Z h' a .byte n (up f i (nar .byte x)) ∧ ∀ target, Steps p.tables e below (T'.setTop { g with pc := g.pc + 1, stack := rest }) target → Steps p.tables e below (T.setTop g) target := by
  obtain ⟨cl, A1, S, q, H⟩ := A
  obtain ⟨T', h', X', e', W, st⟩ := stB X hx hZ eT A1 (j := j) (inb hi hn S) hg hs hd
  rw [clamp_of hi] at X' W
  exact ⟨T', h', X', e', W, Ia.set A1 S q H W (fits_nar_byte _), st⟩
theorem iaC (X : Stand p l e R s m args below meth c T locs cells slots) (hx : p.tables.exec = Jvm.exec) (hZ : Z.Warmed39 s.vm) (eT : T.heap = h) (A : Ia Z h a .char n f) {j x : Int32} (i : Nat) (hi : j.toInt = (i : Int)) (hn : i < n) {g : JFrame} (hg : g.method = m) {rest : List Value} (hs : g.stack = .int x :: .int j :: .ref a :: rest) (hd : decode c.code g.pc = .ok (.castore, 1)) :
    ∃ T' h', Stand p l e R s m args below meth c T' (locs ++ [⟨a, i⟩]) cells slots ∧ T'.heap = h' ∧ Wr h h' a i (.int (nar .char x)) ∧ Ia Z h' a .char n (up f i (nar .char x)) ∧ ∀ target, Steps p.tables e below (T'.setTop { g with pc := g.pc + 1, stack := rest }) target → Steps p.tables e below (T.setTop g) target := by
  obtain ⟨cl, A1, S, q, H⟩ := A
  obtain ⟨T', h', X', e', W, st⟩ := stC X hx hZ eT A1 (j := j) (inb hi hn S) hg hs hd
  rw [clamp_of hi] at X' W
  exact ⟨T', h', X', e', W, Ia.set A1 S q H W (fits_nar_char _), st⟩
theorem iaLI (X : Stand p l e R s m args below meth c T locs cells slots) (hx : p.tables.exec = Jvm.exec) (hZ : Z.Warmed39 s.vm) (eT : T.heap = h) (A : Ia Z h a .int n f) {j : Int32} (i : Nat) (hi : j.toInt = (i : Int)) (hn : i < n) {g : JFrame} (hg : g.method = m) {rest : List Value} (hs : g.stack = .int j :: .ref a :: rest) (hd : decode c.code g.pc = .ok (.iaload, 1)) (target : State)
    (k : Steps p.tables e below (T.setTop { g with pc := g.pc + 1, stack := .int (f i) :: rest }) target) : Steps p.tables e below (T.setTop g) target := by
  obtain ⟨cl, A1, S, q, H⟩ := A
  exact X.iaload hx (j := j) (v := .int (f i)) (by rw [eT]; exact A1.1) (State.isArrayOf_alike hZ.alike A1.2.1) A1.2.2 (inb hi hn S) (by rw [clamp_of hi]; exact (H i hn).1) hg hs hd target k
theorem iaLB (X : Stand p l e R s m args below meth c T locs cells slots) (hx : p.tables.exec = Jvm.exec) (hZ : Z.Warmed39 s.vm) (eT : T.heap = h) (A : Ia Z h a .byte n f) {j : Int32} (i : Nat) (hi : j.toInt = (i : Int)) (hn : i < n) {g : JFrame} (hg : g.method = m) {rest : List Value} (hs : g.stack = .int j :: .ref a :: rest) (hd : decode c.code g.pc = .ok (.baload, 1)) (target : State)
    (k : Steps p.tables e below (T.setTop { g with pc := g.pc + 1, stack := .int (f i) :: rest }) target) : Steps p.tables e below (T.setTop g) target := by
  obtain ⟨cl, A1, S, q, H⟩ := A
  exact X.baloadBytes hx (j := j) (v := .int (f i)) (by rw [eT]; exact A1.1) (State.isArrayOf_alike hZ.alike A1.2.1) A1.2.2 (inb hi hn S) (by rw [clamp_of hi]; exact (H i hn).1) hg hs hd target k
theorem iaLC (X : Stand p l e R s m args below meth c T locs cells slots) (hx : p.tables.exec = Jvm.exec) (hZ : Z.Warmed39 s.vm) (eT : T.heap = h) (A : Ia Z h a .char n f) {j : Int32} (i : Nat) (hi : j.toInt = (i : Int)) (hn : i < n) {g : JFrame} (hg : g.method = m) {rest : List Value} (hs : g.stack = .int j :: .ref a :: rest) (hd : decode c.code g.pc = .ok (.caload, 1)) (target : State)
    (k : Steps p.tables e below (T.setTop { g with pc := g.pc + 1, stack := .int (f i) :: rest }) target) : Steps p.tables e below (T.setTop g) target := by
  obtain ⟨cl, A1, S, q, H⟩ := A
  exact X.caload hx (j := j) (v := .int (f i)) (by rw [eT]; exact A1.1) (State.isArrayOf_alike hZ.alike A1.2.1) A1.2.2 (inb hi hn S) (by rw [clamp_of hi]; exact (H i hn).1) hg hs hd target k
theorem iaLen (X : Stand p l e R s m args below meth c T locs cells slots) (hx : p.tables.exec = Jvm.exec) (hZ : Z.Warmed39 s.vm) (eT : T.heap = h) (A : Ia Z h a ty n f) {g : JFrame} (hg : g.method = m) {rest : List Value} (hs : g.stack = .ref a :: rest) (hd : decode c.code g.pc = .ok (.arraylength, 1)) (target : State)
    (k : Steps p.tables e below (T.setTop { g with pc := g.pc + 1, stack := .int (Int32.ofNat n) :: rest }) target) : Steps p.tables e below (T.setTop g) target := by
  obtain ⟨cl, A1, S, q, H⟩ := A
  refine X.arraylength hx (by rw [eT]; exact A1.1) (State.isArrayOf_alike hZ.alike A1.2.1) hg hs hd target ?_
  rw [S]
  exact k
theorem iaNew (X : Stand p l e R s m args below meth c T locs cells slots) (hx : p.tables.exec = Jvm.exec) (hZ : Z.Warmed39 s.vm) {aty : ArrayType} (w : (Cond.arrayClass (newarray.typeOf aty)).before a0 Z = true) (eT : T.heap = h) {g : JFrame} (hg : g.method = m) (hd : decode c.code g.pc = .ok (.newarray aty, 2)) {z : Int32} {rest : List Value} (hs : g.stack = .int z :: rest)
    (n : Nat) (hz : z.toInt = (n : Int)) (cap : Nat) (hcap : n ≤ cap) (hb : cap * 8 ≤ 536870912) (hc : cells + 1 ≤ R.cells) (hl : slots + cap ≤ R.slots) (h1 : defaultValue (newarray.typeOf aty) = .int 0) (h2 : fits (newarray.typeOf aty) (.int 0) = true) :
    ∃ T' h', Stand p l e R s m args below meth c T' locs (cells + 1) (slots + cap) ∧ T'.heap = h' ∧ Ext h h' ∧ Ia Z h' h.size (newarray.typeOf aty) n (fun _ => 0) ∧
      ∀ target, Steps p.tables e below (T'.setTop { g with pc := g.pc + 2, stack := .ref h.size :: rest }) target → Steps p.tables e below (T.setTop g) target := by
  obtain ⟨T', h', cA, X', e', E, A, st⟩ := newP X hx hZ w eT hg hd hs (by rw [Int32.lt_iff_toInt_lt, hz, show (0 : Int32).toInt = 0 from rfl]; omega) (cap := cap) (by rw [clamp_of hz]; exact hcap) hb hc hl
  exact ⟨T', h', X', e', E, Ia.mk0 A hz h1 h2, st⟩
end OwnSteps
section OwnSteps2
variable {p : Program} {l : Launch} {e : Env} {R : Room} {s : State} {m : MethodId} {args : Array Value} {below : List Frame} {meth : Method} {c : Code} {T : State} {locs : List Loc} {cells slots : Nat} {Z : State} {a0 : Array Value} {h : Heap} {a : Addr} {n : Nat} {f : Nat → Int32} {ty : FieldType}
theorem iaNewE (X : Stand p l e R s m args below meth c T locs cells slots) (hx : p.tables.exec = Jvm.exec) (hZ : Z.Warmed39 s.vm) {aty : ArrayType} (w : (Cond.arrayClass (newarray.typeOf aty)).before a0 Z = true) (eT : T.heap = h) {g : JFrame} (hg : g.method = m) (hd : decode c.code g.pc = .ok (.newarray aty, 2)) {z : Int32} {rest : List Value} (hs : g.stack = .int z :: rest)
    (n : Nat) (hz : z.toInt = (n : Int)) (cap : Nat) (hcap : n ≤ cap) (hb : cap * 8 ≤ 536870912) (hc : cells + 1 ≤ R.cells) (hl : slots + cap ≤ R.slots) (h1 : defaultValue (newarray.typeOf aty) = .int 0) (h2 : fits (newarray.typeOf aty) (.int 0) = true) {ad : String} (had : "[" ++ (newarray.typeOf aty).toString = ad) :
    ∃ T' h', Stand p l e R s m args below meth c T' locs (cells + 1) (slots + cap) ∧ T'.heap = h' ∧ Ext h h' ∧ Ia Z h' h.size (newarray.typeOf aty) n (fun _ => 0) ∧ Exa Z h' h.size ad ∧
      ∀ target, Steps p.tables e below (T'.setTop { g with pc := g.pc + 2, stack := .ref h.size :: rest }) target → Steps p.tables e below (T.setTop g) target := by
  obtain ⟨T', h', cA, X', e', E, A, B, st⟩ := newPE X hx hZ w eT hg hd hs (by rw [Int32.lt_iff_toInt_lt, hz, show (0 : Int32).toInt = 0 from rfl]; omega) (cap := cap) (by rw [clamp_of hz]; exact hcap) hb hc hl had
  exact ⟨T', h', X', e', E, Ia.mk0 A hz h1 h2, B, st⟩
theorem iaClone (X : Stand p l e R s m args below meth c T locs cells slots) (hx : p.tables.exec = Jvm.exec) (hZ : Z.Warmed39 s.vm) {own ad : String} {index : Nat} (hown : s.vm.findClass own = some m.cls)
    (w1 : (Cond.methodLink own index ⟨ad, "clone", "()Ljava/lang/Object;"⟩).before a0 Z = true) (w2 : (Cond.sameMethod ad "java/lang/Object" "clone" "()Ljava/lang/Object;").before a0 Z = true) (w3 : (Cond.native ⟨"java/lang/Object", "clone", "()Ljava/lang/Object;"⟩).before a0 Z = true)
    (w4 : (Cond.instanceMethod ⟨"java/lang/Object", "clone", "()Ljava/lang/Object;"⟩).before a0 Z = true) (w5 : (Cond.selects ad ⟨ad, "clone", "()Ljava/lang/Object;"⟩ ⟨"java/lang/Object", "clone", "()Ljava/lang/Object;"⟩).before a0 Z = true) (w6 : (Cond.castable ad "java/lang/Cloneable").before a0 Z = true)
    (eT : T.heap = h) (A : Ia Z h a ty n f) (E : Exa Z h a ad) {g : JFrame} (hg : g.method = m) (hsize : g.locals.size = c.maxLocals) {rest : List Value} (hs : g.stack = .ref a :: rest) (hd : decode c.code g.pc = .ok (.invokevirtual index, 3))
    (hf : 1 ≤ R.frames) {W cap : Nat} (hW : 2 * g.monitorRoom + (rest.map fun v => v.category).sum ≤ W) (hl : W + 14 ≤ R.locals) (hcap : n ≤ cap) (hc : cells + 1 ≤ R.cells) (hsl : slots + cap ≤ R.slots) :
    ∃ T' h', Stand p l e R s m args below meth c T' locs (cells + 1) (slots + cap) ∧ T'.heap = h' ∧ Ext h h' ∧ Ia Z h' h.size ty n f ∧ Exa Z h' h.size ad ∧
      ∀ target, Steps p.tables e below (T'.setTop { g with pc := g.pc + 3, stack := .ref h.size :: rest }) target → Steps p.tables e below (T.setTop g) target := by
  obtain ⟨cl, A1, S, q, H⟩ := A
  have FC : FitC Z cl := fitC_of A1 fun i hi v hv => by
    have h1 := H i (S ▸ hi)
    rw [h1.1] at hv
    cases hv
    exact h1.2
  obtain ⟨T', h', X', e', ex, A', E', st⟩ := cloneA X hx hZ hown w1 w2 w3 w4 w5 w6 eT A1 E FC hg hsize hs hd hf hW hl (by rw [S]; exact hcap) hc hsl
  exact ⟨T', h', X', e', ex, ⟨cloneOf cl, A', S, q, H⟩, E', st⟩
end OwnSteps2
theorem own_narb {x : Int32} (h : fits .byte (.int x) = true) : nar .byte x = x := by
  have h1 := rng_byte h
  have h2 := c_i2b x
  apply Int32.toInt_inj.mp
  show x.toInt8.toInt32.toInt = x.toInt
  rw [Int32.lt_iff_toInt_lt, Int32.lt_iff_toInt_lt, show (-128 : Int32).toInt = -128 from rfl, show (127 : Int32).toInt = 127 from rfl] at h1
  omega
theorem Ia.fit {Z : State} {h : Heap} {a : Addr} {n : Nat} {f : Nat → Int32} {ty : FieldType} (F : Ia Z h a ty n f) {j : Nat} (hj : j < n) : fits ty (.int (f j)) = true := by
  obtain ⟨c, A, S, q, H⟩ := F; exact (H j hj).2
-- BY HAND
def okP (fh : Nat → Int32) (a : Nat) (ed : Int32) (j : Nat) : Prop := a + j < 6 ∧ fh (a + j) ≠ ed ∧ (j = 0 ∨ fh (a + j) ≠ fh a)
def DD (fh : Nat → Int32) (a : Nat) (ed : Int32) (n kk : Nat) : Prop := kk ≤ n ∧ (∀ j, j < kk → okP fh a ed j) ∧ (kk = n ∨ ¬ okP fh a ed kk)
theorem own_ti {i n : Nat} (h : i ≤ n) (h8 : n ≤ 20) : (Int32.ofNat i).toInt = (i : Int) := Int32.toInt_ofNat_of_lt (by omega)
theorem own_one (i : Nat) : Int32.ofNat i + (1 : Int32) = Int32.ofNat (i + 1) := (Int32.ofNat_add i 1).symm
theorem own_ltn {i n : Nat} (h : i < n) (h8 : n ≤ 20) : Int32.ofNat i < Int32.ofNat n := by
  rw [Int32.lt_iff_toInt_lt, own_ti (Nat.le_of_lt h) h8, own_ti (Nat.le_refl _) h8]; omega
theorem own_irr (x : Int32) : ¬ x < x := by rw [Int32.lt_iff_toInt_lt]; omega
theorem own_pl {p : Int32} {a i : Nat} (h : p.toInt = (a : Int)) (ha : a ≤ 7) (hi : i ≤ 4) : (p + (Int32.ofNat i)).toInt = ((a + i : Nat) : Int) := by
  have h1 := c_iadd p (Int32.ofNat i)
  have h2 := rng32 (p + Int32.ofNat i)
  have h3 := own_ti hi (by decide)
  omega
theorem own_pl0 {p x : Int32} {a i : Nat} (h : p.toInt = (a : Int)) (hx : x.toInt = (i : Int)) (ha : a ≤ 7) (hi : i ≤ 4) : (p + x).toInt = ((a + i : Nat) : Int) := by
  have h1 := c_iadd p x
  have h2 := rng32 (p + x)
  omega
theorem own_six {p x : Int32} {a i : Nat} (h : p.toInt = (a : Int)) (hx : x.toInt = (i : Int)) (ha : a ≤ 7) (hi : i ≤ 4) : (p + x) < (6 : Int32) ↔ a + i < 6 := by
  rw [Int32.lt_iff_toInt_lt, own_pl0 h hx ha hi, show (6 : Int32).toInt = 6 from rfl]; omega
theorem own_st6 {x y z : Addr} {p q i v : Int32} {s6 : Slot} (h : One s6) : storeLocals #[.val (.ref x), .val (.int p), .val (.int q), .val (.ref y), .val (.ref z), .val (.int i), s6] 6 (.int v) = some #[.val (.ref x), .val (.int p), .val (.int q), .val (.ref y), .val (.ref z), .val (.int i), .val (.int v)] := by
  rcases h with rfl | ⟨w, rfl, hw⟩
  · rfl
  · cases w <;> first | rfl | (simp [Value.category] at hw)
theorem own_upd {fh fu g : Nat → Int32} {n a i : Nat} (hf : fits .byte (.int (fh (a + i))) = true) (hg : ∀ j, j < n → g j = if j < i then fh (a + j) else fu j) : ∀ j, j < n → up g i (nar .byte (fh (a + i))) j = if j < i + 1 then fh (a + j) else fu j := by
  intro j hj
  rw [own_narb hf]
  by_cases q : j = i
  · subst q
    rw [up_at, if_pos (Nat.lt_succ_self _)]
  · rw [up_ne _ _ q, hg j hj]
    by_cases z : j < i
    · rw [if_pos z, if_pos (by omega)]
    · rw [if_neg z, if_neg (by omega)]
theorem ef_1 (m : MethodId) (x0 : Int32) (x1 : Int32) : entryFrame m #[(.int x0), (.int x1)] 2 = mkF m 0 #[.val (.int x0), .val (.int x1)] [] := by first | (simp [entryFrame, mkF, argsToLocals, Value.category]; done) | rfl
theorem pn_0 : plainName "com/example/benchwire/benchwire/protocols/DelimitedTextDeclaredDelimitersPinLaw" = true := by first | (simp [plainName, overriddenIn]; done) | decide +kernel
theorem d1_0 : decode method_3_code 0 = .ok (.iload_n 0, 1) := by decide +kernel
theorem d1_1 : decode method_3_code 1 = .ok (.bipush 8, 2) := by decide +kernel
theorem d1_3 : decode method_3_code 3 = .ok (.iload_n 1, 1) := by decide +kernel
theorem d1_4 : decode method_3_code 4 = .ok (.imul, 1) := by decide +kernel
theorem d1_5 : decode method_3_code 5 = .ok (.iushr, 1) := by decide +kernel
theorem d1_6 : decode method_3_code 6 = .ok (.i2b, 1) := by decide +kernel
theorem d1_7 : decode method_3_code 7 = .ok (.ireturn, 1) := by decide +kernel
def f1 (p0 : Int32) (p1 : Int32) : Int32 := (nar .byte (((p0.toUInt32 >>> (((8 : Int32) * p1) &&& 31).toUInt32).toInt32).toInt8.toInt32))
def Q1 (Z : State) (p0 : Int32) (p1 : Int32)  (h0 : Heap) (v : Option Value) (h : Heap) (L : List Loc) : Prop := v = some (.int (f1 p0 p1)) ∧ L = [] ∧ h = h0
set_option maxRecDepth 65536 in
set_option maxHeartbeats 40000000 in
theorem rm1 (l : Launch) (Z : State) (a0 : Array Value) (hw : ∀ d ∈ tables_1, d.before a0 Z = true) (ws : List Jvm.Cond) (p0 : Int32) (p1 : Int32)  (h0 : Heap)  :
    MetFree l (⟨"com/example/benchwire/benchwire/protocols/DelimitedTextDeclaredDelimitersPinLaw", "pick", "(II)B"⟩ : MethodName) (head1 (Jvm.Cond.code (⟨"com/example/benchwire/benchwire/protocols/DelimitedTextDeclaredDelimitersPinLaw", "pick", "(II)B"⟩ : MethodName) method_3_code 2 (some .byte) :: ws) ({ frames := 0, cells := 0, slots := 0, locals := 0 } : Room)) (fun a U => a = #[(.int p0), (.int p1)] ∧ Z.Warmed39 U.vm ∧ U.heap = h0) (fun _ _ _ _ _ => True) (fun _ U o U' => ∃ v L, o = .returned v ∧ Q1 Z p0 p1  h0 v U'.heap L ∧ FrameEnd U o U' L ({ frames := 0, cells := 0, slots := 0, locals := 0 } : Room).cells ({ frames := 0, cells := 0, slots := 0, locals := 0 } : Room).slots) := by
  refine MetFree.of_bodySF (plainFor_of_name pn_0) hisR ?_
  intro p e s m args below meth c s₁ Bd hml0 hP hK
  obtain ⟨rfl, hZ, hh⟩ := hP
  have hx := Bd.exec
  have hby := Bd.bytes
  have hml : c.maxLocals = 2 := hml0
  have hown : s.vm.findClass "com/example/benchwire/benchwire/protocols/DelimitedTextDeclaredDelimitersPinLaw" = some m.cls := findClass_of_methodNamed Bd.named
  have hnm := (name_of_methodNamed Bd.named Bd.method).1
  have X0 : Stand p l e ({ frames := 0, cells := 0, slots := 0, locals := 0 } : Room) s m #[(.int p0), (.int p1)] below meth c s₁ [] 0 0 := Stand.of_body Bd
  have e0 : s₁.heap = h0 := by rw [← hh, Bd.state]; rfl
  have pre0 : ∀ t, Steps p.tables e below (s₁.setTop (mkF m 0 #[.val (.int p0), .val (.int p1)] [])) t → Steps p.tables e below (s₁.setTop (entryFrame m #[(.int p0), (.int p1)] 2)) t := fun t k => castTop (ef_1 m p0 p1) k
  have K1 : ∀ t, Steps p.tables e below (s₁.setTop (mkF m 7 #[.val (.int p0), .val (.int p1)] [(.int (((p0.toUInt32 >>> (((8 : Int32) * p1) &&& 31).toUInt32).toInt32).toInt8.toInt32))])) t → Steps p.tables e below (s₁.setTop (mkF m 0 #[.val (.int p0), .val (.int p1)] [])) t := by
    intro t kt
    show Steps p.tables e below (s₁.setTop (mkF m 0 #[.val (.int p0), .val (.int p1)] [])) _
    refine XS.iloadN X0.here hx rfl (hb hby d1_0) rfl ?_
    show Steps p.tables e below (s₁.setTop (mkF m 1 #[.val (.int p0), .val (.int p1)] [(.int p0)])) _
    refine XS.bipush X0.here hx rfl (hb hby d1_1) ?_
    show Steps p.tables e below (s₁.setTop (mkF m 3 #[.val (.int p0), .val (.int p1)] [(.int (8 : Int32)), (.int p0)])) _
    refine XS.iloadN X0.here hx rfl (hb hby d1_3) rfl ?_
    show Steps p.tables e below (s₁.setTop (mkF m 4 #[.val (.int p0), .val (.int p1)] [(.int p1), (.int (8 : Int32)), (.int p0)])) _
    refine XS.imul X0.here hx rfl (hb hby d1_4) rfl ?_
    show Steps p.tables e below (s₁.setTop (mkF m 5 #[.val (.int p0), .val (.int p1)] [(.int ((8 : Int32) * p1)), (.int p0)])) _
    refine XS.iushr X0.here hx rfl (hb hby d1_5) rfl ?_
    show Steps p.tables e below (s₁.setTop (mkF m 6 #[.val (.int p0), .val (.int p1)] [(.int ((p0.toUInt32 >>> (((8 : Int32) * p1) &&& 31).toUInt32).toInt32))])) _
    refine XS.i2b X0.here hx rfl (hb hby d1_6) rfl ?_
    exact kt
  have hv : f1 p0 p1 = (nar .byte (((p0.toUInt32 >>> (((8 : Int32) * p1) &&& 31).toUInt32).toInt32).toInt8.toInt32)) := rfl
  obtain ⟨fsQ, hr, hrun, hended, hW, hsame⟩ := X0.leave (v := some (.int (nar .byte (((p0.toUInt32 >>> (((8 : Int32) * p1) &&& 31).toUInt32).toInt32).toInt8.toInt32)))) (fun h => by rw [Bd.returns] at h; cases h)
  refine ⟨_, _, pre0 _ (K1 _ ?_), hrun, hended, _, _, rfl, ?_, ⟨_, rfl⟩, hW, hsame.mono (by decide) (by decide)⟩
  · show Steps p.tables e below (s₁.setTop (mkF m 7 #[.val (.int p0), .val (.int p1)] [(.int (((p0.toUInt32 >>> (((8 : Int32) * p1) &&& 31).toUInt32).toInt32).toInt8.toInt32))])) _
    exact retN X0 hx (t := .byte) Bd.returns (by simp) (hb hby d1_7) hr
  · show Q1 Z p0 p1  h0 _ s₁.heap _
    rw [e0]
    exact ⟨by rw [hv], rfl, rfl⟩
theorem d2_12 : decode prog_154_method_4_code 12 = .ok (.iload 5, 2) := by decide +kernel
theorem d2_14 : decode prog_154_method_4_code 14 = .ok (.aload 4, 2) := by decide +kernel
theorem d2_16 : decode prog_154_method_4_code 16 = .ok (.arraylength, 1) := by decide +kernel
theorem d2_17 : decode prog_154_method_4_code 17 = .ok (.if_icmp .ge 58, 3) := by decide +kernel
set_option maxRecDepth 65536 in
set_option maxHeartbeats 40000000 in
theorem tnX1 {p : Program} {l : Launch} {e : Env} {s : State} {m : MethodId} {args : Array Value} {below : List Frame} {meth : Method} {c : Code} {T0 : State} {locs : List Loc} {Z : State} {a0 : Array Value} {h0 : Heap} (o0 : Addr) (p1 : Int32) (p2 : Int32) (o3 : Addr) (b4 : Addr) (i : Nat) (s6 : Slot) (fh : Nat → Int32) (g : Nat → Int32) (n : Nat) (a : Nat) (n0 : Nat)
    (X0 : Stand p l e ({ frames := 1, cells := 1, slots := 4, locals := 14 } : Room) s m args below meth c T0 locs 1 4) (hx : p.tables.exec = Jvm.exec) (hZ : Z.Warmed39 s.vm) (hw : ∀ d ∈ tables_1, d.before a0 Z = true) (hby : c.code = prog_154_method_4_code) (hml : c.maxLocals = 7) (hown : s.vm.findClass "com/example/benchwire/benchwire/protocols/DelimitedText" = some m.cls) (e0 : T0.heap = h0) (N0 : Fr n0 locs) (Z0 : n0 ≤ h0.size) (AH : Ia Z h0 o0 .byte 6 fh) (AQ : Ia Z h0 b4 .byte n g) (x1 : o0 ≠ b4) (g4 : n0 ≤ b4) (hn : n ≤ 4) (ha : p1.toInt = (a : Int)) (ha7 : a ≤ 7) (hi4 : i ≤ 4) (hge : ¬ Int32.ofNat i < Int32.ofNat n) :
    ∃ (T' : State) (h' : Heap) (locs' : List Loc), Stand p l e ({ frames := 1, cells := 1, slots := 4, locals := 14 } : Room) s m args below meth c T' locs' 1 4 ∧ T'.heap = h' ∧ Fr n0 locs' ∧ n0 ≤ h'.size ∧ Keep h0 h' [b4] ∧ Ia Z h' o0 .byte 6 fh ∧ Ia Z h' b4 .byte n g ∧
      ∀ t, Steps p.tables e below (T'.setTop (mkF m 75 #[.val (.ref o0), .val (.int p1), .val (.int p2), .val (.ref o3), .val (.ref b4), .val (.int (Int32.ofNat i)), s6] [])) t → Steps p.tables e below (T0.setTop (mkF m 12 #[.val (.ref o0), .val (.int p1), .val (.int p2), .val (.ref o3), .val (.ref b4), .val (.int (Int32.ofNat i)), s6] [])) t := by
  have KP0 : Keep h0 h0 [b4] := Keep.refl _ _
  have K1 : ∀ t, Steps p.tables e below (T0.setTop (mkF m 75 #[.val (.ref o0), .val (.int p1), .val (.int p2), .val (.ref o3), .val (.ref b4), .val (.int (Int32.ofNat i)), s6] [])) t → Steps p.tables e below (T0.setTop (mkF m 12 #[.val (.ref o0), .val (.int p1), .val (.int p2), .val (.ref o3), .val (.ref b4), .val (.int (Int32.ofNat i)), s6] [])) t := by
    intro t kt
    show Steps p.tables e below (T0.setTop (mkF m 12 #[.val (.ref o0), .val (.int p1), .val (.int p2), .val (.ref o3), .val (.ref b4), .val (.int (Int32.ofNat i)), s6] [])) _
    refine XS.iload X0.here hx rfl (hb hby d2_12) rfl ?_
    show Steps p.tables e below (T0.setTop (mkF m 14 #[.val (.ref o0), .val (.int p1), .val (.int p2), .val (.ref o3), .val (.ref b4), .val (.int (Int32.ofNat i)), s6] [(.int (Int32.ofNat i))])) _
    refine XS.aload X0.here hx rfl (hb hby d2_14) rfl rfl ?_
    show Steps p.tables e below (T0.setTop (mkF m 16 #[.val (.ref o0), .val (.int p1), .val (.int p2), .val (.ref o3), .val (.ref b4), .val (.int (Int32.ofNat i)), s6] [(.ref b4), (.int (Int32.ofNat i))])) _
    refine iaLen X0 hx hZ e0 AQ (g := (mkF m 16 #[.val (.ref o0), .val (.int p1), .val (.int p2), .val (.ref o3), .val (.ref b4), .val (.int (Int32.ofNat i)), s6] [(.ref b4), (.int (Int32.ofNat i))])) rfl rfl (hb hby d2_16) _ ?_
    show Steps p.tables e below (T0.setTop (mkF m 17 #[.val (.ref o0), .val (.int p1), .val (.int p2), .val (.ref o3), .val (.ref b4), .val (.int (Int32.ofNat i)), s6] [(.int (Int32.ofNat n)), (.int (Int32.ofNat i))])) _
    refine XS.icmpYes X0.here hx rfl (pc0 := 17) (pc' := 75) rfl (hb hby d2_17) rfl (flt (show ¬ ((Int32.ofNat i) < (Int32.ofNat n)) from hge)).2.1 (by decide) (by decide) ?_
    exact kt
  exact ⟨T0, h0, _, X0, e0, N0, Z0, KP0, AH, AQ, K1⟩
theorem d2_20 : decode prog_154_method_4_code 20 = .ok (.iload_n 1, 1) := by decide +kernel
theorem d2_21 : decode prog_154_method_4_code 21 = .ok (.iload 5, 2) := by decide +kernel
theorem d2_23 : decode prog_154_method_4_code 23 = .ok (.iadd, 1) := by decide +kernel
theorem d2_24 : decode prog_154_method_4_code 24 = .ok (.istore 6, 2) := by decide +kernel
theorem d2_26 : decode prog_154_method_4_code 26 = .ok (.iload 6, 2) := by decide +kernel
theorem d2_28 : decode prog_154_method_4_code 28 = .ok (.aload_n 0, 1) := by decide +kernel
theorem d2_29 : decode prog_154_method_4_code 29 = .ok (.arraylength, 1) := by decide +kernel
theorem d2_30 : decode prog_154_method_4_code 30 = .ok (.if_icmp .ge 45, 3) := by decide +kernel
set_option maxRecDepth 65536 in
set_option maxHeartbeats 40000000 in
theorem tnX2 {p : Program} {l : Launch} {e : Env} {s : State} {m : MethodId} {args : Array Value} {below : List Frame} {meth : Method} {c : Code} {T0 : State} {locs : List Loc} {Z : State} {a0 : Array Value} {h0 : Heap} (o0 : Addr) (p1 : Int32) (p2 : Int32) (o3 : Addr) (b4 : Addr) (i : Nat) (s6 : Slot) (fh : Nat → Int32) (g : Nat → Int32) (n : Nat) (a : Nat) (n0 : Nat)
    (X0 : Stand p l e ({ frames := 1, cells := 1, slots := 4, locals := 14 } : Room) s m args below meth c T0 locs 1 4) (hx : p.tables.exec = Jvm.exec) (hZ : Z.Warmed39 s.vm) (hw : ∀ d ∈ tables_1, d.before a0 Z = true) (hby : c.code = prog_154_method_4_code) (hml : c.maxLocals = 7) (hown : s.vm.findClass "com/example/benchwire/benchwire/protocols/DelimitedText" = some m.cls) (e0 : T0.heap = h0) (N0 : Fr n0 locs) (Z0 : n0 ≤ h0.size) (AH : Ia Z h0 o0 .byte 6 fh) (AQ : Ia Z h0 b4 .byte n g) (x1 : o0 ≠ b4) (g4 : n0 ≤ b4) (hn : n ≤ 4) (ha : p1.toInt = (a : Int)) (ha7 : a ≤ 7) (hi4 : i ≤ 4) (hlt : Int32.ofNat i < Int32.ofNat n) (h6' : ¬ (p1 + (Int32.ofNat i)) < (6 : Int32)) (hs6 : One s6) :
    ∃ (T' : State) (h' : Heap) (locs' : List Loc), Stand p l e ({ frames := 1, cells := 1, slots := 4, locals := 14 } : Room) s m args below meth c T' locs' 1 4 ∧ T'.heap = h' ∧ Fr n0 locs' ∧ n0 ≤ h'.size ∧ Keep h0 h' [b4] ∧ Ia Z h' o0 .byte 6 fh ∧ Ia Z h' b4 .byte n g ∧
      ∀ t, Steps p.tables e below (T'.setTop (mkF m 75 #[.val (.ref o0), .val (.int p1), .val (.int p2), .val (.ref o3), .val (.ref b4), .val (.int (Int32.ofNat i)), .val (.int (p1 + (Int32.ofNat i)))] [])) t → Steps p.tables e below (T0.setTop (mkF m 12 #[.val (.ref o0), .val (.int p1), .val (.int p2), .val (.ref o3), .val (.ref b4), .val (.int (Int32.ofNat i)), s6] [])) t := by
  have KP0 : Keep h0 h0 [b4] := Keep.refl _ _
  have K1 : ∀ t, Steps p.tables e below (T0.setTop (mkF m 75 #[.val (.ref o0), .val (.int p1), .val (.int p2), .val (.ref o3), .val (.ref b4), .val (.int (Int32.ofNat i)), .val (.int (p1 + (Int32.ofNat i)))] [])) t → Steps p.tables e below (T0.setTop (mkF m 12 #[.val (.ref o0), .val (.int p1), .val (.int p2), .val (.ref o3), .val (.ref b4), .val (.int (Int32.ofNat i)), s6] [])) t := by
    intro t kt
    show Steps p.tables e below (T0.setTop (mkF m 12 #[.val (.ref o0), .val (.int p1), .val (.int p2), .val (.ref o3), .val (.ref b4), .val (.int (Int32.ofNat i)), s6] [])) _
    refine XS.iload X0.here hx rfl (hb hby d2_12) rfl ?_
    show Steps p.tables e below (T0.setTop (mkF m 14 #[.val (.ref o0), .val (.int p1), .val (.int p2), .val (.ref o3), .val (.ref b4), .val (.int (Int32.ofNat i)), s6] [(.int (Int32.ofNat i))])) _
    refine XS.aload X0.here hx rfl (hb hby d2_14) rfl rfl ?_
    show Steps p.tables e below (T0.setTop (mkF m 16 #[.val (.ref o0), .val (.int p1), .val (.int p2), .val (.ref o3), .val (.ref b4), .val (.int (Int32.ofNat i)), s6] [(.ref b4), (.int (Int32.ofNat i))])) _
    refine iaLen X0 hx hZ e0 AQ (g := (mkF m 16 #[.val (.ref o0), .val (.int p1), .val (.int p2), .val (.ref o3), .val (.ref b4), .val (.int (Int32.ofNat i)), s6] [(.ref b4), (.int (Int32.ofNat i))])) rfl rfl (hb hby d2_16) _ ?_
    show Steps p.tables e below (T0.setTop (mkF m 17 #[.val (.ref o0), .val (.int p1), .val (.int p2), .val (.ref o3), .val (.ref b4), .val (.int (Int32.ofNat i)), s6] [(.int (Int32.ofNat n)), (.int (Int32.ofNat i))])) _
    refine XS.icmpNo X0.here hx rfl (hb hby d2_17) rfl (tlt (show (Int32.ofNat i) < (Int32.ofNat n) from hlt)).2.1 ?_
    show Steps p.tables e below (T0.setTop (mkF m 20 #[.val (.ref o0), .val (.int p1), .val (.int p2), .val (.ref o3), .val (.ref b4), .val (.int (Int32.ofNat i)), s6] [])) _
    refine XS.iloadN X0.here hx rfl (hb hby d2_20) rfl ?_
    show Steps p.tables e below (T0.setTop (mkF m 21 #[.val (.ref o0), .val (.int p1), .val (.int p2), .val (.ref o3), .val (.ref b4), .val (.int (Int32.ofNat i)), s6] [(.int p1)])) _
    refine XS.iload X0.here hx rfl (hb hby d2_21) rfl ?_
    show Steps p.tables e below (T0.setTop (mkF m 23 #[.val (.ref o0), .val (.int p1), .val (.int p2), .val (.ref o3), .val (.ref b4), .val (.int (Int32.ofNat i)), s6] [(.int (Int32.ofNat i)), (.int p1)])) _
    refine XS.iadd X0.here hx rfl (hb hby d2_23) rfl ?_
    show Steps p.tables e below (T0.setTop (mkF m 24 #[.val (.ref o0), .val (.int p1), .val (.int p2), .val (.ref o3), .val (.ref b4), .val (.int (Int32.ofNat i)), s6] [(.int (p1 + (Int32.ofNat i)))])) _
    refine XS.istore X0.here hx rfl (hb hby d2_24) rfl (l' := #[.val (.ref o0), .val (.int p1), .val (.int p2), .val (.ref o3), .val (.ref b4), .val (.int (Int32.ofNat i)), .val (.int (p1 + (Int32.ofNat i)))]) (own_st6 hs6) ?_
    show Steps p.tables e below (T0.setTop (mkF m 26 #[.val (.ref o0), .val (.int p1), .val (.int p2), .val (.ref o3), .val (.ref b4), .val (.int (Int32.ofNat i)), .val (.int (p1 + (Int32.ofNat i)))] [])) _
    refine XS.iload X0.here hx rfl (hb hby d2_26) rfl ?_
    show Steps p.tables e below (T0.setTop (mkF m 28 #[.val (.ref o0), .val (.int p1), .val (.int p2), .val (.ref o3), .val (.ref b4), .val (.int (Int32.ofNat i)), .val (.int (p1 + (Int32.ofNat i)))] [(.int (p1 + (Int32.ofNat i)))])) _
    refine XS.aloadN X0.here hx rfl (hb hby d2_28) rfl rfl ?_
    show Steps p.tables e below (T0.setTop (mkF m 29 #[.val (.ref o0), .val (.int p1), .val (.int p2), .val (.ref o3), .val (.ref b4), .val (.int (Int32.ofNat i)), .val (.int (p1 + (Int32.ofNat i)))] [(.ref o0), (.int (p1 + (Int32.ofNat i)))])) _
    refine iaLen X0 hx hZ e0 AH (g := (mkF m 29 #[.val (.ref o0), .val (.int p1), .val (.int p2), .val (.ref o3), .val (.ref b4), .val (.int (Int32.ofNat i)), .val (.int (p1 + (Int32.ofNat i)))] [(.ref o0), (.int (p1 + (Int32.ofNat i)))])) rfl rfl (hb hby d2_29) _ ?_
    show Steps p.tables e below (T0.setTop (mkF m 30 #[.val (.ref o0), .val (.int p1), .val (.int p2), .val (.ref o3), .val (.ref b4), .val (.int (Int32.ofNat i)), .val (.int (p1 + (Int32.ofNat i)))] [(.int (6 : Int32)), (.int (p1 + (Int32.ofNat i)))])) _
    refine XS.icmpYes X0.here hx rfl (pc0 := 30) (pc' := 75) rfl (hb hby d2_30) rfl (flt (show ¬ ((p1 + (Int32.ofNat i)) < (6 : Int32)) from h6')).2.1 (by decide) (by decide) ?_
    exact kt
  exact ⟨T0, h0, _, X0, e0, N0, Z0, KP0, AH, AQ, K1⟩
theorem d2_33 : decode prog_154_method_4_code 33 = .ok (.aload_n 0, 1) := by decide +kernel
theorem d2_34 : decode prog_154_method_4_code 34 = .ok (.iload 6, 2) := by decide +kernel
theorem d2_36 : decode prog_154_method_4_code 36 = .ok (.baload, 1) := by decide +kernel
theorem d2_37 : decode prog_154_method_4_code 37 = .ok (.iload_n 2, 1) := by decide +kernel
theorem d2_38 : decode prog_154_method_4_code 38 = .ok (.if_icmp .eq 37, 3) := by decide +kernel
set_option maxRecDepth 65536 in
set_option maxHeartbeats 40000000 in
theorem tnX3 {p : Program} {l : Launch} {e : Env} {s : State} {m : MethodId} {args : Array Value} {below : List Frame} {meth : Method} {c : Code} {T0 : State} {locs : List Loc} {Z : State} {a0 : Array Value} {h0 : Heap} (o0 : Addr) (p1 : Int32) (p2 : Int32) (o3 : Addr) (b4 : Addr) (i : Nat) (s6 : Slot) (fh : Nat → Int32) (g : Nat → Int32) (n : Nat) (a : Nat) (n0 : Nat)
    (X0 : Stand p l e ({ frames := 1, cells := 1, slots := 4, locals := 14 } : Room) s m args below meth c T0 locs 1 4) (hx : p.tables.exec = Jvm.exec) (hZ : Z.Warmed39 s.vm) (hw : ∀ d ∈ tables_1, d.before a0 Z = true) (hby : c.code = prog_154_method_4_code) (hml : c.maxLocals = 7) (hown : s.vm.findClass "com/example/benchwire/benchwire/protocols/DelimitedText" = some m.cls) (e0 : T0.heap = h0) (N0 : Fr n0 locs) (Z0 : n0 ≤ h0.size) (AH : Ia Z h0 o0 .byte 6 fh) (AQ : Ia Z h0 b4 .byte n g) (x1 : o0 ≠ b4) (g4 : n0 ≤ b4) (hn : n ≤ 4) (ha : p1.toInt = (a : Int)) (ha7 : a ≤ 7) (hi4 : i ≤ 4) (hlt : Int32.ofNat i < Int32.ofNat n) (h6' : (p1 + (Int32.ofNat i)) < (6 : Int32)) (h6 : a + i < 6) (hs6 : One s6) (he : fh (a + i) = p2) :
    ∃ (T' : State) (h' : Heap) (locs' : List Loc), Stand p l e ({ frames := 1, cells := 1, slots := 4, locals := 14 } : Room) s m args below meth c T' locs' 1 4 ∧ T'.heap = h' ∧ Fr n0 locs' ∧ n0 ≤ h'.size ∧ Keep h0 h' [b4] ∧ Ia Z h' o0 .byte 6 fh ∧ Ia Z h' b4 .byte n g ∧
      ∀ t, Steps p.tables e below (T'.setTop (mkF m 75 #[.val (.ref o0), .val (.int p1), .val (.int p2), .val (.ref o3), .val (.ref b4), .val (.int (Int32.ofNat i)), .val (.int (p1 + (Int32.ofNat i)))] [])) t → Steps p.tables e below (T0.setTop (mkF m 12 #[.val (.ref o0), .val (.int p1), .val (.int p2), .val (.ref o3), .val (.ref b4), .val (.int (Int32.ofNat i)), s6] [])) t := by
  have KP0 : Keep h0 h0 [b4] := Keep.refl _ _
  have K1 : ∀ t, Steps p.tables e below (T0.setTop (mkF m 75 #[.val (.ref o0), .val (.int p1), .val (.int p2), .val (.ref o3), .val (.ref b4), .val (.int (Int32.ofNat i)), .val (.int (p1 + (Int32.ofNat i)))] [])) t → Steps p.tables e below (T0.setTop (mkF m 12 #[.val (.ref o0), .val (.int p1), .val (.int p2), .val (.ref o3), .val (.ref b4), .val (.int (Int32.ofNat i)), s6] [])) t := by
    intro t kt
    show Steps p.tables e below (T0.setTop (mkF m 12 #[.val (.ref o0), .val (.int p1), .val (.int p2), .val (.ref o3), .val (.ref b4), .val (.int (Int32.ofNat i)), s6] [])) _
    refine XS.iload X0.here hx rfl (hb hby d2_12) rfl ?_
    show Steps p.tables e below (T0.setTop (mkF m 14 #[.val (.ref o0), .val (.int p1), .val (.int p2), .val (.ref o3), .val (.ref b4), .val (.int (Int32.ofNat i)), s6] [(.int (Int32.ofNat i))])) _
    refine XS.aload X0.here hx rfl (hb hby d2_14) rfl rfl ?_
    show Steps p.tables e below (T0.setTop (mkF m 16 #[.val (.ref o0), .val (.int p1), .val (.int p2), .val (.ref o3), .val (.ref b4), .val (.int (Int32.ofNat i)), s6] [(.ref b4), (.int (Int32.ofNat i))])) _
    refine iaLen X0 hx hZ e0 AQ (g := (mkF m 16 #[.val (.ref o0), .val (.int p1), .val (.int p2), .val (.ref o3), .val (.ref b4), .val (.int (Int32.ofNat i)), s6] [(.ref b4), (.int (Int32.ofNat i))])) rfl rfl (hb hby d2_16) _ ?_
    show Steps p.tables e below (T0.setTop (mkF m 17 #[.val (.ref o0), .val (.int p1), .val (.int p2), .val (.ref o3), .val (.ref b4), .val (.int (Int32.ofNat i)), s6] [(.int (Int32.ofNat n)), (.int (Int32.ofNat i))])) _
    refine XS.icmpNo X0.here hx rfl (hb hby d2_17) rfl (tlt (show (Int32.ofNat i) < (Int32.ofNat n) from hlt)).2.1 ?_
    show Steps p.tables e below (T0.setTop (mkF m 20 #[.val (.ref o0), .val (.int p1), .val (.int p2), .val (.ref o3), .val (.ref b4), .val (.int (Int32.ofNat i)), s6] [])) _
    refine XS.iloadN X0.here hx rfl (hb hby d2_20) rfl ?_
    show Steps p.tables e below (T0.setTop (mkF m 21 #[.val (.ref o0), .val (.int p1), .val (.int p2), .val (.ref o3), .val (.ref b4), .val (.int (Int32.ofNat i)), s6] [(.int p1)])) _
    refine XS.iload X0.here hx rfl (hb hby d2_21) rfl ?_
    show Steps p.tables e below (T0.setTop (mkF m 23 #[.val (.ref o0), .val (.int p1), .val (.int p2), .val (.ref o3), .val (.ref b4), .val (.int (Int32.ofNat i)), s6] [(.int (Int32.ofNat i)), (.int p1)])) _
    refine XS.iadd X0.here hx rfl (hb hby d2_23) rfl ?_
    show Steps p.tables e below (T0.setTop (mkF m 24 #[.val (.ref o0), .val (.int p1), .val (.int p2), .val (.ref o3), .val (.ref b4), .val (.int (Int32.ofNat i)), s6] [(.int (p1 + (Int32.ofNat i)))])) _
    refine XS.istore X0.here hx rfl (hb hby d2_24) rfl (l' := #[.val (.ref o0), .val (.int p1), .val (.int p2), .val (.ref o3), .val (.ref b4), .val (.int (Int32.ofNat i)), .val (.int (p1 + (Int32.ofNat i)))]) (own_st6 hs6) ?_
    show Steps p.tables e below (T0.setTop (mkF m 26 #[.val (.ref o0), .val (.int p1), .val (.int p2), .val (.ref o3), .val (.ref b4), .val (.int (Int32.ofNat i)), .val (.int (p1 + (Int32.ofNat i)))] [])) _
    refine XS.iload X0.here hx rfl (hb hby d2_26) rfl ?_
    show Steps p.tables e below (T0.setTop (mkF m 28 #[.val (.ref o0), .val (.int p1), .val (.int p2), .val (.ref o3), .val (.ref b4), .val (.int (Int32.ofNat i)), .val (.int (p1 + (Int32.ofNat i)))] [(.int (p1 + (Int32.ofNat i)))])) _
    refine XS.aloadN X0.here hx rfl (hb hby d2_28) rfl rfl ?_
    show Steps p.tables e below (T0.setTop (mkF m 29 #[.val (.ref o0), .val (.int p1), .val (.int p2), .val (.ref o3), .val (.ref b4), .val (.int (Int32.ofNat i)), .val (.int (p1 + (Int32.ofNat i)))] [(.ref o0), (.int (p1 + (Int32.ofNat i)))])) _
    refine iaLen X0 hx hZ e0 AH (g := (mkF m 29 #[.val (.ref o0), .val (.int p1), .val (.int p2), .val (.ref o3), .val (.ref b4), .val (.int (Int32.ofNat i)), .val (.int (p1 + (Int32.ofNat i)))] [(.ref o0), (.int (p1 + (Int32.ofNat i)))])) rfl rfl (hb hby d2_29) _ ?_
    show Steps p.tables e below (T0.setTop (mkF m 30 #[.val (.ref o0), .val (.int p1), .val (.int p2), .val (.ref o3), .val (.ref b4), .val (.int (Int32.ofNat i)), .val (.int (p1 + (Int32.ofNat i)))] [(.int (6 : Int32)), (.int (p1 + (Int32.ofNat i)))])) _
    refine XS.icmpNo X0.here hx rfl (hb hby d2_30) rfl (tlt (show (p1 + (Int32.ofNat i)) < (6 : Int32) from h6')).2.1 ?_
    show Steps p.tables e below (T0.setTop (mkF m 33 #[.val (.ref o0), .val (.int p1), .val (.int p2), .val (.ref o3), .val (.ref b4), .val (.int (Int32.ofNat i)), .val (.int (p1 + (Int32.ofNat i)))] [])) _
    refine XS.aloadN X0.here hx rfl (hb hby d2_33) rfl rfl ?_
    show Steps p.tables e below (T0.setTop (mkF m 34 #[.val (.ref o0), .val (.int p1), .val (.int p2), .val (.ref o3), .val (.ref b4), .val (.int (Int32.ofNat i)), .val (.int (p1 + (Int32.ofNat i)))] [(.ref o0)])) _
    refine XS.iload X0.here hx rfl (hb hby d2_34) rfl ?_
    show Steps p.tables e below (T0.setTop (mkF m 36 #[.val (.ref o0), .val (.int p1), .val (.int p2), .val (.ref o3), .val (.ref b4), .val (.int (Int32.ofNat i)), .val (.int (p1 + (Int32.ofNat i)))] [(.int (p1 + (Int32.ofNat i))), (.ref o0)])) _
    refine iaLB X0 hx hZ e0 AH (j := (p1 + (Int32.ofNat i))) (a + i) (own_pl ha ha7 hi4) h6 (g := (mkF m 36 #[.val (.ref o0), .val (.int p1), .val (.int p2), .val (.ref o3), .val (.ref b4), .val (.int (Int32.ofNat i)), .val (.int (p1 + (Int32.ofNat i)))] [(.int (p1 + (Int32.ofNat i))), (.ref o0)])) rfl rfl (hb hby d2_36) _ ?_
    show Steps p.tables e below (T0.setTop (mkF m 37 #[.val (.ref o0), .val (.int p1), .val (.int p2), .val (.ref o3), .val (.ref b4), .val (.int (Int32.ofNat i)), .val (.int (p1 + (Int32.ofNat i)))] [(.int (fh (a + i)))])) _
    refine XS.iloadN X0.here hx rfl (hb hby d2_37) rfl ?_
    show Steps p.tables e below (T0.setTop (mkF m 38 #[.val (.ref o0), .val (.int p1), .val (.int p2), .val (.ref o3), .val (.ref b4), .val (.int (Int32.ofNat i)), .val (.int (p1 + (Int32.ofNat i)))] [(.int p2), (.int (fh (a + i)))])) _
    refine XS.icmpYes X0.here hx rfl (pc0 := 38) (pc' := 75) rfl (hb hby d2_38) rfl (teq (show (fh (a + i)) = p2 from he)).1 (by decide) (by decide) ?_
    exact kt
  exact ⟨T0, h0, _, X0, e0, N0, Z0, KP0, AH, AQ, K1⟩
theorem d2_41 : decode prog_154_method_4_code 41 = .ok (.iload 5, 2) := by decide +kernel
theorem d2_43 : decode prog_154_method_4_code 43 = .ok (.ifCond .le 17, 3) := by decide +kernel
theorem d2_46 : decode prog_154_method_4_code 46 = .ok (.aload_n 0, 1) := by decide +kernel
theorem d2_47 : decode prog_154_method_4_code 47 = .ok (.iload 6, 2) := by decide +kernel
theorem d2_49 : decode prog_154_method_4_code 49 = .ok (.baload, 1) := by decide +kernel
theorem d2_50 : decode prog_154_method_4_code 50 = .ok (.aload 4, 2) := by decide +kernel
theorem d2_52 : decode prog_154_method_4_code 52 = .ok (.iconst 0, 1) := by decide +kernel
theorem d2_53 : decode prog_154_method_4_code 53 = .ok (.baload, 1) := by decide +kernel
theorem d2_54 : decode prog_154_method_4_code 54 = .ok (.if_icmp .ne 6, 3) := by decide +kernel
theorem d2_57 : decode prog_154_method_4_code 57 = .ok (.goto 18, 3) := by decide +kernel
set_option maxRecDepth 65536 in
set_option maxHeartbeats 40000000 in
theorem tnX4 {p : Program} {l : Launch} {e : Env} {s : State} {m : MethodId} {args : Array Value} {below : List Frame} {meth : Method} {c : Code} {T0 : State} {locs : List Loc} {Z : State} {a0 : Array Value} {h0 : Heap} (o0 : Addr) (p1 : Int32) (p2 : Int32) (o3 : Addr) (b4 : Addr) (i : Nat) (s6 : Slot) (fh : Nat → Int32) (g : Nat → Int32) (n : Nat) (a : Nat) (n0 : Nat)
    (X0 : Stand p l e ({ frames := 1, cells := 1, slots := 4, locals := 14 } : Room) s m args below meth c T0 locs 1 4) (hx : p.tables.exec = Jvm.exec) (hZ : Z.Warmed39 s.vm) (hw : ∀ d ∈ tables_1, d.before a0 Z = true) (hby : c.code = prog_154_method_4_code) (hml : c.maxLocals = 7) (hown : s.vm.findClass "com/example/benchwire/benchwire/protocols/DelimitedText" = some m.cls) (e0 : T0.heap = h0) (N0 : Fr n0 locs) (Z0 : n0 ≤ h0.size) (AH : Ia Z h0 o0 .byte 6 fh) (AQ : Ia Z h0 b4 .byte n g) (x1 : o0 ≠ b4) (g4 : n0 ≤ b4) (hn : n ≤ 4) (ha : p1.toInt = (a : Int)) (ha7 : a ≤ 7) (hi4 : i ≤ 4) (hlt : Int32.ofNat i < Int32.ofNat n) (h6' : (p1 + (Int32.ofNat i)) < (6 : Int32)) (h6 : a + i < 6) (hs6 : One s6) (he : ¬ fh (a + i) = p2) (hz : (0 : Int32) < Int32.ofNat i) (hf : fh (a + i) = g 0) :
    ∃ (T' : State) (h' : Heap) (locs' : List Loc), Stand p l e ({ frames := 1, cells := 1, slots := 4, locals := 14 } : Room) s m args below meth c T' locs' 1 4 ∧ T'.heap = h' ∧ Fr n0 locs' ∧ n0 ≤ h'.size ∧ Keep h0 h' [b4] ∧ Ia Z h' o0 .byte 6 fh ∧ Ia Z h' b4 .byte n g ∧
      ∀ t, Steps p.tables e below (T'.setTop (mkF m 75 #[.val (.ref o0), .val (.int p1), .val (.int p2), .val (.ref o3), .val (.ref b4), .val (.int (Int32.ofNat i)), .val (.int (p1 + (Int32.ofNat i)))] [])) t → Steps p.tables e below (T0.setTop (mkF m 12 #[.val (.ref o0), .val (.int p1), .val (.int p2), .val (.ref o3), .val (.ref b4), .val (.int (Int32.ofNat i)), s6] [])) t := by
  have KP0 : Keep h0 h0 [b4] := Keep.refl _ _
  have K1 : ∀ t, Steps p.tables e below (T0.setTop (mkF m 75 #[.val (.ref o0), .val (.int p1), .val (.int p2), .val (.ref o3), .val (.ref b4), .val (.int (Int32.ofNat i)), .val (.int (p1 + (Int32.ofNat i)))] [])) t → Steps p.tables e below (T0.setTop (mkF m 12 #[.val (.ref o0), .val (.int p1), .val (.int p2), .val (.ref o3), .val (.ref b4), .val (.int (Int32.ofNat i)), s6] [])) t := by
    intro t kt
    show Steps p.tables e below (T0.setTop (mkF m 12 #[.val (.ref o0), .val (.int p1), .val (.int p2), .val (.ref o3), .val (.ref b4), .val (.int (Int32.ofNat i)), s6] [])) _
    refine XS.iload X0.here hx rfl (hb hby d2_12) rfl ?_
    show Steps p.tables e below (T0.setTop (mkF m 14 #[.val (.ref o0), .val (.int p1), .val (.int p2), .val (.ref o3), .val (.ref b4), .val (.int (Int32.ofNat i)), s6] [(.int (Int32.ofNat i))])) _
    refine XS.aload X0.here hx rfl (hb hby d2_14) rfl rfl ?_
    show Steps p.tables e below (T0.setTop (mkF m 16 #[.val (.ref o0), .val (.int p1), .val (.int p2), .val (.ref o3), .val (.ref b4), .val (.int (Int32.ofNat i)), s6] [(.ref b4), (.int (Int32.ofNat i))])) _
    refine iaLen X0 hx hZ e0 AQ (g := (mkF m 16 #[.val (.ref o0), .val (.int p1), .val (.int p2), .val (.ref o3), .val (.ref b4), .val (.int (Int32.ofNat i)), s6] [(.ref b4), (.int (Int32.ofNat i))])) rfl rfl (hb hby d2_16) _ ?_
    show Steps p.tables e below (T0.setTop (mkF m 17 #[.val (.ref o0), .val (.int p1), .val (.int p2), .val (.ref o3), .val (.ref b4), .val (.int (Int32.ofNat i)), s6] [(.int (Int32.ofNat n)), (.int (Int32.ofNat i))])) _
    refine XS.icmpNo X0.here hx rfl (hb hby d2_17) rfl (tlt (show (Int32.ofNat i) < (Int32.ofNat n) from hlt)).2.1 ?_
    show Steps p.tables e below (T0.setTop (mkF m 20 #[.val (.ref o0), .val (.int p1), .val (.int p2), .val (.ref o3), .val (.ref b4), .val (.int (Int32.ofNat i)), s6] [])) _
    refine XS.iloadN X0.here hx rfl (hb hby d2_20) rfl ?_
    show Steps p.tables e below (T0.setTop (mkF m 21 #[.val (.ref o0), .val (.int p1), .val (.int p2), .val (.ref o3), .val (.ref b4), .val (.int (Int32.ofNat i)), s6] [(.int p1)])) _
    refine XS.iload X0.here hx rfl (hb hby d2_21) rfl ?_
    show Steps p.tables e below (T0.setTop (mkF m 23 #[.val (.ref o0), .val (.int p1), .val (.int p2), .val (.ref o3), .val (.ref b4), .val (.int (Int32.ofNat i)), s6] [(.int (Int32.ofNat i)), (.int p1)])) _
    refine XS.iadd X0.here hx rfl (hb hby d2_23) rfl ?_
    show Steps p.tables e below (T0.setTop (mkF m 24 #[.val (.ref o0), .val (.int p1), .val (.int p2), .val (.ref o3), .val (.ref b4), .val (.int (Int32.ofNat i)), s6] [(.int (p1 + (Int32.ofNat i)))])) _
    refine XS.istore X0.here hx rfl (hb hby d2_24) rfl (l' := #[.val (.ref o0), .val (.int p1), .val (.int p2), .val (.ref o3), .val (.ref b4), .val (.int (Int32.ofNat i)), .val (.int (p1 + (Int32.ofNat i)))]) (own_st6 hs6) ?_
    show Steps p.tables e below (T0.setTop (mkF m 26 #[.val (.ref o0), .val (.int p1), .val (.int p2), .val (.ref o3), .val (.ref b4), .val (.int (Int32.ofNat i)), .val (.int (p1 + (Int32.ofNat i)))] [])) _
    refine XS.iload X0.here hx rfl (hb hby d2_26) rfl ?_
    show Steps p.tables e below (T0.setTop (mkF m 28 #[.val (.ref o0), .val (.int p1), .val (.int p2), .val (.ref o3), .val (.ref b4), .val (.int (Int32.ofNat i)), .val (.int (p1 + (Int32.ofNat i)))] [(.int (p1 + (Int32.ofNat i)))])) _
    refine XS.aloadN X0.here hx rfl (hb hby d2_28) rfl rfl ?_
    show Steps p.tables e below (T0.setTop (mkF m 29 #[.val (.ref o0), .val (.int p1), .val (.int p2), .val (.ref o3), .val (.ref b4), .val (.int (Int32.ofNat i)), .val (.int (p1 + (Int32.ofNat i)))] [(.ref o0), (.int (p1 + (Int32.ofNat i)))])) _
    refine iaLen X0 hx hZ e0 AH (g := (mkF m 29 #[.val (.ref o0), .val (.int p1), .val (.int p2), .val (.ref o3), .val (.ref b4), .val (.int (Int32.ofNat i)), .val (.int (p1 + (Int32.ofNat i)))] [(.ref o0), (.int (p1 + (Int32.ofNat i)))])) rfl rfl (hb hby d2_29) _ ?_
    show Steps p.tables e below (T0.setTop (mkF m 30 #[.val (.ref o0), .val (.int p1), .val (.int p2), .val (.ref o3), .val (.ref b4), .val (.int (Int32.ofNat i)), .val (.int (p1 + (Int32.ofNat i)))] [(.int (6 : Int32)), (.int (p1 + (Int32.ofNat i)))])) _
    refine XS.icmpNo X0.here hx rfl (hb hby d2_30) rfl (tlt (show (p1 + (Int32.ofNat i)) < (6 : Int32) from h6')).2.1 ?_
    show Steps p.tables e below (T0.setTop (mkF m 33 #[.val (.ref o0), .val (.int p1), .val (.int p2), .val (.ref o3), .val (.ref b4), .val (.int (Int32.ofNat i)), .val (.int (p1 + (Int32.ofNat i)))] [])) _
    refine XS.aloadN X0.here hx rfl (hb hby d2_33) rfl rfl ?_
    show Steps p.tables e below (T0.setTop (mkF m 34 #[.val (.ref o0), .val (.int p1), .val (.int p2), .val (.ref o3), .val (.ref b4), .val (.int (Int32.ofNat i)), .val (.int (p1 + (Int32.ofNat i)))] [(.ref o0)])) _
    refine XS.iload X0.here hx rfl (hb hby d2_34) rfl ?_
    show Steps p.tables e below (T0.setTop (mkF m 36 #[.val (.ref o0), .val (.int p1), .val (.int p2), .val (.ref o3), .val (.ref b4), .val (.int (Int32.ofNat i)), .val (.int (p1 + (Int32.ofNat i)))] [(.int (p1 + (Int32.ofNat i))), (.ref o0)])) _
    refine iaLB X0 hx hZ e0 AH (j := (p1 + (Int32.ofNat i))) (a + i) (own_pl ha ha7 hi4) h6 (g := (mkF m 36 #[.val (.ref o0), .val (.int p1), .val (.int p2), .val (.ref o3), .val (.ref b4), .val (.int (Int32.ofNat i)), .val (.int (p1 + (Int32.ofNat i)))] [(.int (p1 + (Int32.ofNat i))), (.ref o0)])) rfl rfl (hb hby d2_36) _ ?_
    show Steps p.tables e below (T0.setTop (mkF m 37 #[.val (.ref o0), .val (.int p1), .val (.int p2), .val (.ref o3), .val (.ref b4), .val (.int (Int32.ofNat i)), .val (.int (p1 + (Int32.ofNat i)))] [(.int (fh (a + i)))])) _
    refine XS.iloadN X0.here hx rfl (hb hby d2_37) rfl ?_
    show Steps p.tables e below (T0.setTop (mkF m 38 #[.val (.ref o0), .val (.int p1), .val (.int p2), .val (.ref o3), .val (.ref b4), .val (.int (Int32.ofNat i)), .val (.int (p1 + (Int32.ofNat i)))] [(.int p2), (.int (fh (a + i)))])) _
    refine XS.icmpNo X0.here hx rfl (hb hby d2_38) rfl (feq (show ¬ ((fh (a + i)) = p2) from he)).1 ?_
    show Steps p.tables e below (T0.setTop (mkF m 41 #[.val (.ref o0), .val (.int p1), .val (.int p2), .val (.ref o3), .val (.ref b4), .val (.int (Int32.ofNat i)), .val (.int (p1 + (Int32.ofNat i)))] [])) _
    refine XS.iload X0.here hx rfl (hb hby d2_41) rfl ?_
    show Steps p.tables e below (T0.setTop (mkF m 43 #[.val (.ref o0), .val (.int p1), .val (.int p2), .val (.ref o3), .val (.ref b4), .val (.int (Int32.ofNat i)), .val (.int (p1 + (Int32.ofNat i)))] [(.int (Int32.ofNat i))])) _
    refine XS.ifNo X0.here hx rfl (hb hby d2_43) rfl ((if0 _ _).trans (tlt (show (0 : Int32) < (Int32.ofNat i) from hz)).2.2.2) ?_
    show Steps p.tables e below (T0.setTop (mkF m 46 #[.val (.ref o0), .val (.int p1), .val (.int p2), .val (.ref o3), .val (.ref b4), .val (.int (Int32.ofNat i)), .val (.int (p1 + (Int32.ofNat i)))] [])) _
    refine XS.aloadN X0.here hx rfl (hb hby d2_46) rfl rfl ?_
    show Steps p.tables e below (T0.setTop (mkF m 47 #[.val (.ref o0), .val (.int p1), .val (.int p2), .val (.ref o3), .val (.ref b4), .val (.int (Int32.ofNat i)), .val (.int (p1 + (Int32.ofNat i)))] [(.ref o0)])) _
    refine XS.iload X0.here hx rfl (hb hby d2_47) rfl ?_
    show Steps p.tables e below (T0.setTop (mkF m 49 #[.val (.ref o0), .val (.int p1), .val (.int p2), .val (.ref o3), .val (.ref b4), .val (.int (Int32.ofNat i)), .val (.int (p1 + (Int32.ofNat i)))] [(.int (p1 + (Int32.ofNat i))), (.ref o0)])) _
    refine iaLB X0 hx hZ e0 AH (j := (p1 + (Int32.ofNat i))) (a + i) (own_pl ha ha7 hi4) h6 (g := (mkF m 49 #[.val (.ref o0), .val (.int p1), .val (.int p2), .val (.ref o3), .val (.ref b4), .val (.int (Int32.ofNat i)), .val (.int (p1 + (Int32.ofNat i)))] [(.int (p1 + (Int32.ofNat i))), (.ref o0)])) rfl rfl (hb hby d2_49) _ ?_
    show Steps p.tables e below (T0.setTop (mkF m 50 #[.val (.ref o0), .val (.int p1), .val (.int p2), .val (.ref o3), .val (.ref b4), .val (.int (Int32.ofNat i)), .val (.int (p1 + (Int32.ofNat i)))] [(.int (fh (a + i)))])) _
    refine XS.aload X0.here hx rfl (hb hby d2_50) rfl rfl ?_
    show Steps p.tables e below (T0.setTop (mkF m 52 #[.val (.ref o0), .val (.int p1), .val (.int p2), .val (.ref o3), .val (.ref b4), .val (.int (Int32.ofNat i)), .val (.int (p1 + (Int32.ofNat i)))] [(.ref b4), (.int (fh (a + i)))])) _
    refine XS.iconst X0.here hx rfl (hb hby d2_52) ?_
    show Steps p.tables e below (T0.setTop (mkF m 53 #[.val (.ref o0), .val (.int p1), .val (.int p2), .val (.ref o3), .val (.ref b4), .val (.int (Int32.ofNat i)), .val (.int (p1 + (Int32.ofNat i)))] [(.int (0 : Int32)), (.ref b4), (.int (fh (a + i)))])) _
    refine iaLB X0 hx hZ e0 AQ (j := (0 : Int32)) 0 rfl (by have := hlt; rw [Int32.lt_iff_toInt_lt, own_ti hi4 (by decide), own_ti (Nat.le_refl n) (by omega)] at this; omega) (g := (mkF m 53 #[.val (.ref o0), .val (.int p1), .val (.int p2), .val (.ref o3), .val (.ref b4), .val (.int (Int32.ofNat i)), .val (.int (p1 + (Int32.ofNat i)))] [(.int (0 : Int32)), (.ref b4), (.int (fh (a + i)))])) rfl rfl (hb hby d2_53) _ ?_
    show Steps p.tables e below (T0.setTop (mkF m 54 #[.val (.ref o0), .val (.int p1), .val (.int p2), .val (.ref o3), .val (.ref b4), .val (.int (Int32.ofNat i)), .val (.int (p1 + (Int32.ofNat i)))] [(.int (g 0)), (.int (fh (a + i)))])) _
    refine XS.icmpNo X0.here hx rfl (hb hby d2_54) rfl (teq (show (fh (a + i)) = (g 0) from hf)).2 ?_
    show Steps p.tables e below (T0.setTop (mkF m 57 #[.val (.ref o0), .val (.int p1), .val (.int p2), .val (.ref o3), .val (.ref b4), .val (.int (Int32.ofNat i)), .val (.int (p1 + (Int32.ofNat i)))] [])) _
    refine XS.goto X0.here hx rfl (pc0 := 57) (pc' := 75) rfl (hb hby d2_57) (by decide) (by decide) ?_
    exact kt
  exact ⟨T0, h0, _, X0, e0, N0, Z0, KP0, AH, AQ, K1⟩
theorem d2_60 : decode prog_154_method_4_code 60 = .ok (.aload 4, 2) := by decide +kernel
theorem d2_62 : decode prog_154_method_4_code 62 = .ok (.iload 5, 2) := by decide +kernel
theorem d2_64 : decode prog_154_method_4_code 64 = .ok (.aload_n 0, 1) := by decide +kernel
theorem d2_65 : decode prog_154_method_4_code 65 = .ok (.iload 6, 2) := by decide +kernel
theorem d2_67 : decode prog_154_method_4_code 67 = .ok (.baload, 1) := by decide +kernel
theorem d2_68 : decode prog_154_method_4_code 68 = .ok (.bastore, 1) := by decide +kernel
theorem d2_69 : decode prog_154_method_4_code 69 = .ok (.iinc 5 1, 3) := by decide +kernel
theorem d2_72 : decode prog_154_method_4_code 72 = .ok (.goto (-60), 3) := by decide +kernel
set_option maxRecDepth 65536 in
set_option maxHeartbeats 40000000 in
theorem tnT0 {p : Program} {l : Launch} {e : Env} {s : State} {m : MethodId} {args : Array Value} {below : List Frame} {meth : Method} {c : Code} {T0 : State} {locs : List Loc} {Z : State} {a0 : Array Value} {h0 : Heap} (o0 : Addr) (p1 : Int32) (p2 : Int32) (o3 : Addr) (b4 : Addr) (i : Nat) (s6 : Slot) (fh : Nat → Int32) (g : Nat → Int32) (n : Nat) (a : Nat) (n0 : Nat)
    (X0 : Stand p l e ({ frames := 1, cells := 1, slots := 4, locals := 14 } : Room) s m args below meth c T0 locs 1 4) (hx : p.tables.exec = Jvm.exec) (hZ : Z.Warmed39 s.vm) (hw : ∀ d ∈ tables_1, d.before a0 Z = true) (hby : c.code = prog_154_method_4_code) (hml : c.maxLocals = 7) (hown : s.vm.findClass "com/example/benchwire/benchwire/protocols/DelimitedText" = some m.cls) (e0 : T0.heap = h0) (N0 : Fr n0 locs) (Z0 : n0 ≤ h0.size) (AH : Ia Z h0 o0 .byte 6 fh) (AQ : Ia Z h0 b4 .byte n g) (x1 : o0 ≠ b4) (g4 : n0 ≤ b4) (hn : n ≤ 4) (ha : p1.toInt = (a : Int)) (ha7 : a ≤ 7) (hi4 : i ≤ 4) (hlt : Int32.ofNat i < Int32.ofNat n) (h6' : (p1 + (Int32.ofNat i)) < (6 : Int32)) (h6 : a + i < 6) (hs6 : One s6) (he : ¬ fh (a + i) = p2) (hz : ¬ (0 : Int32) < Int32.ofNat i) :
    ∃ (T' : State) (h' : Heap) (locs' : List Loc), Stand p l e ({ frames := 1, cells := 1, slots := 4, locals := 14 } : Room) s m args below meth c T' locs' 1 4 ∧ T'.heap = h' ∧ Fr n0 locs' ∧ n0 ≤ h'.size ∧ Keep h0 h' [b4] ∧ Ia Z h' o0 .byte 6 fh ∧ Ia Z h' b4 .byte n (up g i (nar .byte (fh (a + i)))) ∧
      ∀ t, Steps p.tables e below (T'.setTop (mkF m 12 #[.val (.ref o0), .val (.int p1), .val (.int p2), .val (.ref o3), .val (.ref b4), .val (.int ((Int32.ofNat i) + (1 : Int32))), .val (.int (p1 + (Int32.ofNat i)))] [])) t → Steps p.tables e below (T0.setTop (mkF m 12 #[.val (.ref o0), .val (.int p1), .val (.int p2), .val (.ref o3), .val (.ref b4), .val (.int (Int32.ofNat i)), s6] [])) t := by
  have KP0 : Keep h0 h0 [b4] := Keep.refl _ _
  obtain ⟨T1, h1, X1, e1, W1, A1, st1⟩ := iaB X0 hx hZ e0 AQ (j := (Int32.ofNat i)) i (own_ti hi4 (by decide)) (by have := hlt; rw [Int32.lt_iff_toInt_lt, own_ti hi4 (by decide), own_ti (Nat.le_refl n) (by omega)] at this; omega) (g := (mkF m 68 #[.val (.ref o0), .val (.int p1), .val (.int p2), .val (.ref o3), .val (.ref b4), .val (.int (Int32.ofNat i)), .val (.int (p1 + (Int32.ofNat i)))] [(.int (fh (a + i))), (.int (Int32.ofNat i)), (.ref b4)])) rfl rfl (hb hby d2_68)
  have G2 : Ia Z h1 o0 .byte 6 fh := AH.other W1 x1
  have G3 : Ia Z h1 b4 .byte n (up g i (nar .byte (fh (a + i)))) := A1
  have Z1 : n0 ≤ h1.size := Nat.le_trans Z0 (Keep.of_wr W1).1
  have N1 := Fr.snoc X1 N0 g4
  have KP1 : Keep h0 h1 [b4] := KP0.wr W1 (Or.inl (List.mem_of_getElem? (i := 0) rfl))
  have K4 : ∀ t, Steps p.tables e below (T1.setTop (mkF m 12 #[.val (.ref o0), .val (.int p1), .val (.int p2), .val (.ref o3), .val (.ref b4), .val (.int ((Int32.ofNat i) + (1 : Int32))), .val (.int (p1 + (Int32.ofNat i)))] [])) t → Steps p.tables e below (T0.setTop (mkF m 12 #[.val (.ref o0), .val (.int p1), .val (.int p2), .val (.ref o3), .val (.ref b4), .val (.int (Int32.ofNat i)), s6] [])) t := by
    intro t kt
    show Steps p.tables e below (T0.setTop (mkF m 12 #[.val (.ref o0), .val (.int p1), .val (.int p2), .val (.ref o3), .val (.ref b4), .val (.int (Int32.ofNat i)), s6] [])) _
    refine XS.iload X0.here hx rfl (hb hby d2_12) rfl ?_
    show Steps p.tables e below (T0.setTop (mkF m 14 #[.val (.ref o0), .val (.int p1), .val (.int p2), .val (.ref o3), .val (.ref b4), .val (.int (Int32.ofNat i)), s6] [(.int (Int32.ofNat i))])) _
    refine XS.aload X0.here hx rfl (hb hby d2_14) rfl rfl ?_
    show Steps p.tables e below (T0.setTop (mkF m 16 #[.val (.ref o0), .val (.int p1), .val (.int p2), .val (.ref o3), .val (.ref b4), .val (.int (Int32.ofNat i)), s6] [(.ref b4), (.int (Int32.ofNat i))])) _
    refine iaLen X0 hx hZ e0 AQ (g := (mkF m 16 #[.val (.ref o0), .val (.int p1), .val (.int p2), .val (.ref o3), .val (.ref b4), .val (.int (Int32.ofNat i)), s6] [(.ref b4), (.int (Int32.ofNat i))])) rfl rfl (hb hby d2_16) _ ?_
    show Steps p.tables e below (T0.setTop (mkF m 17 #[.val (.ref o0), .val (.int p1), .val (.int p2), .val (.ref o3), .val (.ref b4), .val (.int (Int32.ofNat i)), s6] [(.int (Int32.ofNat n)), (.int (Int32.ofNat i))])) _
    refine XS.icmpNo X0.here hx rfl (hb hby d2_17) rfl (tlt (show (Int32.ofNat i) < (Int32.ofNat n) from hlt)).2.1 ?_
    show Steps p.tables e below (T0.setTop (mkF m 20 #[.val (.ref o0), .val (.int p1), .val (.int p2), .val (.ref o3), .val (.ref b4), .val (.int (Int32.ofNat i)), s6] [])) _
    refine XS.iloadN X0.here hx rfl (hb hby d2_20) rfl ?_
    show Steps p.tables e below (T0.setTop (mkF m 21 #[.val (.ref o0), .val (.int p1), .val (.int p2), .val (.ref o3), .val (.ref b4), .val (.int (Int32.ofNat i)), s6] [(.int p1)])) _
    refine XS.iload X0.here hx rfl (hb hby d2_21) rfl ?_
    show Steps p.tables e below (T0.setTop (mkF m 23 #[.val (.ref o0), .val (.int p1), .val (.int p2), .val (.ref o3), .val (.ref b4), .val (.int (Int32.ofNat i)), s6] [(.int (Int32.ofNat i)), (.int p1)])) _
    refine XS.iadd X0.here hx rfl (hb hby d2_23) rfl ?_
    show Steps p.tables e below (T0.setTop (mkF m 24 #[.val (.ref o0), .val (.int p1), .val (.int p2), .val (.ref o3), .val (.ref b4), .val (.int (Int32.ofNat i)), s6] [(.int (p1 + (Int32.ofNat i)))])) _
    refine XS.istore X0.here hx rfl (hb hby d2_24) rfl (l' := #[.val (.ref o0), .val (.int p1), .val (.int p2), .val (.ref o3), .val (.ref b4), .val (.int (Int32.ofNat i)), .val (.int (p1 + (Int32.ofNat i)))]) (own_st6 hs6) ?_
    show Steps p.tables e below (T0.setTop (mkF m 26 #[.val (.ref o0), .val (.int p1), .val (.int p2), .val (.ref o3), .val (.ref b4), .val (.int (Int32.ofNat i)), .val (.int (p1 + (Int32.ofNat i)))] [])) _
    refine XS.iload X0.here hx rfl (hb hby d2_26) rfl ?_
    show Steps p.tables e below (T0.setTop (mkF m 28 #[.val (.ref o0), .val (.int p1), .val (.int p2), .val (.ref o3), .val (.ref b4), .val (.int (Int32.ofNat i)), .val (.int (p1 + (Int32.ofNat i)))] [(.int (p1 + (Int32.ofNat i)))])) _
    refine XS.aloadN X0.here hx rfl (hb hby d2_28) rfl rfl ?_
    show Steps p.tables e below (T0.setTop (mkF m 29 #[.val (.ref o0), .val (.int p1), .val (.int p2), .val (.ref o3), .val (.ref b4), .val (.int (Int32.ofNat i)), .val (.int (p1 + (Int32.ofNat i)))] [(.ref o0), (.int (p1 + (Int32.ofNat i)))])) _
    refine iaLen X0 hx hZ e0 AH (g := (mkF m 29 #[.val (.ref o0), .val (.int p1), .val (.int p2), .val (.ref o3), .val (.ref b4), .val (.int (Int32.ofNat i)), .val (.int (p1 + (Int32.ofNat i)))] [(.ref o0), (.int (p1 + (Int32.ofNat i)))])) rfl rfl (hb hby d2_29) _ ?_
    show Steps p.tables e below (T0.setTop (mkF m 30 #[.val (.ref o0), .val (.int p1), .val (.int p2), .val (.ref o3), .val (.ref b4), .val (.int (Int32.ofNat i)), .val (.int (p1 + (Int32.ofNat i)))] [(.int (6 : Int32)), (.int (p1 + (Int32.ofNat i)))])) _
    refine XS.icmpNo X0.here hx rfl (hb hby d2_30) rfl (tlt (show (p1 + (Int32.ofNat i)) < (6 : Int32) from h6')).2.1 ?_
    show Steps p.tables e below (T0.setTop (mkF m 33 #[.val (.ref o0), .val (.int p1), .val (.int p2), .val (.ref o3), .val (.ref b4), .val (.int (Int32.ofNat i)), .val (.int (p1 + (Int32.ofNat i)))] [])) _
    refine XS.aloadN X0.here hx rfl (hb hby d2_33) rfl rfl ?_
    show Steps p.tables e below (T0.setTop (mkF m 34 #[.val (.ref o0), .val (.int p1), .val (.int p2), .val (.ref o3), .val (.ref b4), .val (.int (Int32.ofNat i)), .val (.int (p1 + (Int32.ofNat i)))] [(.ref o0)])) _
    refine XS.iload X0.here hx rfl (hb hby d2_34) rfl ?_
    show Steps p.tables e below (T0.setTop (mkF m 36 #[.val (.ref o0), .val (.int p1), .val (.int p2), .val (.ref o3), .val (.ref b4), .val (.int (Int32.ofNat i)), .val (.int (p1 + (Int32.ofNat i)))] [(.int (p1 + (Int32.ofNat i))), (.ref o0)])) _
    refine iaLB X0 hx hZ e0 AH (j := (p1 + (Int32.ofNat i))) (a + i) (own_pl ha ha7 hi4) h6 (g := (mkF m 36 #[.val (.ref o0), .val (.int p1), .val (.int p2), .val (.ref o3), .val (.ref b4), .val (.int (Int32.ofNat i)), .val (.int (p1 + (Int32.ofNat i)))] [(.int (p1 + (Int32.ofNat i))), (.ref o0)])) rfl rfl (hb hby d2_36) _ ?_
    show Steps p.tables e below (T0.setTop (mkF m 37 #[.val (.ref o0), .val (.int p1), .val (.int p2), .val (.ref o3), .val (.ref b4), .val (.int (Int32.ofNat i)), .val (.int (p1 + (Int32.ofNat i)))] [(.int (fh (a + i)))])) _
    refine XS.iloadN X0.here hx rfl (hb hby d2_37) rfl ?_
    show Steps p.tables e below (T0.setTop (mkF m 38 #[.val (.ref o0), .val (.int p1), .val (.int p2), .val (.ref o3), .val (.ref b4), .val (.int (Int32.ofNat i)), .val (.int (p1 + (Int32.ofNat i)))] [(.int p2), (.int (fh (a + i)))])) _
    refine XS.icmpNo X0.here hx rfl (hb hby d2_38) rfl (feq (show ¬ ((fh (a + i)) = p2) from he)).1 ?_
    show Steps p.tables e below (T0.setTop (mkF m 41 #[.val (.ref o0), .val (.int p1), .val (.int p2), .val (.ref o3), .val (.ref b4), .val (.int (Int32.ofNat i)), .val (.int (p1 + (Int32.ofNat i)))] [])) _
    refine XS.iload X0.here hx rfl (hb hby d2_41) rfl ?_
    show Steps p.tables e below (T0.setTop (mkF m 43 #[.val (.ref o0), .val (.int p1), .val (.int p2), .val (.ref o3), .val (.ref b4), .val (.int (Int32.ofNat i)), .val (.int (p1 + (Int32.ofNat i)))] [(.int (Int32.ofNat i))])) _
    refine XS.ifYes X0.here hx rfl (pc0 := 43) (pc' := 60) rfl (hb hby d2_43) rfl ((if0 _ _).trans (flt (show ¬ ((0 : Int32) < (Int32.ofNat i)) from hz)).2.2.2) (by decide) (by decide) ?_
    show Steps p.tables e below (T0.setTop (mkF m 60 #[.val (.ref o0), .val (.int p1), .val (.int p2), .val (.ref o3), .val (.ref b4), .val (.int (Int32.ofNat i)), .val (.int (p1 + (Int32.ofNat i)))] [])) _
    refine XS.aload X0.here hx rfl (hb hby d2_60) rfl rfl ?_
    show Steps p.tables e below (T0.setTop (mkF m 62 #[.val (.ref o0), .val (.int p1), .val (.int p2), .val (.ref o3), .val (.ref b4), .val (.int (Int32.ofNat i)), .val (.int (p1 + (Int32.ofNat i)))] [(.ref b4)])) _
    refine XS.iload X0.here hx rfl (hb hby d2_62) rfl ?_
    show Steps p.tables e below (T0.setTop (mkF m 64 #[.val (.ref o0), .val (.int p1), .val (.int p2), .val (.ref o3), .val (.ref b4), .val (.int (Int32.ofNat i)), .val (.int (p1 + (Int32.ofNat i)))] [(.int (Int32.ofNat i)), (.ref b4)])) _
    refine XS.aloadN X0.here hx rfl (hb hby d2_64) rfl rfl ?_
    show Steps p.tables e below (T0.setTop (mkF m 65 #[.val (.ref o0), .val (.int p1), .val (.int p2), .val (.ref o3), .val (.ref b4), .val (.int (Int32.ofNat i)), .val (.int (p1 + (Int32.ofNat i)))] [(.ref o0), (.int (Int32.ofNat i)), (.ref b4)])) _
    refine XS.iload X0.here hx rfl (hb hby d2_65) rfl ?_
    show Steps p.tables e below (T0.setTop (mkF m 67 #[.val (.ref o0), .val (.int p1), .val (.int p2), .val (.ref o3), .val (.ref b4), .val (.int (Int32.ofNat i)), .val (.int (p1 + (Int32.ofNat i)))] [(.int (p1 + (Int32.ofNat i))), (.ref o0), (.int (Int32.ofNat i)), (.ref b4)])) _
    refine iaLB X0 hx hZ e0 AH (j := (p1 + (Int32.ofNat i))) (a + i) (own_pl ha ha7 hi4) h6 (g := (mkF m 67 #[.val (.ref o0), .val (.int p1), .val (.int p2), .val (.ref o3), .val (.ref b4), .val (.int (Int32.ofNat i)), .val (.int (p1 + (Int32.ofNat i)))] [(.int (p1 + (Int32.ofNat i))), (.ref o0), (.int (Int32.ofNat i)), (.ref b4)])) rfl rfl (hb hby d2_67) _ ?_
    show Steps p.tables e below (T0.setTop (mkF m 68 #[.val (.ref o0), .val (.int p1), .val (.int p2), .val (.ref o3), .val (.ref b4), .val (.int (Int32.ofNat i)), .val (.int (p1 + (Int32.ofNat i)))] [(.int (fh (a + i))), (.int (Int32.ofNat i)), (.ref b4)])) _
    refine st1 _ ?_
    show Steps p.tables e below (T1.setTop (mkF m 69 #[.val (.ref o0), .val (.int p1), .val (.int p2), .val (.ref o3), .val (.ref b4), .val (.int (Int32.ofNat i)), .val (.int (p1 + (Int32.ofNat i)))] [])) _
    refine XS.iinc X1.here hx rfl (hb hby d2_69) rfl (l' := #[.val (.ref o0), .val (.int p1), .val (.int p2), .val (.ref o3), .val (.ref b4), .val (.int ((Int32.ofNat i) + (1 : Int32))), .val (.int (p1 + (Int32.ofNat i)))]) rfl ?_
    show Steps p.tables e below (T1.setTop (mkF m 72 #[.val (.ref o0), .val (.int p1), .val (.int p2), .val (.ref o3), .val (.ref b4), .val (.int ((Int32.ofNat i) + (1 : Int32))), .val (.int (p1 + (Int32.ofNat i)))] [])) _
    refine XS.goto X1.here hx rfl (pc0 := 72) (pc' := 12) rfl (hb hby d2_72) (by decide) (by decide) ?_
    exact kt
  exact ⟨T1, h1, _, X1, e1, N1, Z1, KP1, G2, G3, K4⟩
set_option maxRecDepth 65536 in
set_option maxHeartbeats 40000000 in
theorem tnT1 {p : Program} {l : Launch} {e : Env} {s : State} {m : MethodId} {args : Array Value} {below : List Frame} {meth : Method} {c : Code} {T0 : State} {locs : List Loc} {Z : State} {a0 : Array Value} {h0 : Heap} (o0 : Addr) (p1 : Int32) (p2 : Int32) (o3 : Addr) (b4 : Addr) (i : Nat) (s6 : Slot) (fh : Nat → Int32) (g : Nat → Int32) (n : Nat) (a : Nat) (n0 : Nat)
    (X0 : Stand p l e ({ frames := 1, cells := 1, slots := 4, locals := 14 } : Room) s m args below meth c T0 locs 1 4) (hx : p.tables.exec = Jvm.exec) (hZ : Z.Warmed39 s.vm) (hw : ∀ d ∈ tables_1, d.before a0 Z = true) (hby : c.code = prog_154_method_4_code) (hml : c.maxLocals = 7) (hown : s.vm.findClass "com/example/benchwire/benchwire/protocols/DelimitedText" = some m.cls) (e0 : T0.heap = h0) (N0 : Fr n0 locs) (Z0 : n0 ≤ h0.size) (AH : Ia Z h0 o0 .byte 6 fh) (AQ : Ia Z h0 b4 .byte n g) (x1 : o0 ≠ b4) (g4 : n0 ≤ b4) (hn : n ≤ 4) (ha : p1.toInt = (a : Int)) (ha7 : a ≤ 7) (hi4 : i ≤ 4) (hlt : Int32.ofNat i < Int32.ofNat n) (h6' : (p1 + (Int32.ofNat i)) < (6 : Int32)) (h6 : a + i < 6) (hs6 : One s6) (he : ¬ fh (a + i) = p2) (hz : (0 : Int32) < Int32.ofNat i) (hf : ¬ fh (a + i) = g 0) :
    ∃ (T' : State) (h' : Heap) (locs' : List Loc), Stand p l e ({ frames := 1, cells := 1, slots := 4, locals := 14 } : Room) s m args below meth c T' locs' 1 4 ∧ T'.heap = h' ∧ Fr n0 locs' ∧ n0 ≤ h'.size ∧ Keep h0 h' [b4] ∧ Ia Z h' o0 .byte 6 fh ∧ Ia Z h' b4 .byte n (up g i (nar .byte (fh (a + i)))) ∧
      ∀ t, Steps p.tables e below (T'.setTop (mkF m 12 #[.val (.ref o0), .val (.int p1), .val (.int p2), .val (.ref o3), .val (.ref b4), .val (.int ((Int32.ofNat i) + (1 : Int32))), .val (.int (p1 + (Int32.ofNat i)))] [])) t → Steps p.tables e below (T0.setTop (mkF m 12 #[.val (.ref o0), .val (.int p1), .val (.int p2), .val (.ref o3), .val (.ref b4), .val (.int (Int32.ofNat i)), s6] [])) t := by
  have KP0 : Keep h0 h0 [b4] := Keep.refl _ _
  obtain ⟨T1, h1, X1, e1, W1, A1, st1⟩ := iaB X0 hx hZ e0 AQ (j := (Int32.ofNat i)) i (own_ti hi4 (by decide)) (by have := hlt; rw [Int32.lt_iff_toInt_lt, own_ti hi4 (by decide), own_ti (Nat.le_refl n) (by omega)] at this; omega) (g := (mkF m 68 #[.val (.ref o0), .val (.int p1), .val (.int p2), .val (.ref o3), .val (.ref b4), .val (.int (Int32.ofNat i)), .val (.int (p1 + (Int32.ofNat i)))] [(.int (fh (a + i))), (.int (Int32.ofNat i)), (.ref b4)])) rfl rfl (hb hby d2_68)
  have G2 : Ia Z h1 o0 .byte 6 fh := AH.other W1 x1
  have G3 : Ia Z h1 b4 .byte n (up g i (nar .byte (fh (a + i)))) := A1
  have Z1 : n0 ≤ h1.size := Nat.le_trans Z0 (Keep.of_wr W1).1
  have N1 := Fr.snoc X1 N0 g4
  have KP1 : Keep h0 h1 [b4] := KP0.wr W1 (Or.inl (List.mem_of_getElem? (i := 0) rfl))
  have K4 : ∀ t, Steps p.tables e below (T1.setTop (mkF m 12 #[.val (.ref o0), .val (.int p1), .val (.int p2), .val (.ref o3), .val (.ref b4), .val (.int ((Int32.ofNat i) + (1 : Int32))), .val (.int (p1 + (Int32.ofNat i)))] [])) t → Steps p.tables e below (T0.setTop (mkF m 12 #[.val (.ref o0), .val (.int p1), .val (.int p2), .val (.ref o3), .val (.ref b4), .val (.int (Int32.ofNat i)), s6] [])) t := by
    intro t kt
    show Steps p.tables e below (T0.setTop (mkF m 12 #[.val (.ref o0), .val (.int p1), .val (.int p2), .val (.ref o3), .val (.ref b4), .val (.int (Int32.ofNat i)), s6] [])) _
    refine XS.iload X0.here hx rfl (hb hby d2_12) rfl ?_
    show Steps p.tables e below (T0.setTop (mkF m 14 #[.val (.ref o0), .val (.int p1), .val (.int p2), .val (.ref o3), .val (.ref b4), .val (.int (Int32.ofNat i)), s6] [(.int (Int32.ofNat i))])) _
    refine XS.aload X0.here hx rfl (hb hby d2_14) rfl rfl ?_
    show Steps p.tables e below (T0.setTop (mkF m 16 #[.val (.ref o0), .val (.int p1), .val (.int p2), .val (.ref o3), .val (.ref b4), .val (.int (Int32.ofNat i)), s6] [(.ref b4), (.int (Int32.ofNat i))])) _
    refine iaLen X0 hx hZ e0 AQ (g := (mkF m 16 #[.val (.ref o0), .val (.int p1), .val (.int p2), .val (.ref o3), .val (.ref b4), .val (.int (Int32.ofNat i)), s6] [(.ref b4), (.int (Int32.ofNat i))])) rfl rfl (hb hby d2_16) _ ?_
    show Steps p.tables e below (T0.setTop (mkF m 17 #[.val (.ref o0), .val (.int p1), .val (.int p2), .val (.ref o3), .val (.ref b4), .val (.int (Int32.ofNat i)), s6] [(.int (Int32.ofNat n)), (.int (Int32.ofNat i))])) _
    refine XS.icmpNo X0.here hx rfl (hb hby d2_17) rfl (tlt (show (Int32.ofNat i) < (Int32.ofNat n) from hlt)).2.1 ?_
    show Steps p.tables e below (T0.setTop (mkF m 20 #[.val (.ref o0), .val (.int p1), .val (.int p2), .val (.ref o3), .val (.ref b4), .val (.int (Int32.ofNat i)), s6] [])) _
    refine XS.iloadN X0.here hx rfl (hb hby d2_20) rfl ?_
    show Steps p.tables e below (T0.setTop (mkF m 21 #[.val (.ref o0), .val (.int p1), .val (.int p2), .val (.ref o3), .val (.ref b4), .val (.int (Int32.ofNat i)), s6] [(.int p1)])) _
    refine XS.iload X0.here hx rfl (hb hby d2_21) rfl ?_
    show Steps p.tables e below (T0.setTop (mkF m 23 #[.val (.ref o0), .val (.int p1), .val (.int p2), .val (.ref o3), .val (.ref b4), .val (.int (Int32.ofNat i)), s6] [(.int (Int32.ofNat i)), (.int p1)])) _
    refine XS.iadd X0.here hx rfl (hb hby d2_23) rfl ?_
    show Steps p.tables e below (T0.setTop (mkF m 24 #[.val (.ref o0), .val (.int p1), .val (.int p2), .val (.ref o3), .val (.ref b4), .val (.int (Int32.ofNat i)), s6] [(.int (p1 + (Int32.ofNat i)))])) _
    refine XS.istore X0.here hx rfl (hb hby d2_24) rfl (l' := #[.val (.ref o0), .val (.int p1), .val (.int p2), .val (.ref o3), .val (.ref b4), .val (.int (Int32.ofNat i)), .val (.int (p1 + (Int32.ofNat i)))]) (own_st6 hs6) ?_
    show Steps p.tables e below (T0.setTop (mkF m 26 #[.val (.ref o0), .val (.int p1), .val (.int p2), .val (.ref o3), .val (.ref b4), .val (.int (Int32.ofNat i)), .val (.int (p1 + (Int32.ofNat i)))] [])) _
    refine XS.iload X0.here hx rfl (hb hby d2_26) rfl ?_
    show Steps p.tables e below (T0.setTop (mkF m 28 #[.val (.ref o0), .val (.int p1), .val (.int p2), .val (.ref o3), .val (.ref b4), .val (.int (Int32.ofNat i)), .val (.int (p1 + (Int32.ofNat i)))] [(.int (p1 + (Int32.ofNat i)))])) _
    refine XS.aloadN X0.here hx rfl (hb hby d2_28) rfl rfl ?_
    show Steps p.tables e below (T0.setTop (mkF m 29 #[.val (.ref o0), .val (.int p1), .val (.int p2), .val (.ref o3), .val (.ref b4), .val (.int (Int32.ofNat i)), .val (.int (p1 + (Int32.ofNat i)))] [(.ref o0), (.int (p1 + (Int32.ofNat i)))])) _
    refine iaLen X0 hx hZ e0 AH (g := (mkF m 29 #[.val (.ref o0), .val (.int p1), .val (.int p2), .val (.ref o3), .val (.ref b4), .val (.int (Int32.ofNat i)), .val (.int (p1 + (Int32.ofNat i)))] [(.ref o0), (.int (p1 + (Int32.ofNat i)))])) rfl rfl (hb hby d2_29) _ ?_
    show Steps p.tables e below (T0.setTop (mkF m 30 #[.val (.ref o0), .val (.int p1), .val (.int p2), .val (.ref o3), .val (.ref b4), .val (.int (Int32.ofNat i)), .val (.int (p1 + (Int32.ofNat i)))] [(.int (6 : Int32)), (.int (p1 + (Int32.ofNat i)))])) _
    refine XS.icmpNo X0.here hx rfl (hb hby d2_30) rfl (tlt (show (p1 + (Int32.ofNat i)) < (6 : Int32) from h6')).2.1 ?_
    show Steps p.tables e below (T0.setTop (mkF m 33 #[.val (.ref o0), .val (.int p1), .val (.int p2), .val (.ref o3), .val (.ref b4), .val (.int (Int32.ofNat i)), .val (.int (p1 + (Int32.ofNat i)))] [])) _
    refine XS.aloadN X0.here hx rfl (hb hby d2_33) rfl rfl ?_
    show Steps p.tables e below (T0.setTop (mkF m 34 #[.val (.ref o0), .val (.int p1), .val (.int p2), .val (.ref o3), .val (.ref b4), .val (.int (Int32.ofNat i)), .val (.int (p1 + (Int32.ofNat i)))] [(.ref o0)])) _
    refine XS.iload X0.here hx rfl (hb hby d2_34) rfl ?_
    show Steps p.tables e below (T0.setTop (mkF m 36 #[.val (.ref o0), .val (.int p1), .val (.int p2), .val (.ref o3), .val (.ref b4), .val (.int (Int32.ofNat i)), .val (.int (p1 + (Int32.ofNat i)))] [(.int (p1 + (Int32.ofNat i))), (.ref o0)])) _
    refine iaLB X0 hx hZ e0 AH (j := (p1 + (Int32.ofNat i))) (a + i) (own_pl ha ha7 hi4) h6 (g := (mkF m 36 #[.val (.ref o0), .val (.int p1), .val (.int p2), .val (.ref o3), .val (.ref b4), .val (.int (Int32.ofNat i)), .val (.int (p1 + (Int32.ofNat i)))] [(.int (p1 + (Int32.ofNat i))), (.ref o0)])) rfl rfl (hb hby d2_36) _ ?_
    show Steps p.tables e below (T0.setTop (mkF m 37 #[.val (.ref o0), .val (.int p1), .val (.int p2), .val (.ref o3), .val (.ref b4), .val (.int (Int32.ofNat i)), .val (.int (p1 + (Int32.ofNat i)))] [(.int (fh (a + i)))])) _
    refine XS.iloadN X0.here hx rfl (hb hby d2_37) rfl ?_
    show Steps p.tables e below (T0.setTop (mkF m 38 #[.val (.ref o0), .val (.int p1), .val (.int p2), .val (.ref o3), .val (.ref b4), .val (.int (Int32.ofNat i)), .val (.int (p1 + (Int32.ofNat i)))] [(.int p2), (.int (fh (a + i)))])) _
    refine XS.icmpNo X0.here hx rfl (hb hby d2_38) rfl (feq (show ¬ ((fh (a + i)) = p2) from he)).1 ?_
    show Steps p.tables e below (T0.setTop (mkF m 41 #[.val (.ref o0), .val (.int p1), .val (.int p2), .val (.ref o3), .val (.ref b4), .val (.int (Int32.ofNat i)), .val (.int (p1 + (Int32.ofNat i)))] [])) _
    refine XS.iload X0.here hx rfl (hb hby d2_41) rfl ?_
    show Steps p.tables e below (T0.setTop (mkF m 43 #[.val (.ref o0), .val (.int p1), .val (.int p2), .val (.ref o3), .val (.ref b4), .val (.int (Int32.ofNat i)), .val (.int (p1 + (Int32.ofNat i)))] [(.int (Int32.ofNat i))])) _
    refine XS.ifNo X0.here hx rfl (hb hby d2_43) rfl ((if0 _ _).trans (tlt (show (0 : Int32) < (Int32.ofNat i) from hz)).2.2.2) ?_
    show Steps p.tables e below (T0.setTop (mkF m 46 #[.val (.ref o0), .val (.int p1), .val (.int p2), .val (.ref o3), .val (.ref b4), .val (.int (Int32.ofNat i)), .val (.int (p1 + (Int32.ofNat i)))] [])) _
    refine XS.aloadN X0.here hx rfl (hb hby d2_46) rfl rfl ?_
    show Steps p.tables e below (T0.setTop (mkF m 47 #[.val (.ref o0), .val (.int p1), .val (.int p2), .val (.ref o3), .val (.ref b4), .val (.int (Int32.ofNat i)), .val (.int (p1 + (Int32.ofNat i)))] [(.ref o0)])) _
    refine XS.iload X0.here hx rfl (hb hby d2_47) rfl ?_
    show Steps p.tables e below (T0.setTop (mkF m 49 #[.val (.ref o0), .val (.int p1), .val (.int p2), .val (.ref o3), .val (.ref b4), .val (.int (Int32.ofNat i)), .val (.int (p1 + (Int32.ofNat i)))] [(.int (p1 + (Int32.ofNat i))), (.ref o0)])) _
    refine iaLB X0 hx hZ e0 AH (j := (p1 + (Int32.ofNat i))) (a + i) (own_pl ha ha7 hi4) h6 (g := (mkF m 49 #[.val (.ref o0), .val (.int p1), .val (.int p2), .val (.ref o3), .val (.ref b4), .val (.int (Int32.ofNat i)), .val (.int (p1 + (Int32.ofNat i)))] [(.int (p1 + (Int32.ofNat i))), (.ref o0)])) rfl rfl (hb hby d2_49) _ ?_
    show Steps p.tables e below (T0.setTop (mkF m 50 #[.val (.ref o0), .val (.int p1), .val (.int p2), .val (.ref o3), .val (.ref b4), .val (.int (Int32.ofNat i)), .val (.int (p1 + (Int32.ofNat i)))] [(.int (fh (a + i)))])) _
    refine XS.aload X0.here hx rfl (hb hby d2_50) rfl rfl ?_
    show Steps p.tables e below (T0.setTop (mkF m 52 #[.val (.ref o0), .val (.int p1), .val (.int p2), .val (.ref o3), .val (.ref b4), .val (.int (Int32.ofNat i)), .val (.int (p1 + (Int32.ofNat i)))] [(.ref b4), (.int (fh (a + i)))])) _
    refine XS.iconst X0.here hx rfl (hb hby d2_52) ?_
    show Steps p.tables e below (T0.setTop (mkF m 53 #[.val (.ref o0), .val (.int p1), .val (.int p2), .val (.ref o3), .val (.ref b4), .val (.int (Int32.ofNat i)), .val (.int (p1 + (Int32.ofNat i)))] [(.int (0 : Int32)), (.ref b4), (.int (fh (a + i)))])) _
    refine iaLB X0 hx hZ e0 AQ (j := (0 : Int32)) 0 rfl (by have := hlt; rw [Int32.lt_iff_toInt_lt, own_ti hi4 (by decide), own_ti (Nat.le_refl n) (by omega)] at this; omega) (g := (mkF m 53 #[.val (.ref o0), .val (.int p1), .val (.int p2), .val (.ref o3), .val (.ref b4), .val (.int (Int32.ofNat i)), .val (.int (p1 + (Int32.ofNat i)))] [(.int (0 : Int32)), (.ref b4), (.int (fh (a + i)))])) rfl rfl (hb hby d2_53) _ ?_
    show Steps p.tables e below (T0.setTop (mkF m 54 #[.val (.ref o0), .val (.int p1), .val (.int p2), .val (.ref o3), .val (.ref b4), .val (.int (Int32.ofNat i)), .val (.int (p1 + (Int32.ofNat i)))] [(.int (g 0)), (.int (fh (a + i)))])) _
    refine XS.icmpYes X0.here hx rfl (pc0 := 54) (pc' := 60) rfl (hb hby d2_54) rfl (feq (show ¬ ((fh (a + i)) = (g 0)) from hf)).2 (by decide) (by decide) ?_
    show Steps p.tables e below (T0.setTop (mkF m 60 #[.val (.ref o0), .val (.int p1), .val (.int p2), .val (.ref o3), .val (.ref b4), .val (.int (Int32.ofNat i)), .val (.int (p1 + (Int32.ofNat i)))] [])) _
    refine XS.aload X0.here hx rfl (hb hby d2_60) rfl rfl ?_
    show Steps p.tables e below (T0.setTop (mkF m 62 #[.val (.ref o0), .val (.int p1), .val (.int p2), .val (.ref o3), .val (.ref b4), .val (.int (Int32.ofNat i)), .val (.int (p1 + (Int32.ofNat i)))] [(.ref b4)])) _
    refine XS.iload X0.here hx rfl (hb hby d2_62) rfl ?_
    show Steps p.tables e below (T0.setTop (mkF m 64 #[.val (.ref o0), .val (.int p1), .val (.int p2), .val (.ref o3), .val (.ref b4), .val (.int (Int32.ofNat i)), .val (.int (p1 + (Int32.ofNat i)))] [(.int (Int32.ofNat i)), (.ref b4)])) _
    refine XS.aloadN X0.here hx rfl (hb hby d2_64) rfl rfl ?_
    show Steps p.tables e below (T0.setTop (mkF m 65 #[.val (.ref o0), .val (.int p1), .val (.int p2), .val (.ref o3), .val (.ref b4), .val (.int (Int32.ofNat i)), .val (.int (p1 + (Int32.ofNat i)))] [(.ref o0), (.int (Int32.ofNat i)), (.ref b4)])) _
    refine XS.iload X0.here hx rfl (hb hby d2_65) rfl ?_
    show Steps p.tables e below (T0.setTop (mkF m 67 #[.val (.ref o0), .val (.int p1), .val (.int p2), .val (.ref o3), .val (.ref b4), .val (.int (Int32.ofNat i)), .val (.int (p1 + (Int32.ofNat i)))] [(.int (p1 + (Int32.ofNat i))), (.ref o0), (.int (Int32.ofNat i)), (.ref b4)])) _
    refine iaLB X0 hx hZ e0 AH (j := (p1 + (Int32.ofNat i))) (a + i) (own_pl ha ha7 hi4) h6 (g := (mkF m 67 #[.val (.ref o0), .val (.int p1), .val (.int p2), .val (.ref o3), .val (.ref b4), .val (.int (Int32.ofNat i)), .val (.int (p1 + (Int32.ofNat i)))] [(.int (p1 + (Int32.ofNat i))), (.ref o0), (.int (Int32.ofNat i)), (.ref b4)])) rfl rfl (hb hby d2_67) _ ?_
    show Steps p.tables e below (T0.setTop (mkF m 68 #[.val (.ref o0), .val (.int p1), .val (.int p2), .val (.ref o3), .val (.ref b4), .val (.int (Int32.ofNat i)), .val (.int (p1 + (Int32.ofNat i)))] [(.int (fh (a + i))), (.int (Int32.ofNat i)), (.ref b4)])) _
    refine st1 _ ?_
    show Steps p.tables e below (T1.setTop (mkF m 69 #[.val (.ref o0), .val (.int p1), .val (.int p2), .val (.ref o3), .val (.ref b4), .val (.int (Int32.ofNat i)), .val (.int (p1 + (Int32.ofNat i)))] [])) _
    refine XS.iinc X1.here hx rfl (hb hby d2_69) rfl (l' := #[.val (.ref o0), .val (.int p1), .val (.int p2), .val (.ref o3), .val (.ref b4), .val (.int ((Int32.ofNat i) + (1 : Int32))), .val (.int (p1 + (Int32.ofNat i)))]) rfl ?_
    show Steps p.tables e below (T1.setTop (mkF m 72 #[.val (.ref o0), .val (.int p1), .val (.int p2), .val (.ref o3), .val (.ref b4), .val (.int ((Int32.ofNat i) + (1 : Int32))), .val (.int (p1 + (Int32.ofNat i)))] [])) _
    refine XS.goto X1.here hx rfl (pc0 := 72) (pc' := 12) rfl (hb hby d2_72) (by decide) (by decide) ?_
    exact kt
  exact ⟨T1, h1, _, X1, e1, N1, Z1, KP1, G2, G3, K4⟩
-- BY HAND: the loop
theorem own_dl {p : Program} {l : Launch} {e : Env} {s : State} {m : MethodId} {args : Array Value} {below : List Frame} {meth : Method} {c : Code} {Z : State} {a0 : Array Value} (d : Nat) : ∀ {T0 : State} {locs : List Loc} {h0 : Heap} (o0 : Addr) (p1 : Int32) (p2 : Int32) (o3 : Addr) (b4 : Addr) (i : Nat) (s6 : Slot) (fh : Nat → Int32) (fu : Nat → Int32) (g : Nat → Int32) (n a : Nat) (n0 : Nat)
    (X0 : Stand p l e ({ frames := 1, cells := 1, slots := 4, locals := 14 } : Room) s m args below meth c T0 locs 1 4) (hx : p.tables.exec = Jvm.exec) (hZ : Z.Warmed39 s.vm) (hw : ∀ d ∈ tables_1, d.before a0 Z = true) (hby : c.code = prog_154_method_4_code) (hml : c.maxLocals = 7) (hown : s.vm.findClass "com/example/benchwire/benchwire/protocols/DelimitedText" = some m.cls) (e0 : T0.heap = h0) (N0 : Fr n0 locs) (Z0 : n0 ≤ h0.size)
    (A1 : Ia Z h0 o0 .byte 6 fh) (A4 : Ia Z h0 b4 .byte n g) (x1 : o0 ≠ b4) (g4 : n0 ≤ b4) (hn : n ≤ 4) (ha : p1.toInt = (a : Int)) (ha7 : a ≤ 7) (hs6 : One s6) (hd : i + d = n) (hg : ∀ j, j < n → g j = if j < i then fh (a + j) else fu j) (hok : ∀ j, j < i → okP fh a p2 j),
    ∃ (kk : Nat) (g' : Nat → Int32) (s6' : Slot) (T' : State) (h' : Heap) (locs' : List Loc), Stand p l e ({ frames := 1, cells := 1, slots := 4, locals := 14 } : Room) s m args below meth c T' locs' 1 4 ∧ T'.heap = h' ∧ Fr n0 locs' ∧ n0 ≤ h'.size ∧ Keep h0 h' [b4] ∧ Ia Z h' b4 .byte n g' ∧ (∀ j, j < n → g' j = if j < kk then fh (a + j) else fu j) ∧ DD fh a p2 n kk ∧
      ∀ t, Steps p.tables e below (T'.setTop (mkF m 75 #[.val (.ref o0), .val (.int p1), .val (.int p2), .val (.ref o3), .val (.ref b4), .val (.int (Int32.ofNat kk)), s6'] [])) t → Steps p.tables e below (T0.setTop (mkF m 12 #[.val (.ref o0), .val (.int p1), .val (.int p2), .val (.ref o3), .val (.ref b4), .val (.int (Int32.ofNat i)), s6] [])) t := by
  induction d with
  | zero =>
    intro T0 locs h0 o0 p1 p2 o3 b4 i s6 fh fu g n a n0 X0 hx hZ hw hby hml hown e0 N0 Z0 A1 A4 x1 g4 hn ha ha7 hs6 hd hg hok
    obtain rfl : i = n := by omega
    obtain ⟨T1, h1, L1, X1, e1, N1, Z1, K1, A1', A4', st1⟩ := tnX1 o0 p1 p2 o3 b4 i s6 fh g i a n0 X0 hx hZ hw hby hml hown e0 N0 Z0 A1 A4 x1 g4 hn ha ha7 (by omega) (own_irr _)
    exact ⟨i, g, s6, T1, h1, L1, X1, e1, N1, Z1, K1, A4', hg, ⟨Nat.le_refl _, hok, Or.inl rfl⟩, st1⟩
  | succ d ih =>
    intro T0 locs h0 o0 p1 p2 o3 b4 i s6 fh fu g n a n0 X0 hx hZ hw hby hml hown e0 N0 Z0 A1 A4 x1 g4 hn ha ha7 hs6 hd hg hok
    have hlt : Int32.ofNat i < Int32.ofNat n := own_ltn (by omega) (by omega)
    have hti : (Int32.ofNat i).toInt = (i : Int) := own_ti (n := 4) (by omega) (by decide)
    by_cases h6 : a + i < 6
    · have h6' : (p1 + (Int32.ofNat i)) < (6 : Int32) := (own_six ha hti ha7 (by omega)).mpr h6
      by_cases he : fh (a + i) = p2
      · obtain ⟨T1, h1, L1, X1, e1, N1, Z1, K1, A1', A4', st1⟩ := tnX3 o0 p1 p2 o3 b4 i s6 fh g n a n0 X0 hx hZ hw hby hml hown e0 N0 Z0 A1 A4 x1 g4 hn ha ha7 (by omega) hlt h6' h6 hs6 he
        exact ⟨i, g, _, T1, h1, L1, X1, e1, N1, Z1, K1, A4', hg, ⟨by omega, hok, Or.inr fun z => z.2.1 he⟩, st1⟩
      · by_cases hi0 : i = 0
        · have hz : ¬ (0 : Int32) < Int32.ofNat i := by rw [hi0]; decide
          obtain ⟨T1, h1, L1, X1, e1, N1, Z1, K1, A1', A4', st1⟩ := tnT0 o0 p1 p2 o3 b4 i s6 fh g n a n0 X0 hx hZ hw hby hml hown e0 N0 Z0 A1 A4 x1 g4 hn ha ha7 (by omega) hlt h6' h6 hs6 he hz
          rw [own_one i] at st1
          obtain ⟨kk, g', s6', T2, h2, L2, X2, e2, N2, Z2, K2, A2, hg2, D2, st2⟩ := ih o0 p1 p2 o3 b4 (i + 1) (.val (.int (p1 + (Int32.ofNat i)))) fh fu _ n a n0 X1 hx hZ hw hby hml hown e1 N1 Z1 A1' A4' x1 g4 hn ha ha7 (One.val rfl) (by omega) (own_upd (A1.fit h6) hg) (fun j hj => by
            by_cases q : j < i
            · exact hok j q
            · obtain rfl : j = i := by omega
              exact ⟨h6, he, Or.inl hi0⟩)
          exact ⟨kk, g', s6', T2, h2, L2, X2, e2, N2, Z2, K1.trans K2 (fun x hx => Or.inl hx), A2, hg2, D2, fun t kt => st1 t (st2 t kt)⟩
        · have hz : (0 : Int32) < Int32.ofNat i := by rw [Int32.lt_iff_toInt_lt, hti, show (0 : Int32).toInt = 0 from rfl]; omega
          have hg0 : g 0 = fh a := by rw [hg 0 (by omega), if_pos (by omega), Nat.add_zero]
          by_cases hf : fh (a + i) = g 0
          · obtain ⟨T1, h1, L1, X1, e1, N1, Z1, K1, A1', A4', st1⟩ := tnX4 o0 p1 p2 o3 b4 i s6 fh g n a n0 X0 hx hZ hw hby hml hown e0 N0 Z0 A1 A4 x1 g4 hn ha ha7 (by omega) hlt h6' h6 hs6 he hz hf
            exact ⟨i, g, _, T1, h1, L1, X1, e1, N1, Z1, K1, A4', hg, ⟨by omega, hok, Or.inr fun z => by rcases z.2.2 with y | y <;> first | exact hi0 y | exact y (by rw [hf, hg0])⟩, st1⟩
          · obtain ⟨T1, h1, L1, X1, e1, N1, Z1, K1, A1', A4', st1⟩ := tnT1 o0 p1 p2 o3 b4 i s6 fh g n a n0 X0 hx hZ hw hby hml hown e0 N0 Z0 A1 A4 x1 g4 hn ha ha7 (by omega) hlt h6' h6 hs6 he hz hf
            rw [own_one i] at st1
            obtain ⟨kk, g', s6', T2, h2, L2, X2, e2, N2, Z2, K2, A2, hg2, D2, st2⟩ := ih o0 p1 p2 o3 b4 (i + 1) (.val (.int (p1 + (Int32.ofNat i)))) fh fu _ n a n0 X1 hx hZ hw hby hml hown e1 N1 Z1 A1' A4' x1 g4 hn ha ha7 (One.val rfl) (by omega) (own_upd (A1.fit h6) hg) (fun j hj => by
              by_cases q : j < i
              · exact hok j q
              · obtain rfl : j = i := by omega
                exact ⟨h6, he, Or.inr (by rw [← hg0]; exact hf)⟩)
            exact ⟨kk, g', s6', T2, h2, L2, X2, e2, N2, Z2, K1.trans K2 (fun x hx => Or.inl hx), A2, hg2, D2, fun t kt => st1 t (st2 t kt)⟩
    · have h6' : ¬ (p1 + (Int32.ofNat i)) < (6 : Int32) := mt (own_six ha hti ha7 (by omega)).mp h6
      obtain ⟨T1, h1, L1, X1, e1, N1, Z1, K1, A1', A4', st1⟩ := tnX2 o0 p1 p2 o3 b4 i s6 fh g n a n0 X0 hx hZ hw hby hml hown e0 N0 Z0 A1 A4 x1 g4 hn ha ha7 (by omega) hlt h6' hs6
      exact ⟨i, g, _, T1, h1, L1, X1, e1, N1, Z1, K1, A4', hg, ⟨by omega, hok, Or.inr fun z => h6 z.1⟩, st1⟩
theorem ef_2 (m : MethodId) (x0 : Addr) (x1 : Int32) (x2 : Int32) (x3 : Addr) : entryFrame m #[(.ref x0), (.int x1), (.int x2), (.ref x3)] 7 = mkF m 0 #[.val (.ref x0), .val (.int x1), .val (.int x2), .val (.ref x3), .unset, .unset, .unset] [] := by first | (simp [entryFrame, mkF, argsToLocals, Value.category]; done) | rfl
theorem pn_1 : plainName "com/example/benchwire/benchwire/protocols/DelimitedText" = true := by first | (simp [plainName, overriddenIn]; done) | decide +kernel
theorem d2_0 : decode prog_154_method_4_code 0 = .ok (.aload_n 3, 1) := by decide +kernel
theorem d2_1 : decode prog_154_method_4_code 1 = .ok (.invokevirtual 37, 3) := by decide +kernel
theorem d2_4 : decode prog_154_method_4_code 4 = .ok (.checkcast 38, 3) := by decide +kernel
theorem d2_7 : decode prog_154_method_4_code 7 = .ok (.astore 4, 2) := by decide +kernel
theorem d2_9 : decode prog_154_method_4_code 9 = .ok (.iconst 0, 1) := by decide +kernel
theorem d2_10 : decode prog_154_method_4_code 10 = .ok (.istore 5, 2) := by decide +kernel
theorem d2_75 : decode prog_154_method_4_code 75 = .ok (.aload 4, 2) := by decide +kernel
theorem d2_77 : decode prog_154_method_4_code 77 = .ok (.areturn, 1) := by decide +kernel
def Q2 (Z : State) (o0 : Addr) (p1 : Int32) (p2 : Int32) (o3 : Addr) (fh : Nat → Int32) (fu : Nat → Int32) (n : Nat) (a : Nat) (h0 : Heap) (n0 : Nat) (v : Option Value) (h : Heap) (L : List Loc) : Prop := ∃ b kk, v = some (.ref b) ∧ Fr n0 L ∧ Keep h0 h [] ∧ h0.size ≤ b ∧ DD fh a p2 n kk ∧ Ia Z h b .byte n (fun j => if j < kk then fh (a + j) else fu j)
set_option maxRecDepth 65536 in
set_option maxHeartbeats 40000000 in
theorem rm2 (l : Launch) (Z : State) (a0 : Array Value) (hw : ∀ d ∈ tables_1, d.before a0 Z = true) (ws : List Jvm.Cond) (o0 : Addr) (p1 : Int32) (p2 : Int32) (o3 : Addr) (fh : Nat → Int32) (fu : Nat → Int32) (n : Nat) (a : Nat) (h0 : Heap) (n0 : Nat) (Z0 : n0 ≤ h0.size) (AH : Ia Z h0 o0 .byte 6 fh) (AU : Ia Z h0 o3 .byte n fu) (EU : Exa Z h0 o3 "[B") (hn : n ≤ 4) (ha : p1.toInt = (a : Int)) (ha7 : a ≤ 7) :
    MetFree l (⟨"com/example/benchwire/benchwire/protocols/DelimitedText", "declaredDelimiters", "([BIB[B)[B"⟩ : MethodName) (head1 (Jvm.Cond.code (⟨"com/example/benchwire/benchwire/protocols/DelimitedText", "declaredDelimiters", "([BIB[B)[B"⟩ : MethodName) prog_154_method_4_code 7 (some (.array .byte)) :: ws) ({ frames := 1, cells := 1, slots := 4, locals := 14 } : Room)) (fun a U => a = #[(.ref o0), (.int p1), (.int p2), (.ref o3)] ∧ Z.Warmed39 U.vm ∧ U.heap = h0) (fun _ _ _ _ _ => True) (fun _ U o U' => ∃ v L, o = .returned v ∧ Q2 Z o0 p1 p2 o3 fh fu n a h0 n0 v U'.heap L ∧ FrameEnd U o U' L ({ frames := 1, cells := 1, slots := 4, locals := 14 } : Room).cells ({ frames := 1, cells := 1, slots := 4, locals := 14 } : Room).slots) := by
  refine MetFree.of_bodySF (plainFor_of_name pn_1) hisR ?_
  intro p e s m args below meth c s₁ Bd hml0 hP hK
  obtain ⟨rfl, hZ, hh⟩ := hP
  have hx := Bd.exec
  have hby := Bd.bytes
  have hml : c.maxLocals = 7 := hml0
  have hown : s.vm.findClass "com/example/benchwire/benchwire/protocols/DelimitedText" = some m.cls := findClass_of_methodNamed Bd.named
  have hnm := (name_of_methodNamed Bd.named Bd.method).1
  have X0 : Stand p l e ({ frames := 1, cells := 1, slots := 4, locals := 14 } : Room) s m #[(.ref o0), (.int p1), (.int p2), (.ref o3)] below meth c s₁ [] 0 0 := Stand.of_body Bd
  have e0 : s₁.heap = h0 := by rw [← hh, Bd.state]; rfl
  have pre0 : ∀ t, Steps p.tables e below (s₁.setTop (mkF m 0 #[.val (.ref o0), .val (.int p1), .val (.int p2), .val (.ref o3), .unset, .unset, .unset] [])) t → Steps p.tables e below (s₁.setTop (entryFrame m #[(.ref o0), (.int p1), (.int p2), (.ref o3)] 7)) t := fun t k => castTop (ef_2 m o0 p1 p2 o3) k
  have N0 := Fr.nil n0
  have KP0 : Keep h0 h0 [] := Keep.refl _ _
  obtain ⟨T1, h1, X1, e1, E1, A1, B1, st1⟩ := iaClone X0 hx hZ hown (hw _ (List.mem_of_getElem? (i := 9) rfl)) (hw _ (List.mem_of_getElem? (i := 10) rfl)) (hw _ (List.mem_of_getElem? (i := 14) rfl)) (hw _ (List.mem_of_getElem? (i := 12) rfl)) (hw _ (List.mem_of_getElem? (i := 13) rfl)) (hw _ (List.mem_of_getElem? (i := 15) rfl)) e0 AU EU (g := (mkF m 1 #[.val (.ref o0), .val (.int p1), .val (.int p2), .val (.ref o3), .unset, .unset, .unset] [(.ref o3)])) rfl (by rw [hml]; rfl) rfl (hb hby d2_1) (by decide) (W := 0) (cap := 4) (by show 2 * 0 + _ ≤ _; exact Nat.le_of_eq rfl) (by decide) hn (by decide) (by decide)
  obtain ⟨b1, g1⟩ : ∃ z, z = h0.size := ⟨_, rfl⟩
  rw [← g1] at A1 B1 st1
  have ne2 : o0 ≠ b1 := Nat.ne_of_lt (Nat.lt_of_lt_of_le AH.lt (Nat.le_of_eq g1.symm))
  have ne3 : o3 ≠ b1 := Nat.ne_of_lt (Nat.lt_of_lt_of_le AU.lt (Nat.le_of_eq g1.symm))
  have gn1 : n0 ≤ b1 := Nat.le_trans Z0 (Nat.le_of_eq g1.symm)
  have sz1 : h0.size ≤ b1 := Nat.le_trans KP0.1 (Nat.le_of_eq g1.symm)
  have Z1 : n0 ≤ h1.size := Nat.le_trans Z0 E1.1
  have G4 : Ia Z h1 o0 .byte 6 fh := AH.ext E1
  have G5 : Ia Z h1 o3 .byte n fu := AU.ext E1
  have G6 : Exa Z h1 o3 "[B" := EU.ext E1
  have KP1 : Keep h0 h1 [] := KP0.ext E1
  have G7 : Ia Z h1 b1 .byte n fu := A1
  obtain ⟨T8, X8, e8, st8⟩ := castY X1 hx hZ hown (hw _ (List.mem_of_getElem? (i := 16) rfl)) e1 (Ins.self B1) (g := (mkF m 4 #[.val (.ref o0), .val (.int p1), .val (.int p2), .val (.ref o3), .unset, .unset, .unset] [(.ref b1)])) rfl rfl (hb hby d2_4)
  have K9 : ∀ t, Steps p.tables e below (T8.setTop (mkF m 12 #[.val (.ref o0), .val (.int p1), .val (.int p2), .val (.ref o3), .val (.ref b1), .val (.int (0 : Int32)), .unset] [])) t → Steps p.tables e below (s₁.setTop (mkF m 0 #[.val (.ref o0), .val (.int p1), .val (.int p2), .val (.ref o3), .unset, .unset, .unset] [])) t := by
    intro t kt
    show Steps p.tables e below (s₁.setTop (mkF m 0 #[.val (.ref o0), .val (.int p1), .val (.int p2), .val (.ref o3), .unset, .unset, .unset] [])) _
    refine XS.aloadN X0.here hx rfl (hb hby d2_0) rfl rfl ?_
    show Steps p.tables e below (s₁.setTop (mkF m 1 #[.val (.ref o0), .val (.int p1), .val (.int p2), .val (.ref o3), .unset, .unset, .unset] [(.ref o3)])) _
    refine st1 _ ?_
    show Steps p.tables e below (T1.setTop (mkF m 4 #[.val (.ref o0), .val (.int p1), .val (.int p2), .val (.ref o3), .unset, .unset, .unset] [(.ref b1)])) _
    refine st8 _ ?_
    show Steps p.tables e below (T8.setTop (mkF m 7 #[.val (.ref o0), .val (.int p1), .val (.int p2), .val (.ref o3), .unset, .unset, .unset] [(.ref b1)])) _
    refine XS.astore X8.here hx rfl (hb hby d2_7) rfl rfl (l' := #[.val (.ref o0), .val (.int p1), .val (.int p2), .val (.ref o3), .val (.ref b1), .unset, .unset]) rfl ?_
    show Steps p.tables e below (T8.setTop (mkF m 9 #[.val (.ref o0), .val (.int p1), .val (.int p2), .val (.ref o3), .val (.ref b1), .unset, .unset] [])) _
    refine XS.iconst X8.here hx rfl (hb hby d2_9) ?_
    show Steps p.tables e below (T8.setTop (mkF m 10 #[.val (.ref o0), .val (.int p1), .val (.int p2), .val (.ref o3), .val (.ref b1), .unset, .unset] [(.int (0 : Int32))])) _
    refine XS.istore X8.here hx rfl (hb hby d2_10) rfl (l' := #[.val (.ref o0), .val (.int p1), .val (.int p2), .val (.ref o3), .val (.ref b1), .val (.int (0 : Int32)), .unset]) rfl ?_
    exact kt
  obtain ⟨kk, gf, s6, T9, h9, L9, X9, e9, N9, Z9, KL9, A9, hg9, D9, st9⟩ := own_dl n o0 p1 p2 o3 b1 0 .unset fh fu fu n a n0 X8 hx hZ hw hby hml hown e8 N0 Z1 G4 G7 ne2 gn1 hn ha ha7 One.u (by omega) (fun j hj => by rw [if_neg (Nat.not_lt_zero _)]) (fun j hj => absurd hj (Nat.not_lt_zero _))
  have KP9 : Keep h0 h9 [] := KP1.trans KL9 (allS (Or.inr sz1) all0)
  have K10 : ∀ t, Steps p.tables e below (T9.setTop (mkF m 77 #[.val (.ref o0), .val (.int p1), .val (.int p2), .val (.ref o3), .val (.ref b1), .val (.int (Int32.ofNat kk)), s6] [(.ref b1)])) t → Steps p.tables e below (s₁.setTop (mkF m 0 #[.val (.ref o0), .val (.int p1), .val (.int p2), .val (.ref o3), .unset, .unset, .unset] [])) t := by
    intro t kt
    refine K9 _ ?_
    show Steps p.tables e below (T8.setTop (mkF m 12 #[.val (.ref o0), .val (.int p1), .val (.int p2), .val (.ref o3), .val (.ref b1), .val (.int (0 : Int32)), .unset] [])) _
    refine st9 _ ?_
    show Steps p.tables e below (T9.setTop (mkF m 75 #[.val (.ref o0), .val (.int p1), .val (.int p2), .val (.ref o3), .val (.ref b1), .val (.int (Int32.ofNat kk)), s6] [])) _
    refine XS.aload X9.here hx rfl (hb hby d2_75) rfl rfl ?_
    exact kt
  obtain ⟨fsQ, hr, hrun, hended, hW, hsame⟩ := X9.leave (v := some (.ref b1)) (fun h => by rw [Bd.returns] at h; cases h)
  refine ⟨_, _, pre0 _ (K10 _ ?_), hrun, hended, _, _, rfl, ?_, ⟨_, rfl⟩, hW, hsame.mono (by decide) (by decide)⟩
  · show Steps p.tables e below (T9.setTop (mkF m 77 #[.val (.ref o0), .val (.int p1), .val (.int p2), .val (.ref o3), .val (.ref b1), .val (.int (Int32.ofNat kk)), s6] [(.ref b1)])) _
    exact retOut X9 hx Bd.returns rfl (Or.inr (Or.inr (Or.inr (Or.inr ⟨rfl, rfl, rfl⟩)))) (hb hby d2_77) hr
  · show Q2 Z o0 p1 p2 o3 fh fu n a h0 n0 _ T9.heap _
    rw [e9]
    exact ⟨_, kk, rfl, N9, KP9, sz1, D9, A9.fun hg9⟩
theorem ef_4 (m : MethodId) (x0 : Addr) (x1 : Int32) (x2 : Int32) (x3 : Int32) : entryFrame m #[(.ref x0), (.int x1), (.int x2), (.int x3)] 6 = mkF m 0 #[.val (.ref x0), .val (.int x1), .val (.int x2), .val (.int x3), .unset, .unset] [] := by first | (simp [entryFrame, mkF, argsToLocals, Value.category]; done) | rfl
theorem d4_0 : decode method_4_code 0 = .ok (.iload_n 1, 1) := by decide +kernel
theorem d4_1 : decode method_4_code 1 = .ok (.iload_n 2, 1) := by decide +kernel
theorem d4_2 : decode method_4_code 2 = .ok (.iadd, 1) := by decide +kernel
theorem d4_3 : decode method_4_code 3 = .ok (.istore 4, 2) := by decide +kernel
theorem d4_5 : decode method_4_code 5 = .ok (.iload 4, 2) := by decide +kernel
theorem d4_7 : decode method_4_code 7 = .ok (.aload_n 0, 1) := by decide +kernel
theorem d4_8 : decode method_4_code 8 = .ok (.arraylength, 1) := by decide +kernel
theorem d4_9 : decode method_4_code 9 = .ok (.if_icmp .lt 5, 3) := by decide +kernel
theorem d4_14 : decode method_4_code 14 = .ok (.aload_n 0, 1) := by decide +kernel
theorem d4_15 : decode method_4_code 15 = .ok (.iload 4, 2) := by decide +kernel
theorem d4_17 : decode method_4_code 17 = .ok (.baload, 1) := by decide +kernel
theorem d4_18 : decode method_4_code 18 = .ok (.istore 5, 2) := by decide +kernel
theorem d4_20 : decode method_4_code 20 = .ok (.iload 5, 2) := by decide +kernel
theorem d4_22 : decode method_4_code 22 = .ok (.iload_n 3, 1) := by decide +kernel
theorem d4_23 : decode method_4_code 23 = .ok (.if_icmp .ne 5, 3) := by decide +kernel
theorem d4_26 : decode method_4_code 26 = .ok (.iconst 0, 1) := by decide +kernel
theorem d4_27 : decode method_4_code 27 = .ok (.ireturn, 1) := by decide +kernel
theorem d4_28 : decode method_4_code 28 = .ok (.iload_n 2, 1) := by decide +kernel
theorem d4_29 : decode method_4_code 29 = .ok (.ifCond .eq 11, 3) := by decide +kernel
theorem d4_40 : decode method_4_code 40 = .ok (.iconst 1, 1) := by decide +kernel
theorem d4_41 : decode method_4_code 41 = .ok (.goto 4, 3) := by decide +kernel
theorem d4_45 : decode method_4_code 45 = .ok (.ireturn, 1) := by decide +kernel
theorem d4_32 : decode method_4_code 32 = .ok (.iload 5, 2) := by decide +kernel
theorem d4_34 : decode method_4_code 34 = .ok (.aload_n 0, 1) := by decide +kernel
theorem d4_35 : decode method_4_code 35 = .ok (.iload_n 1, 1) := by decide +kernel
theorem d4_36 : decode method_4_code 36 = .ok (.baload, 1) := by decide +kernel
theorem d4_37 : decode method_4_code 37 = .ok (.if_icmp .eq 7, 3) := by decide +kernel
theorem d4_44 : decode method_4_code 44 = .ok (.iconst 0, 1) := by decide +kernel
theorem d4_12 : decode method_4_code 12 = .ok (.iconst 0, 1) := by decide +kernel
theorem d4_13 : decode method_4_code 13 = .ok (.ireturn, 1) := by decide +kernel
def f4 (p1 : Int32) (p2 : Int32) (p3 : Int32) (fh : Nat → Int32) (a : Nat) (i : Nat) : Int32 := if (p1 + p2) < (6 : Int32) then (if (fh (a + i)) = p3 then (0 : Int32)
    else if p2 = (0 : Int32) then (1 : Int32)
    else if (fh (a + i)) = (fh a) then (0 : Int32)
    else (1 : Int32))
  else (0 : Int32)
def Q4 (Z : State) (o0 : Addr) (p1 : Int32) (p2 : Int32) (p3 : Int32) (fh : Nat → Int32) (a : Nat) (i : Nat) (h0 : Heap) (v : Option Value) (h : Heap) (L : List Loc) : Prop := v = some (.int (f4 p1 p2 p3 fh a i)) ∧ L = [] ∧ h = h0
set_option maxRecDepth 65536 in
set_option maxHeartbeats 40000000 in
theorem rm4 (l : Launch) (Z : State) (a0 : Array Value) (hw : ∀ d ∈ tables_1, d.before a0 Z = true) (ws : List Jvm.Cond) (o0 : Addr) (p1 : Int32) (p2 : Int32) (p3 : Int32) (fh : Nat → Int32) (a : Nat) (i : Nat) (h0 : Heap) (AH : Ia Z h0 o0 .byte 6 fh) (ha : p1.toInt = (a : Int)) (hi : p2.toInt = (i : Int)) (ha7 : a ≤ 7) (hi4 : i ≤ 4) :
    MetFree l (⟨"com/example/benchwire/benchwire/protocols/DelimitedTextDeclaredDelimitersPinLaw", "ok", "([BIIB)Z"⟩ : MethodName) (head1 (Jvm.Cond.code (⟨"com/example/benchwire/benchwire/protocols/DelimitedTextDeclaredDelimitersPinLaw", "ok", "([BIIB)Z"⟩ : MethodName) method_4_code 6 (some .boolean) :: ws) ({ frames := 0, cells := 0, slots := 0, locals := 0 } : Room)) (fun a U => a = #[(.ref o0), (.int p1), (.int p2), (.int p3)] ∧ Z.Warmed39 U.vm ∧ U.heap = h0) (fun _ _ _ _ _ => True) (fun _ U o U' => ∃ v L, o = .returned v ∧ Q4 Z o0 p1 p2 p3 fh a i h0 v U'.heap L ∧ FrameEnd U o U' L ({ frames := 0, cells := 0, slots := 0, locals := 0 } : Room).cells ({ frames := 0, cells := 0, slots := 0, locals := 0 } : Room).slots) := by
  refine MetFree.of_bodySF (plainFor_of_name pn_0) hisR ?_
  intro p e s m args below meth c s₁ Bd hml0 hP hK
  obtain ⟨rfl, hZ, hh⟩ := hP
  have hx := Bd.exec
  have hby := Bd.bytes
  have hml : c.maxLocals = 6 := hml0
  have hown : s.vm.findClass "com/example/benchwire/benchwire/protocols/DelimitedTextDeclaredDelimitersPinLaw" = some m.cls := findClass_of_methodNamed Bd.named
  have hnm := (name_of_methodNamed Bd.named Bd.method).1
  have X0 : Stand p l e ({ frames := 0, cells := 0, slots := 0, locals := 0 } : Room) s m #[(.ref o0), (.int p1), (.int p2), (.int p3)] below meth c s₁ [] 0 0 := Stand.of_body Bd
  have e0 : s₁.heap = h0 := by rw [← hh, Bd.state]; rfl
  have pre0 : ∀ t, Steps p.tables e below (s₁.setTop (mkF m 0 #[.val (.ref o0), .val (.int p1), .val (.int p2), .val (.int p3), .unset, .unset] [])) t → Steps p.tables e below (s₁.setTop (entryFrame m #[(.ref o0), (.int p1), (.int p2), (.int p3)] 6)) t := fun t k => castTop (ef_4 m o0 p1 p2 p3) k
  have K1 : ∀ t, Steps p.tables e below (s₁.setTop (mkF m 9 #[.val (.ref o0), .val (.int p1), .val (.int p2), .val (.int p3), .val (.int (p1 + p2)), .unset] [(.int (6 : Int32)), (.int (p1 + p2))])) t → Steps p.tables e below (s₁.setTop (mkF m 0 #[.val (.ref o0), .val (.int p1), .val (.int p2), .val (.int p3), .unset, .unset] [])) t := by
    intro t kt
    show Steps p.tables e below (s₁.setTop (mkF m 0 #[.val (.ref o0), .val (.int p1), .val (.int p2), .val (.int p3), .unset, .unset] [])) _
    refine XS.iloadN X0.here hx rfl (hb hby d4_0) rfl ?_
    show Steps p.tables e below (s₁.setTop (mkF m 1 #[.val (.ref o0), .val (.int p1), .val (.int p2), .val (.int p3), .unset, .unset] [(.int p1)])) _
    refine XS.iloadN X0.here hx rfl (hb hby d4_1) rfl ?_
    show Steps p.tables e below (s₁.setTop (mkF m 2 #[.val (.ref o0), .val (.int p1), .val (.int p2), .val (.int p3), .unset, .unset] [(.int p2), (.int p1)])) _
    refine XS.iadd X0.here hx rfl (hb hby d4_2) rfl ?_
    show Steps p.tables e below (s₁.setTop (mkF m 3 #[.val (.ref o0), .val (.int p1), .val (.int p2), .val (.int p3), .unset, .unset] [(.int (p1 + p2))])) _
    refine XS.istore X0.here hx rfl (hb hby d4_3) rfl (l' := #[.val (.ref o0), .val (.int p1), .val (.int p2), .val (.int p3), .val (.int (p1 + p2)), .unset]) rfl ?_
    show Steps p.tables e below (s₁.setTop (mkF m 5 #[.val (.ref o0), .val (.int p1), .val (.int p2), .val (.int p3), .val (.int (p1 + p2)), .unset] [])) _
    refine XS.iload X0.here hx rfl (hb hby d4_5) rfl ?_
    show Steps p.tables e below (s₁.setTop (mkF m 7 #[.val (.ref o0), .val (.int p1), .val (.int p2), .val (.int p3), .val (.int (p1 + p2)), .unset] [(.int (p1 + p2))])) _
    refine XS.aloadN X0.here hx rfl (hb hby d4_7) rfl rfl ?_
    show Steps p.tables e below (s₁.setTop (mkF m 8 #[.val (.ref o0), .val (.int p1), .val (.int p2), .val (.int p3), .val (.int (p1 + p2)), .unset] [(.ref o0), (.int (p1 + p2))])) _
    refine iaLen X0 hx hZ e0 AH (g := (mkF m 8 #[.val (.ref o0), .val (.int p1), .val (.int p2), .val (.int p3), .val (.int (p1 + p2)), .unset] [(.ref o0), (.int (p1 + p2))])) rfl rfl (hb hby d4_8) _ ?_
    exact kt
  by_cases hc2 : (p1 + p2) < (6 : Int32)
  · skip
    have K3 : ∀ t, Steps p.tables e below (s₁.setTop (mkF m 23 #[.val (.ref o0), .val (.int p1), .val (.int p2), .val (.int p3), .val (.int (p1 + p2)), .val (.int (fh (a + i)))] [(.int p3), (.int (fh (a + i)))])) t → Steps p.tables e below (s₁.setTop (mkF m 0 #[.val (.ref o0), .val (.int p1), .val (.int p2), .val (.int p3), .unset, .unset] [])) t := by
      intro t kt
      refine K1 _ ?_
      show Steps p.tables e below (s₁.setTop (mkF m 9 #[.val (.ref o0), .val (.int p1), .val (.int p2), .val (.int p3), .val (.int (p1 + p2)), .unset] [(.int (6 : Int32)), (.int (p1 + p2))])) _
      refine XS.icmpYes X0.here hx rfl (pc0 := 9) (pc' := 14) rfl (hb hby d4_9) rfl (tlt hc2).1 (by decide) (by decide) ?_
      show Steps p.tables e below (s₁.setTop (mkF m 14 #[.val (.ref o0), .val (.int p1), .val (.int p2), .val (.int p3), .val (.int (p1 + p2)), .unset] [])) _
      refine XS.aloadN X0.here hx rfl (hb hby d4_14) rfl rfl ?_
      show Steps p.tables e below (s₁.setTop (mkF m 15 #[.val (.ref o0), .val (.int p1), .val (.int p2), .val (.int p3), .val (.int (p1 + p2)), .unset] [(.ref o0)])) _
      refine XS.iload X0.here hx rfl (hb hby d4_15) rfl ?_
      show Steps p.tables e below (s₁.setTop (mkF m 17 #[.val (.ref o0), .val (.int p1), .val (.int p2), .val (.int p3), .val (.int (p1 + p2)), .unset] [(.int (p1 + p2)), (.ref o0)])) _
      refine iaLB X0 hx hZ e0 AH (j := (p1 + p2)) (a + i) (own_pl0 ha hi ha7 hi4) ((own_six ha hi ha7 hi4).mp hc2) (g := (mkF m 17 #[.val (.ref o0), .val (.int p1), .val (.int p2), .val (.int p3), .val (.int (p1 + p2)), .unset] [(.int (p1 + p2)), (.ref o0)])) rfl rfl (hb hby d4_17) _ ?_
      show Steps p.tables e below (s₁.setTop (mkF m 18 #[.val (.ref o0), .val (.int p1), .val (.int p2), .val (.int p3), .val (.int (p1 + p2)), .unset] [(.int (fh (a + i)))])) _
      refine XS.istore X0.here hx rfl (hb hby d4_18) rfl (l' := #[.val (.ref o0), .val (.int p1), .val (.int p2), .val (.int p3), .val (.int (p1 + p2)), .val (.int (fh (a + i)))]) rfl ?_
      show Steps p.tables e below (s₁.setTop (mkF m 20 #[.val (.ref o0), .val (.int p1), .val (.int p2), .val (.int p3), .val (.int (p1 + p2)), .val (.int (fh (a + i)))] [])) _
      refine XS.iload X0.here hx rfl (hb hby d4_20) rfl ?_
      show Steps p.tables e below (s₁.setTop (mkF m 22 #[.val (.ref o0), .val (.int p1), .val (.int p2), .val (.int p3), .val (.int (p1 + p2)), .val (.int (fh (a + i)))] [(.int (fh (a + i)))])) _
      refine XS.iloadN X0.here hx rfl (hb hby d4_22) rfl ?_
      exact kt
    by_cases hc4 : (fh (a + i)) = p3
    · skip
      have K5 : ∀ t, Steps p.tables e below (s₁.setTop (mkF m 27 #[.val (.ref o0), .val (.int p1), .val (.int p2), .val (.int p3), .val (.int (p1 + p2)), .val (.int (fh (a + i)))] [(.int (0 : Int32))])) t → Steps p.tables e below (s₁.setTop (mkF m 0 #[.val (.ref o0), .val (.int p1), .val (.int p2), .val (.int p3), .unset, .unset] [])) t := by
        intro t kt
        refine K3 _ ?_
        show Steps p.tables e below (s₁.setTop (mkF m 23 #[.val (.ref o0), .val (.int p1), .val (.int p2), .val (.int p3), .val (.int (p1 + p2)), .val (.int (fh (a + i)))] [(.int p3), (.int (fh (a + i)))])) _
        refine XS.icmpNo X0.here hx rfl (hb hby d4_23) rfl (teq hc4).2 ?_
        show Steps p.tables e below (s₁.setTop (mkF m 26 #[.val (.ref o0), .val (.int p1), .val (.int p2), .val (.int p3), .val (.int (p1 + p2)), .val (.int (fh (a + i)))] [])) _
        refine XS.iconst X0.here hx rfl (hb hby d4_26) ?_
        exact kt
      have hv : f4 p1 p2 p3 fh a i = (0 : Int32) := by simp only [f4, if_pos hc2, if_pos hc4]
      obtain ⟨fsQ, hr, hrun, hended, hW, hsame⟩ := X0.leave (v := some (.int (0 : Int32))) (fun h => by rw [Bd.returns] at h; cases h)
      refine ⟨_, _, pre0 _ (K5 _ ?_), hrun, hended, _, _, rfl, ?_, ⟨_, rfl⟩, hW, hsame.mono (by decide) (by decide)⟩
      · show Steps p.tables e below (s₁.setTop (mkF m 27 #[.val (.ref o0), .val (.int p1), .val (.int p2), .val (.int p3), .val (.int (p1 + p2)), .val (.int (fh (a + i)))] [(.int (0 : Int32))])) _
        exact retN X0 hx (t := .boolean) Bd.returns (by simp) (hb hby d4_27) hr
      · show Q4 Z o0 p1 p2 p3 fh a i h0 _ s₁.heap _
        rw [e0]
        exact ⟨by rw [hv], rfl, rfl⟩
    · skip
      have K6 : ∀ t, Steps p.tables e below (s₁.setTop (mkF m 29 #[.val (.ref o0), .val (.int p1), .val (.int p2), .val (.int p3), .val (.int (p1 + p2)), .val (.int (fh (a + i)))] [(.int p2)])) t → Steps p.tables e below (s₁.setTop (mkF m 0 #[.val (.ref o0), .val (.int p1), .val (.int p2), .val (.int p3), .unset, .unset] [])) t := by
        intro t kt
        refine K3 _ ?_
        show Steps p.tables e below (s₁.setTop (mkF m 23 #[.val (.ref o0), .val (.int p1), .val (.int p2), .val (.int p3), .val (.int (p1 + p2)), .val (.int (fh (a + i)))] [(.int p3), (.int (fh (a + i)))])) _
        refine XS.icmpYes X0.here hx rfl (pc0 := 23) (pc' := 28) rfl (hb hby d4_23) rfl (feq hc4).2 (by decide) (by decide) ?_
        show Steps p.tables e below (s₁.setTop (mkF m 28 #[.val (.ref o0), .val (.int p1), .val (.int p2), .val (.int p3), .val (.int (p1 + p2)), .val (.int (fh (a + i)))] [])) _
        refine XS.iloadN X0.here hx rfl (hb hby d4_28) rfl ?_
        exact kt
      by_cases hc7 : p2 = (0 : Int32)
      · skip
        have K8 : ∀ t, Steps p.tables e below (s₁.setTop (mkF m 45 #[.val (.ref o0), .val (.int p1), .val (.int p2), .val (.int p3), .val (.int (p1 + p2)), .val (.int (fh (a + i)))] [(.int (1 : Int32))])) t → Steps p.tables e below (s₁.setTop (mkF m 0 #[.val (.ref o0), .val (.int p1), .val (.int p2), .val (.int p3), .unset, .unset] [])) t := by
          intro t kt
          refine K6 _ ?_
          show Steps p.tables e below (s₁.setTop (mkF m 29 #[.val (.ref o0), .val (.int p1), .val (.int p2), .val (.int p3), .val (.int (p1 + p2)), .val (.int (fh (a + i)))] [(.int p2)])) _
          refine XS.ifYes X0.here hx rfl (pc0 := 29) (pc' := 40) rfl (hb hby d4_29) rfl ((if0 _ _).trans (teq hc7).1) (by decide) (by decide) ?_
          show Steps p.tables e below (s₁.setTop (mkF m 40 #[.val (.ref o0), .val (.int p1), .val (.int p2), .val (.int p3), .val (.int (p1 + p2)), .val (.int (fh (a + i)))] [])) _
          refine XS.iconst X0.here hx rfl (hb hby d4_40) ?_
          show Steps p.tables e below (s₁.setTop (mkF m 41 #[.val (.ref o0), .val (.int p1), .val (.int p2), .val (.int p3), .val (.int (p1 + p2)), .val (.int (fh (a + i)))] [(.int (1 : Int32))])) _
          refine XS.goto X0.here hx rfl (pc0 := 41) (pc' := 45) rfl (hb hby d4_41) (by decide) (by decide) ?_
          exact kt
        have hv : f4 p1 p2 p3 fh a i = (1 : Int32) := by simp only [f4, if_pos hc2, if_neg hc4, if_pos hc7]
        obtain ⟨fsQ, hr, hrun, hended, hW, hsame⟩ := X0.leave (v := some (.int (1 : Int32))) (fun h => by rw [Bd.returns] at h; cases h)
        refine ⟨_, _, pre0 _ (K8 _ ?_), hrun, hended, _, _, rfl, ?_, ⟨_, rfl⟩, hW, hsame.mono (by decide) (by decide)⟩
        · show Steps p.tables e below (s₁.setTop (mkF m 45 #[.val (.ref o0), .val (.int p1), .val (.int p2), .val (.int p3), .val (.int (p1 + p2)), .val (.int (fh (a + i)))] [(.int (1 : Int32))])) _
          exact retN X0 hx (t := .boolean) Bd.returns (by simp) (hb hby d4_45) hr
        · show Q4 Z o0 p1 p2 p3 fh a i h0 _ s₁.heap _
          rw [e0]
          exact ⟨by rw [hv], rfl, rfl⟩
      · skip
        have K9 : ∀ t, Steps p.tables e below (s₁.setTop (mkF m 37 #[.val (.ref o0), .val (.int p1), .val (.int p2), .val (.int p3), .val (.int (p1 + p2)), .val (.int (fh (a + i)))] [(.int (fh a)), (.int (fh (a + i)))])) t → Steps p.tables e below (s₁.setTop (mkF m 0 #[.val (.ref o0), .val (.int p1), .val (.int p2), .val (.int p3), .unset, .unset] [])) t := by
          intro t kt
          refine K6 _ ?_
          show Steps p.tables e below (s₁.setTop (mkF m 29 #[.val (.ref o0), .val (.int p1), .val (.int p2), .val (.int p3), .val (.int (p1 + p2)), .val (.int (fh (a + i)))] [(.int p2)])) _
          refine XS.ifNo X0.here hx rfl (hb hby d4_29) rfl ((if0 _ _).trans (feq hc7).1) ?_
          show Steps p.tables e below (s₁.setTop (mkF m 32 #[.val (.ref o0), .val (.int p1), .val (.int p2), .val (.int p3), .val (.int (p1 + p2)), .val (.int (fh (a + i)))] [])) _
          refine XS.iload X0.here hx rfl (hb hby d4_32) rfl ?_
          show Steps p.tables e below (s₁.setTop (mkF m 34 #[.val (.ref o0), .val (.int p1), .val (.int p2), .val (.int p3), .val (.int (p1 + p2)), .val (.int (fh (a + i)))] [(.int (fh (a + i)))])) _
          refine XS.aloadN X0.here hx rfl (hb hby d4_34) rfl rfl ?_
          show Steps p.tables e below (s₁.setTop (mkF m 35 #[.val (.ref o0), .val (.int p1), .val (.int p2), .val (.int p3), .val (.int (p1 + p2)), .val (.int (fh (a + i)))] [(.ref o0), (.int (fh (a + i)))])) _
          refine XS.iloadN X0.here hx rfl (hb hby d4_35) rfl ?_
          show Steps p.tables e below (s₁.setTop (mkF m 36 #[.val (.ref o0), .val (.int p1), .val (.int p2), .val (.int p3), .val (.int (p1 + p2)), .val (.int (fh (a + i)))] [(.int p1), (.ref o0), (.int (fh (a + i)))])) _
          refine iaLB X0 hx hZ e0 AH (j := p1) a ha (by have := (own_six ha hi ha7 hi4).mp hc2; omega) (g := (mkF m 36 #[.val (.ref o0), .val (.int p1), .val (.int p2), .val (.int p3), .val (.int (p1 + p2)), .val (.int (fh (a + i)))] [(.int p1), (.ref o0), (.int (fh (a + i)))])) rfl rfl (hb hby d4_36) _ ?_
          exact kt
        by_cases hc10 : (fh (a + i)) = (fh a)
        · skip
          have K11 : ∀ t, Steps p.tables e below (s₁.setTop (mkF m 45 #[.val (.ref o0), .val (.int p1), .val (.int p2), .val (.int p3), .val (.int (p1 + p2)), .val (.int (fh (a + i)))] [(.int (0 : Int32))])) t → Steps p.tables e below (s₁.setTop (mkF m 0 #[.val (.ref o0), .val (.int p1), .val (.int p2), .val (.int p3), .unset, .unset] [])) t := by
            intro t kt
            refine K9 _ ?_
            show Steps p.tables e below (s₁.setTop (mkF m 37 #[.val (.ref o0), .val (.int p1), .val (.int p2), .val (.int p3), .val (.int (p1 + p2)), .val (.int (fh (a + i)))] [(.int (fh a)), (.int (fh (a + i)))])) _
            refine XS.icmpYes X0.here hx rfl (pc0 := 37) (pc' := 44) rfl (hb hby d4_37) rfl (teq hc10).1 (by decide) (by decide) ?_
            show Steps p.tables e below (s₁.setTop (mkF m 44 #[.val (.ref o0), .val (.int p1), .val (.int p2), .val (.int p3), .val (.int (p1 + p2)), .val (.int (fh (a + i)))] [])) _
            refine XS.iconst X0.here hx rfl (hb hby d4_44) ?_
            exact kt
          have hv : f4 p1 p2 p3 fh a i = (0 : Int32) := by simp only [f4, if_pos hc2, if_neg hc4, if_neg hc7, if_pos hc10]
          obtain ⟨fsQ, hr, hrun, hended, hW, hsame⟩ := X0.leave (v := some (.int (0 : Int32))) (fun h => by rw [Bd.returns] at h; cases h)
          refine ⟨_, _, pre0 _ (K11 _ ?_), hrun, hended, _, _, rfl, ?_, ⟨_, rfl⟩, hW, hsame.mono (by decide) (by decide)⟩
          · show Steps p.tables e below (s₁.setTop (mkF m 45 #[.val (.ref o0), .val (.int p1), .val (.int p2), .val (.int p3), .val (.int (p1 + p2)), .val (.int (fh (a + i)))] [(.int (0 : Int32))])) _
            exact retN X0 hx (t := .boolean) Bd.returns (by simp) (hb hby d4_45) hr
          · show Q4 Z o0 p1 p2 p3 fh a i h0 _ s₁.heap _
            rw [e0]
            exact ⟨by rw [hv], rfl, rfl⟩
        · skip
          have K12 : ∀ t, Steps p.tables e below (s₁.setTop (mkF m 45 #[.val (.ref o0), .val (.int p1), .val (.int p2), .val (.int p3), .val (.int (p1 + p2)), .val (.int (fh (a + i)))] [(.int (1 : Int32))])) t → Steps p.tables e below (s₁.setTop (mkF m 0 #[.val (.ref o0), .val (.int p1), .val (.int p2), .val (.int p3), .unset, .unset] [])) t := by
            intro t kt
            refine K9 _ ?_
            show Steps p.tables e below (s₁.setTop (mkF m 37 #[.val (.ref o0), .val (.int p1), .val (.int p2), .val (.int p3), .val (.int (p1 + p2)), .val (.int (fh (a + i)))] [(.int (fh a)), (.int (fh (a + i)))])) _
            refine XS.icmpNo X0.here hx rfl (hb hby d4_37) rfl (feq hc10).1 ?_
            show Steps p.tables e below (s₁.setTop (mkF m 40 #[.val (.ref o0), .val (.int p1), .val (.int p2), .val (.int p3), .val (.int (p1 + p2)), .val (.int (fh (a + i)))] [])) _
            refine XS.iconst X0.here hx rfl (hb hby d4_40) ?_
            show Steps p.tables e below (s₁.setTop (mkF m 41 #[.val (.ref o0), .val (.int p1), .val (.int p2), .val (.int p3), .val (.int (p1 + p2)), .val (.int (fh (a + i)))] [(.int (1 : Int32))])) _
            refine XS.goto X0.here hx rfl (pc0 := 41) (pc' := 45) rfl (hb hby d4_41) (by decide) (by decide) ?_
            exact kt
          have hv : f4 p1 p2 p3 fh a i = (1 : Int32) := by simp only [f4, if_pos hc2, if_neg hc4, if_neg hc7, if_neg hc10]
          obtain ⟨fsQ, hr, hrun, hended, hW, hsame⟩ := X0.leave (v := some (.int (1 : Int32))) (fun h => by rw [Bd.returns] at h; cases h)
          refine ⟨_, _, pre0 _ (K12 _ ?_), hrun, hended, _, _, rfl, ?_, ⟨_, rfl⟩, hW, hsame.mono (by decide) (by decide)⟩
          · show Steps p.tables e below (s₁.setTop (mkF m 45 #[.val (.ref o0), .val (.int p1), .val (.int p2), .val (.int p3), .val (.int (p1 + p2)), .val (.int (fh (a + i)))] [(.int (1 : Int32))])) _
            exact retN X0 hx (t := .boolean) Bd.returns (by simp) (hb hby d4_45) hr
          · show Q4 Z o0 p1 p2 p3 fh a i h0 _ s₁.heap _
            rw [e0]
            exact ⟨by rw [hv], rfl, rfl⟩
  · skip
    have K13 : ∀ t, Steps p.tables e below (s₁.setTop (mkF m 13 #[.val (.ref o0), .val (.int p1), .val (.int p2), .val (.int p3), .val (.int (p1 + p2)), .unset] [(.int (0 : Int32))])) t → Steps p.tables e below (s₁.setTop (mkF m 0 #[.val (.ref o0), .val (.int p1), .val (.int p2), .val (.int p3), .unset, .unset] [])) t := by
      intro t kt
      refine K1 _ ?_
      show Steps p.tables e below (s₁.setTop (mkF m 9 #[.val (.ref o0), .val (.int p1), .val (.int p2), .val (.int p3), .val (.int (p1 + p2)), .unset] [(.int (6 : Int32)), (.int (p1 + p2))])) _
      refine XS.icmpNo X0.here hx rfl (hb hby d4_9) rfl (flt hc2).1 ?_
      show Steps p.tables e below (s₁.setTop (mkF m 12 #[.val (.ref o0), .val (.int p1), .val (.int p2), .val (.int p3), .val (.int (p1 + p2)), .unset] [])) _
      refine XS.iconst X0.here hx rfl (hb hby d4_12) ?_
      exact kt
    have hv : f4 p1 p2 p3 fh a i = (0 : Int32) := by simp only [f4, if_neg hc2]
    obtain ⟨fsQ, hr, hrun, hended, hW, hsame⟩ := X0.leave (v := some (.int (0 : Int32))) (fun h => by rw [Bd.returns] at h; cases h)
    refine ⟨_, _, pre0 _ (K13 _ ?_), hrun, hended, _, _, rfl, ?_, ⟨_, rfl⟩, hW, hsame.mono (by decide) (by decide)⟩
    · show Steps p.tables e below (s₁.setTop (mkF m 13 #[.val (.ref o0), .val (.int p1), .val (.int p2), .val (.int p3), .val (.int (p1 + p2)), .unset] [(.int (0 : Int32))])) _
      exact retN X0 hx (t := .boolean) Bd.returns (by simp) (hb hby d4_13) hr
    · show Q4 Z o0 p1 p2 p3 fh a i h0 _ s₁.heap _
      rw [e0]
      exact ⟨by rw [hv], rfl, rfl⟩
theorem ef_3 (m : MethodId) (x0 : Addr) (x1 : Addr) (x2 : Addr) (x3 : Int32) (x4 : Int32) (x5 : Int32) (x6 : Addr) : entryFrame m #[(.ref x0), (.ref x1), (.ref x2), (.int x3), (.int x4), (.int x5), (.ref x6)] 8 = mkF m 0 #[.val (.ref x0), .val (.ref x1), .val (.ref x2), .val (.int x3), .val (.int x4), .val (.int x5), .val (.ref x6), .unset] [] := by first | (simp [entryFrame, mkF, argsToLocals, Value.category]; done) | rfl
theorem d3_0 : decode method_5_code 0 = .ok (.iload 5, 2) := by decide +kernel
theorem d3_2 : decode method_5_code 2 = .ok (.aload_n 0, 1) := by decide +kernel
theorem d3_3 : decode method_5_code 3 = .ok (.arraylength, 1) := by decide +kernel
theorem d3_4 : decode method_5_code 4 = .ok (.if_icmp .lt 5, 3) := by decide +kernel
theorem d3_9 : decode method_5_code 9 = .ok (.iload 5, 2) := by decide +kernel
theorem d3_11 : decode method_5_code 11 = .ok (.iload 4, 2) := by decide +kernel
theorem d3_13 : decode method_5_code 13 = .ok (.if_icmp .ge 12, 3) := by decide +kernel
theorem d3_16 : decode method_5_code 16 = .ok (.aload_n 2, 1) := by decide +kernel
theorem d3_17 : decode method_5_code 17 = .ok (.iload_n 3, 1) := by decide +kernel
theorem d3_18 : decode method_5_code 18 = .ok (.iload 5, 2) := by decide +kernel
theorem d3_20 : decode method_5_code 20 = .ok (.iadd, 1) := by decide +kernel
theorem d3_21 : decode method_5_code 21 = .ok (.baload, 1) := by decide +kernel
theorem d3_22 : decode method_5_code 22 = .ok (.goto 8, 3) := by decide +kernel
theorem d3_30 : decode method_5_code 30 = .ok (.istore 7, 2) := by decide +kernel
theorem d3_32 : decode method_5_code 32 = .ok (.aload_n 0, 1) := by decide +kernel
theorem d3_33 : decode method_5_code 33 = .ok (.iload 5, 2) := by decide +kernel
theorem d3_35 : decode method_5_code 35 = .ok (.baload, 1) := by decide +kernel
theorem d3_36 : decode method_5_code 36 = .ok (.iload 7, 2) := by decide +kernel
theorem d3_38 : decode method_5_code 38 = .ok (.if_icmp .ne 19, 3) := by decide +kernel
theorem d3_41 : decode method_5_code 41 = .ok (.aload_n 1, 1) := by decide +kernel
theorem d3_42 : decode method_5_code 42 = .ok (.iload 5, 2) := by decide +kernel
theorem d3_44 : decode method_5_code 44 = .ok (.baload, 1) := by decide +kernel
theorem d3_45 : decode method_5_code 45 = .ok (.aload 6, 2) := by decide +kernel
theorem d3_47 : decode method_5_code 47 = .ok (.iload 5, 2) := by decide +kernel
theorem d3_49 : decode method_5_code 49 = .ok (.baload, 1) := by decide +kernel
theorem d3_50 : decode method_5_code 50 = .ok (.if_icmp .ne 7, 3) := by decide +kernel
theorem d3_53 : decode method_5_code 53 = .ok (.iconst 1, 1) := by decide +kernel
theorem d3_54 : decode method_5_code 54 = .ok (.goto 4, 3) := by decide +kernel
theorem d3_58 : decode method_5_code 58 = .ok (.ireturn, 1) := by decide +kernel
theorem d3_57 : decode method_5_code 57 = .ok (.iconst 0, 1) := by decide +kernel
theorem d3_25 : decode method_5_code 25 = .ok (.aload 6, 2) := by decide +kernel
theorem d3_27 : decode method_5_code 27 = .ok (.iload 5, 2) := by decide +kernel
theorem d3_29 : decode method_5_code 29 = .ok (.baload, 1) := by decide +kernel
theorem d3_7 : decode method_5_code 7 = .ok (.iconst 1, 1) := by decide +kernel
theorem d3_8 : decode method_5_code 8 = .ok (.ireturn, 1) := by decide +kernel
def f3 (p3 : Int32) (p4 : Int32) (p5 : Int32) (fo : Nat → Int32) (fu : Nat → Int32) (fh : Nat → Int32) (fq : Nat → Int32) (n : Nat) (a : Nat) (i : Nat) : Int32 := if p5 < (Int32.ofNat n) then (if p5 < p4 then (if (fo i) = (fh (a + i)) then (if (fu i) = (fq i) then (1 : Int32)
        else (0 : Int32))
      else (0 : Int32))
    else if (fo i) = (fq i) then (if (fu i) = (fq i) then (1 : Int32)
      else (0 : Int32))
    else (0 : Int32))
  else (1 : Int32)
def Q3 (Z : State) (o0 : Addr) (o1 : Addr) (o2 : Addr) (p3 : Int32) (p4 : Int32) (p5 : Int32) (o6 : Addr) (fo : Nat → Int32) (fu : Nat → Int32) (fh : Nat → Int32) (fq : Nat → Int32) (n : Nat) (a : Nat) (i : Nat) (h0 : Heap) (v : Option Value) (h : Heap) (L : List Loc) : Prop := v = some (.int (f3 p3 p4 p5 fo fu fh fq n a i)) ∧ L = [] ∧ h = h0
set_option maxRecDepth 65536 in
set_option maxHeartbeats 40000000 in
theorem rm3 (l : Launch) (Z : State) (a0 : Array Value) (hw : ∀ d ∈ tables_1, d.before a0 Z = true) (ws : List Jvm.Cond) (o0 : Addr) (o1 : Addr) (o2 : Addr) (p3 : Int32) (p4 : Int32) (p5 : Int32) (o6 : Addr) (fo : Nat → Int32) (fu : Nat → Int32) (fh : Nat → Int32) (fq : Nat → Int32) (n : Nat) (a : Nat) (i : Nat) (h0 : Heap) (AH : Ia Z h0 o0 .byte n fo) (AU : Ia Z h0 o1 .byte n fu) (AW : Ia Z h0 o2 .byte 6 fh) (AQ : Ia Z h0 o6 .byte 4 fq) (ha : p3.toInt = (a : Int)) (hi : p5.toInt = (i : Int)) (ha7 : a ≤ 7) (hi4 : i < 4) (hn : n ≤ 4) (hak : p5 < p4 → a + i < 6) :
    MetFree l (⟨"com/example/benchwire/benchwire/protocols/DelimitedTextDeclaredDelimitersPinLaw", "cell", "([B[B[BIII[B)Z"⟩ : MethodName) (head1 (Jvm.Cond.code (⟨"com/example/benchwire/benchwire/protocols/DelimitedTextDeclaredDelimitersPinLaw", "cell", "([B[B[BIII[B)Z"⟩ : MethodName) method_5_code 8 (some .boolean) :: ws) ({ frames := 0, cells := 0, slots := 0, locals := 0 } : Room)) (fun a U => a = #[(.ref o0), (.ref o1), (.ref o2), (.int p3), (.int p4), (.int p5), (.ref o6)] ∧ Z.Warmed39 U.vm ∧ U.heap = h0) (fun _ _ _ _ _ => True) (fun _ U o U' => ∃ v L, o = .returned v ∧ Q3 Z o0 o1 o2 p3 p4 p5 o6 fo fu fh fq n a i h0 v U'.heap L ∧ FrameEnd U o U' L ({ frames := 0, cells := 0, slots := 0, locals := 0 } : Room).cells ({ frames := 0, cells := 0, slots := 0, locals := 0 } : Room).slots) := by
  refine MetFree.of_bodySF (plainFor_of_name pn_0) hisR ?_
  intro p e s m args below meth c s₁ Bd hml0 hP hK
  obtain ⟨rfl, hZ, hh⟩ := hP
  have hx := Bd.exec
  have hby := Bd.bytes
  have hml : c.maxLocals = 8 := hml0
  have hown : s.vm.findClass "com/example/benchwire/benchwire/protocols/DelimitedTextDeclaredDelimitersPinLaw" = some m.cls := findClass_of_methodNamed Bd.named
  have hnm := (name_of_methodNamed Bd.named Bd.method).1
  have X0 : Stand p l e ({ frames := 0, cells := 0, slots := 0, locals := 0 } : Room) s m #[(.ref o0), (.ref o1), (.ref o2), (.int p3), (.int p4), (.int p5), (.ref o6)] below meth c s₁ [] 0 0 := Stand.of_body Bd
  have e0 : s₁.heap = h0 := by rw [← hh, Bd.state]; rfl
  have pre0 : ∀ t, Steps p.tables e below (s₁.setTop (mkF m 0 #[.val (.ref o0), .val (.ref o1), .val (.ref o2), .val (.int p3), .val (.int p4), .val (.int p5), .val (.ref o6), .unset] [])) t → Steps p.tables e below (s₁.setTop (entryFrame m #[(.ref o0), (.ref o1), (.ref o2), (.int p3), (.int p4), (.int p5), (.ref o6)] 8)) t := fun t k => castTop (ef_3 m o0 o1 o2 p3 p4 p5 o6) k
  have K1 : ∀ t, Steps p.tables e below (s₁.setTop (mkF m 4 #[.val (.ref o0), .val (.ref o1), .val (.ref o2), .val (.int p3), .val (.int p4), .val (.int p5), .val (.ref o6), .unset] [(.int (Int32.ofNat n)), (.int p5)])) t → Steps p.tables e below (s₁.setTop (mkF m 0 #[.val (.ref o0), .val (.ref o1), .val (.ref o2), .val (.int p3), .val (.int p4), .val (.int p5), .val (.ref o6), .unset] [])) t := by
    intro t kt
    show Steps p.tables e below (s₁.setTop (mkF m 0 #[.val (.ref o0), .val (.ref o1), .val (.ref o2), .val (.int p3), .val (.int p4), .val (.int p5), .val (.ref o6), .unset] [])) _
    refine XS.iload X0.here hx rfl (hb hby d3_0) rfl ?_
    show Steps p.tables e below (s₁.setTop (mkF m 2 #[.val (.ref o0), .val (.ref o1), .val (.ref o2), .val (.int p3), .val (.int p4), .val (.int p5), .val (.ref o6), .unset] [(.int p5)])) _
    refine XS.aloadN X0.here hx rfl (hb hby d3_2) rfl rfl ?_
    show Steps p.tables e below (s₁.setTop (mkF m 3 #[.val (.ref o0), .val (.ref o1), .val (.ref o2), .val (.int p3), .val (.int p4), .val (.int p5), .val (.ref o6), .unset] [(.ref o0), (.int p5)])) _
    refine iaLen X0 hx hZ e0 AH (g := (mkF m 3 #[.val (.ref o0), .val (.ref o1), .val (.ref o2), .val (.int p3), .val (.int p4), .val (.int p5), .val (.ref o6), .unset] [(.ref o0), (.int p5)])) rfl rfl (hb hby d3_3) _ ?_
    exact kt
  by_cases hc2 : p5 < (Int32.ofNat n)
  · skip
    have K3 : ∀ t, Steps p.tables e below (s₁.setTop (mkF m 13 #[.val (.ref o0), .val (.ref o1), .val (.ref o2), .val (.int p3), .val (.int p4), .val (.int p5), .val (.ref o6), .unset] [(.int p4), (.int p5)])) t → Steps p.tables e below (s₁.setTop (mkF m 0 #[.val (.ref o0), .val (.ref o1), .val (.ref o2), .val (.int p3), .val (.int p4), .val (.int p5), .val (.ref o6), .unset] [])) t := by
      intro t kt
      refine K1 _ ?_
      show Steps p.tables e below (s₁.setTop (mkF m 4 #[.val (.ref o0), .val (.ref o1), .val (.ref o2), .val (.int p3), .val (.int p4), .val (.int p5), .val (.ref o6), .unset] [(.int (Int32.ofNat n)), (.int p5)])) _
      refine XS.icmpYes X0.here hx rfl (pc0 := 4) (pc' := 9) rfl (hb hby d3_4) rfl (tlt hc2).1 (by decide) (by decide) ?_
      show Steps p.tables e below (s₁.setTop (mkF m 9 #[.val (.ref o0), .val (.ref o1), .val (.ref o2), .val (.int p3), .val (.int p4), .val (.int p5), .val (.ref o6), .unset] [])) _
      refine XS.iload X0.here hx rfl (hb hby d3_9) rfl ?_
      show Steps p.tables e below (s₁.setTop (mkF m 11 #[.val (.ref o0), .val (.ref o1), .val (.ref o2), .val (.int p3), .val (.int p4), .val (.int p5), .val (.ref o6), .unset] [(.int p5)])) _
      refine XS.iload X0.here hx rfl (hb hby d3_11) rfl ?_
      exact kt
    by_cases hc4 : p5 < p4
    · skip
      have K5 : ∀ t, Steps p.tables e below (s₁.setTop (mkF m 38 #[.val (.ref o0), .val (.ref o1), .val (.ref o2), .val (.int p3), .val (.int p4), .val (.int p5), .val (.ref o6), .val (.int (fh (a + i)))] [(.int (fh (a + i))), (.int (fo i))])) t → Steps p.tables e below (s₁.setTop (mkF m 0 #[.val (.ref o0), .val (.ref o1), .val (.ref o2), .val (.int p3), .val (.int p4), .val (.int p5), .val (.ref o6), .unset] [])) t := by
        intro t kt
        refine K3 _ ?_
        show Steps p.tables e below (s₁.setTop (mkF m 13 #[.val (.ref o0), .val (.ref o1), .val (.ref o2), .val (.int p3), .val (.int p4), .val (.int p5), .val (.ref o6), .unset] [(.int p4), (.int p5)])) _
        refine XS.icmpNo X0.here hx rfl (hb hby d3_13) rfl (tlt hc4).2.1 ?_
        show Steps p.tables e below (s₁.setTop (mkF m 16 #[.val (.ref o0), .val (.ref o1), .val (.ref o2), .val (.int p3), .val (.int p4), .val (.int p5), .val (.ref o6), .unset] [])) _
        refine XS.aloadN X0.here hx rfl (hb hby d3_16) rfl rfl ?_
        show Steps p.tables e below (s₁.setTop (mkF m 17 #[.val (.ref o0), .val (.ref o1), .val (.ref o2), .val (.int p3), .val (.int p4), .val (.int p5), .val (.ref o6), .unset] [(.ref o2)])) _
        refine XS.iloadN X0.here hx rfl (hb hby d3_17) rfl ?_
        show Steps p.tables e below (s₁.setTop (mkF m 18 #[.val (.ref o0), .val (.ref o1), .val (.ref o2), .val (.int p3), .val (.int p4), .val (.int p5), .val (.ref o6), .unset] [(.int p3), (.ref o2)])) _
        refine XS.iload X0.here hx rfl (hb hby d3_18) rfl ?_
        show Steps p.tables e below (s₁.setTop (mkF m 20 #[.val (.ref o0), .val (.ref o1), .val (.ref o2), .val (.int p3), .val (.int p4), .val (.int p5), .val (.ref o6), .unset] [(.int p5), (.int p3), (.ref o2)])) _
        refine XS.iadd X0.here hx rfl (hb hby d3_20) rfl ?_
        show Steps p.tables e below (s₁.setTop (mkF m 21 #[.val (.ref o0), .val (.ref o1), .val (.ref o2), .val (.int p3), .val (.int p4), .val (.int p5), .val (.ref o6), .unset] [(.int (p3 + p5)), (.ref o2)])) _
        refine iaLB X0 hx hZ e0 AW (j := (p3 + p5)) (a + i) (own_pl0 ha hi ha7 (by omega)) (hak hc4) (g := (mkF m 21 #[.val (.ref o0), .val (.ref o1), .val (.ref o2), .val (.int p3), .val (.int p4), .val (.int p5), .val (.ref o6), .unset] [(.int (p3 + p5)), (.ref o2)])) rfl rfl (hb hby d3_21) _ ?_
        show Steps p.tables e below (s₁.setTop (mkF m 22 #[.val (.ref o0), .val (.ref o1), .val (.ref o2), .val (.int p3), .val (.int p4), .val (.int p5), .val (.ref o6), .unset] [(.int (fh (a + i)))])) _
        refine XS.goto X0.here hx rfl (pc0 := 22) (pc' := 30) rfl (hb hby d3_22) (by decide) (by decide) ?_
        show Steps p.tables e below (s₁.setTop (mkF m 30 #[.val (.ref o0), .val (.ref o1), .val (.ref o2), .val (.int p3), .val (.int p4), .val (.int p5), .val (.ref o6), .unset] [(.int (fh (a + i)))])) _
        refine XS.istore X0.here hx rfl (hb hby d3_30) rfl (l' := #[.val (.ref o0), .val (.ref o1), .val (.ref o2), .val (.int p3), .val (.int p4), .val (.int p5), .val (.ref o6), .val (.int (fh (a + i)))]) rfl ?_
        show Steps p.tables e below (s₁.setTop (mkF m 32 #[.val (.ref o0), .val (.ref o1), .val (.ref o2), .val (.int p3), .val (.int p4), .val (.int p5), .val (.ref o6), .val (.int (fh (a + i)))] [])) _
        refine XS.aloadN X0.here hx rfl (hb hby d3_32) rfl rfl ?_
        show Steps p.tables e below (s₁.setTop (mkF m 33 #[.val (.ref o0), .val (.ref o1), .val (.ref o2), .val (.int p3), .val (.int p4), .val (.int p5), .val (.ref o6), .val (.int (fh (a + i)))] [(.ref o0)])) _
        refine XS.iload X0.here hx rfl (hb hby d3_33) rfl ?_
        show Steps p.tables e below (s₁.setTop (mkF m 35 #[.val (.ref o0), .val (.ref o1), .val (.ref o2), .val (.int p3), .val (.int p4), .val (.int p5), .val (.ref o6), .val (.int (fh (a + i)))] [(.int p5), (.ref o0)])) _
        refine iaLB X0 hx hZ e0 AH (j := p5) i hi (by have := hc2; rw [Int32.lt_iff_toInt_lt, hi, own_ti (Nat.le_refl n) (by omega)] at this; omega) (g := (mkF m 35 #[.val (.ref o0), .val (.ref o1), .val (.ref o2), .val (.int p3), .val (.int p4), .val (.int p5), .val (.ref o6), .val (.int (fh (a + i)))] [(.int p5), (.ref o0)])) rfl rfl (hb hby d3_35) _ ?_
        show Steps p.tables e below (s₁.setTop (mkF m 36 #[.val (.ref o0), .val (.ref o1), .val (.ref o2), .val (.int p3), .val (.int p4), .val (.int p5), .val (.ref o6), .val (.int (fh (a + i)))] [(.int (fo i))])) _
        refine XS.iload X0.here hx rfl (hb hby d3_36) rfl ?_
        exact kt
      by_cases hc6 : (fo i) = (fh (a + i))
      · skip
        have K7 : ∀ t, Steps p.tables e below (s₁.setTop (mkF m 50 #[.val (.ref o0), .val (.ref o1), .val (.ref o2), .val (.int p3), .val (.int p4), .val (.int p5), .val (.ref o6), .val (.int (fh (a + i)))] [(.int (fq i)), (.int (fu i))])) t → Steps p.tables e below (s₁.setTop (mkF m 0 #[.val (.ref o0), .val (.ref o1), .val (.ref o2), .val (.int p3), .val (.int p4), .val (.int p5), .val (.ref o6), .unset] [])) t := by
          intro t kt
          refine K5 _ ?_
          show Steps p.tables e below (s₁.setTop (mkF m 38 #[.val (.ref o0), .val (.ref o1), .val (.ref o2), .val (.int p3), .val (.int p4), .val (.int p5), .val (.ref o6), .val (.int (fh (a + i)))] [(.int (fh (a + i))), (.int (fo i))])) _
          refine XS.icmpNo X0.here hx rfl (hb hby d3_38) rfl (teq hc6).2 ?_
          show Steps p.tables e below (s₁.setTop (mkF m 41 #[.val (.ref o0), .val (.ref o1), .val (.ref o2), .val (.int p3), .val (.int p4), .val (.int p5), .val (.ref o6), .val (.int (fh (a + i)))] [])) _
          refine XS.aloadN X0.here hx rfl (hb hby d3_41) rfl rfl ?_
          show Steps p.tables e below (s₁.setTop (mkF m 42 #[.val (.ref o0), .val (.ref o1), .val (.ref o2), .val (.int p3), .val (.int p4), .val (.int p5), .val (.ref o6), .val (.int (fh (a + i)))] [(.ref o1)])) _
          refine XS.iload X0.here hx rfl (hb hby d3_42) rfl ?_
          show Steps p.tables e below (s₁.setTop (mkF m 44 #[.val (.ref o0), .val (.ref o1), .val (.ref o2), .val (.int p3), .val (.int p4), .val (.int p5), .val (.ref o6), .val (.int (fh (a + i)))] [(.int p5), (.ref o1)])) _
          refine iaLB X0 hx hZ e0 AU (j := p5) i hi (by have := hc2; rw [Int32.lt_iff_toInt_lt, hi, own_ti (Nat.le_refl n) (by omega)] at this; omega) (g := (mkF m 44 #[.val (.ref o0), .val (.ref o1), .val (.ref o2), .val (.int p3), .val (.int p4), .val (.int p5), .val (.ref o6), .val (.int (fh (a + i)))] [(.int p5), (.ref o1)])) rfl rfl (hb hby d3_44) _ ?_
          show Steps p.tables e below (s₁.setTop (mkF m 45 #[.val (.ref o0), .val (.ref o1), .val (.ref o2), .val (.int p3), .val (.int p4), .val (.int p5), .val (.ref o6), .val (.int (fh (a + i)))] [(.int (fu i))])) _
          refine XS.aload X0.here hx rfl (hb hby d3_45) rfl rfl ?_
          show Steps p.tables e below (s₁.setTop (mkF m 47 #[.val (.ref o0), .val (.ref o1), .val (.ref o2), .val (.int p3), .val (.int p4), .val (.int p5), .val (.ref o6), .val (.int (fh (a + i)))] [(.ref o6), (.int (fu i))])) _
          refine XS.iload X0.here hx rfl (hb hby d3_47) rfl ?_
          show Steps p.tables e below (s₁.setTop (mkF m 49 #[.val (.ref o0), .val (.ref o1), .val (.ref o2), .val (.int p3), .val (.int p4), .val (.int p5), .val (.ref o6), .val (.int (fh (a + i)))] [(.int p5), (.ref o6), (.int (fu i))])) _
          refine iaLB X0 hx hZ e0 AQ (j := p5) i hi hi4 (g := (mkF m 49 #[.val (.ref o0), .val (.ref o1), .val (.ref o2), .val (.int p3), .val (.int p4), .val (.int p5), .val (.ref o6), .val (.int (fh (a + i)))] [(.int p5), (.ref o6), (.int (fu i))])) rfl rfl (hb hby d3_49) _ ?_
          exact kt
        by_cases hc8 : (fu i) = (fq i)
        · skip
          have K9 : ∀ t, Steps p.tables e below (s₁.setTop (mkF m 58 #[.val (.ref o0), .val (.ref o1), .val (.ref o2), .val (.int p3), .val (.int p4), .val (.int p5), .val (.ref o6), .val (.int (fh (a + i)))] [(.int (1 : Int32))])) t → Steps p.tables e below (s₁.setTop (mkF m 0 #[.val (.ref o0), .val (.ref o1), .val (.ref o2), .val (.int p3), .val (.int p4), .val (.int p5), .val (.ref o6), .unset] [])) t := by
            intro t kt
            refine K7 _ ?_
            show Steps p.tables e below (s₁.setTop (mkF m 50 #[.val (.ref o0), .val (.ref o1), .val (.ref o2), .val (.int p3), .val (.int p4), .val (.int p5), .val (.ref o6), .val (.int (fh (a + i)))] [(.int (fq i)), (.int (fu i))])) _
            refine XS.icmpNo X0.here hx rfl (hb hby d3_50) rfl (teq hc8).2 ?_
            show Steps p.tables e below (s₁.setTop (mkF m 53 #[.val (.ref o0), .val (.ref o1), .val (.ref o2), .val (.int p3), .val (.int p4), .val (.int p5), .val (.ref o6), .val (.int (fh (a + i)))] [])) _
            refine XS.iconst X0.here hx rfl (hb hby d3_53) ?_
            show Steps p.tables e below (s₁.setTop (mkF m 54 #[.val (.ref o0), .val (.ref o1), .val (.ref o2), .val (.int p3), .val (.int p4), .val (.int p5), .val (.ref o6), .val (.int (fh (a + i)))] [(.int (1 : Int32))])) _
            refine XS.goto X0.here hx rfl (pc0 := 54) (pc' := 58) rfl (hb hby d3_54) (by decide) (by decide) ?_
            exact kt
          have hv : f3 p3 p4 p5 fo fu fh fq n a i = (1 : Int32) := by simp only [f3, if_pos hc2, if_pos hc4, if_pos hc6, if_pos hc8]
          obtain ⟨fsQ, hr, hrun, hended, hW, hsame⟩ := X0.leave (v := some (.int (1 : Int32))) (fun h => by rw [Bd.returns] at h; cases h)
          refine ⟨_, _, pre0 _ (K9 _ ?_), hrun, hended, _, _, rfl, ?_, ⟨_, rfl⟩, hW, hsame.mono (by decide) (by decide)⟩
          · show Steps p.tables e below (s₁.setTop (mkF m 58 #[.val (.ref o0), .val (.ref o1), .val (.ref o2), .val (.int p3), .val (.int p4), .val (.int p5), .val (.ref o6), .val (.int (fh (a + i)))] [(.int (1 : Int32))])) _
            exact retN X0 hx (t := .boolean) Bd.returns (by simp) (hb hby d3_58) hr
          · show Q3 Z o0 o1 o2 p3 p4 p5 o6 fo fu fh fq n a i h0 _ s₁.heap _
            rw [e0]
            exact ⟨by rw [hv], rfl, rfl⟩
        · skip
          have K10 : ∀ t, Steps p.tables e below (s₁.setTop (mkF m 58 #[.val (.ref o0), .val (.ref o1), .val (.ref o2), .val (.int p3), .val (.int p4), .val (.int p5), .val (.ref o6), .val (.int (fh (a + i)))] [(.int (0 : Int32))])) t → Steps p.tables e below (s₁.setTop (mkF m 0 #[.val (.ref o0), .val (.ref o1), .val (.ref o2), .val (.int p3), .val (.int p4), .val (.int p5), .val (.ref o6), .unset] [])) t := by
            intro t kt
            refine K7 _ ?_
            show Steps p.tables e below (s₁.setTop (mkF m 50 #[.val (.ref o0), .val (.ref o1), .val (.ref o2), .val (.int p3), .val (.int p4), .val (.int p5), .val (.ref o6), .val (.int (fh (a + i)))] [(.int (fq i)), (.int (fu i))])) _
            refine XS.icmpYes X0.here hx rfl (pc0 := 50) (pc' := 57) rfl (hb hby d3_50) rfl (feq hc8).2 (by decide) (by decide) ?_
            show Steps p.tables e below (s₁.setTop (mkF m 57 #[.val (.ref o0), .val (.ref o1), .val (.ref o2), .val (.int p3), .val (.int p4), .val (.int p5), .val (.ref o6), .val (.int (fh (a + i)))] [])) _
            refine XS.iconst X0.here hx rfl (hb hby d3_57) ?_
            exact kt
          have hv : f3 p3 p4 p5 fo fu fh fq n a i = (0 : Int32) := by simp only [f3, if_pos hc2, if_pos hc4, if_pos hc6, if_neg hc8]
          obtain ⟨fsQ, hr, hrun, hended, hW, hsame⟩ := X0.leave (v := some (.int (0 : Int32))) (fun h => by rw [Bd.returns] at h; cases h)
          refine ⟨_, _, pre0 _ (K10 _ ?_), hrun, hended, _, _, rfl, ?_, ⟨_, rfl⟩, hW, hsame.mono (by decide) (by decide)⟩
          · show Steps p.tables e below (s₁.setTop (mkF m 58 #[.val (.ref o0), .val (.ref o1), .val (.ref o2), .val (.int p3), .val (.int p4), .val (.int p5), .val (.ref o6), .val (.int (fh (a + i)))] [(.int (0 : Int32))])) _
            exact retN X0 hx (t := .boolean) Bd.returns (by simp) (hb hby d3_58) hr
          · show Q3 Z o0 o1 o2 p3 p4 p5 o6 fo fu fh fq n a i h0 _ s₁.heap _
            rw [e0]
            exact ⟨by rw [hv], rfl, rfl⟩
      · skip
        have K11 : ∀ t, Steps p.tables e below (s₁.setTop (mkF m 58 #[.val (.ref o0), .val (.ref o1), .val (.ref o2), .val (.int p3), .val (.int p4), .val (.int p5), .val (.ref o6), .val (.int (fh (a + i)))] [(.int (0 : Int32))])) t → Steps p.tables e below (s₁.setTop (mkF m 0 #[.val (.ref o0), .val (.ref o1), .val (.ref o2), .val (.int p3), .val (.int p4), .val (.int p5), .val (.ref o6), .unset] [])) t := by
          intro t kt
          refine K5 _ ?_
          show Steps p.tables e below (s₁.setTop (mkF m 38 #[.val (.ref o0), .val (.ref o1), .val (.ref o2), .val (.int p3), .val (.int p4), .val (.int p5), .val (.ref o6), .val (.int (fh (a + i)))] [(.int (fh (a + i))), (.int (fo i))])) _
          refine XS.icmpYes X0.here hx rfl (pc0 := 38) (pc' := 57) rfl (hb hby d3_38) rfl (feq hc6).2 (by decide) (by decide) ?_
          show Steps p.tables e below (s₁.setTop (mkF m 57 #[.val (.ref o0), .val (.ref o1), .val (.ref o2), .val (.int p3), .val (.int p4), .val (.int p5), .val (.ref o6), .val (.int (fh (a + i)))] [])) _
          refine XS.iconst X0.here hx rfl (hb hby d3_57) ?_
          exact kt
        have hv : f3 p3 p4 p5 fo fu fh fq n a i = (0 : Int32) := by simp only [f3, if_pos hc2, if_pos hc4, if_neg hc6]
        obtain ⟨fsQ, hr, hrun, hended, hW, hsame⟩ := X0.leave (v := some (.int (0 : Int32))) (fun h => by rw [Bd.returns] at h; cases h)
        refine ⟨_, _, pre0 _ (K11 _ ?_), hrun, hended, _, _, rfl, ?_, ⟨_, rfl⟩, hW, hsame.mono (by decide) (by decide)⟩
        · show Steps p.tables e below (s₁.setTop (mkF m 58 #[.val (.ref o0), .val (.ref o1), .val (.ref o2), .val (.int p3), .val (.int p4), .val (.int p5), .val (.ref o6), .val (.int (fh (a + i)))] [(.int (0 : Int32))])) _
          exact retN X0 hx (t := .boolean) Bd.returns (by simp) (hb hby d3_58) hr
        · show Q3 Z o0 o1 o2 p3 p4 p5 o6 fo fu fh fq n a i h0 _ s₁.heap _
          rw [e0]
          exact ⟨by rw [hv], rfl, rfl⟩
    · skip
      have K12 : ∀ t, Steps p.tables e below (s₁.setTop (mkF m 38 #[.val (.ref o0), .val (.ref o1), .val (.ref o2), .val (.int p3), .val (.int p4), .val (.int p5), .val (.ref o6), .val (.int (fq i))] [(.int (fq i)), (.int (fo i))])) t → Steps p.tables e below (s₁.setTop (mkF m 0 #[.val (.ref o0), .val (.ref o1), .val (.ref o2), .val (.int p3), .val (.int p4), .val (.int p5), .val (.ref o6), .unset] [])) t := by
        intro t kt
        refine K3 _ ?_
        show Steps p.tables e below (s₁.setTop (mkF m 13 #[.val (.ref o0), .val (.ref o1), .val (.ref o2), .val (.int p3), .val (.int p4), .val (.int p5), .val (.ref o6), .unset] [(.int p4), (.int p5)])) _
        refine XS.icmpYes X0.here hx rfl (pc0 := 13) (pc' := 25) rfl (hb hby d3_13) rfl (flt hc4).2.1 (by decide) (by decide) ?_
        show Steps p.tables e below (s₁.setTop (mkF m 25 #[.val (.ref o0), .val (.ref o1), .val (.ref o2), .val (.int p3), .val (.int p4), .val (.int p5), .val (.ref o6), .unset] [])) _
        refine XS.aload X0.here hx rfl (hb hby d3_25) rfl rfl ?_
        show Steps p.tables e below (s₁.setTop (mkF m 27 #[.val (.ref o0), .val (.ref o1), .val (.ref o2), .val (.int p3), .val (.int p4), .val (.int p5), .val (.ref o6), .unset] [(.ref o6)])) _
        refine XS.iload X0.here hx rfl (hb hby d3_27) rfl ?_
        show Steps p.tables e below (s₁.setTop (mkF m 29 #[.val (.ref o0), .val (.ref o1), .val (.ref o2), .val (.int p3), .val (.int p4), .val (.int p5), .val (.ref o6), .unset] [(.int p5), (.ref o6)])) _
        refine iaLB X0 hx hZ e0 AQ (j := p5) i hi hi4 (g := (mkF m 29 #[.val (.ref o0), .val (.ref o1), .val (.ref o2), .val (.int p3), .val (.int p4), .val (.int p5), .val (.ref o6), .unset] [(.int p5), (.ref o6)])) rfl rfl (hb hby d3_29) _ ?_
        show Steps p.tables e below (s₁.setTop (mkF m 30 #[.val (.ref o0), .val (.ref o1), .val (.ref o2), .val (.int p3), .val (.int p4), .val (.int p5), .val (.ref o6), .unset] [(.int (fq i))])) _
        refine XS.istore X0.here hx rfl (hb hby d3_30) rfl (l' := #[.val (.ref o0), .val (.ref o1), .val (.ref o2), .val (.int p3), .val (.int p4), .val (.int p5), .val (.ref o6), .val (.int (fq i))]) rfl ?_
        show Steps p.tables e below (s₁.setTop (mkF m 32 #[.val (.ref o0), .val (.ref o1), .val (.ref o2), .val (.int p3), .val (.int p4), .val (.int p5), .val (.ref o6), .val (.int (fq i))] [])) _
        refine XS.aloadN X0.here hx rfl (hb hby d3_32) rfl rfl ?_
        show Steps p.tables e below (s₁.setTop (mkF m 33 #[.val (.ref o0), .val (.ref o1), .val (.ref o2), .val (.int p3), .val (.int p4), .val (.int p5), .val (.ref o6), .val (.int (fq i))] [(.ref o0)])) _
        refine XS.iload X0.here hx rfl (hb hby d3_33) rfl ?_
        show Steps p.tables e below (s₁.setTop (mkF m 35 #[.val (.ref o0), .val (.ref o1), .val (.ref o2), .val (.int p3), .val (.int p4), .val (.int p5), .val (.ref o6), .val (.int (fq i))] [(.int p5), (.ref o0)])) _
        refine iaLB X0 hx hZ e0 AH (j := p5) i hi (by have := hc2; rw [Int32.lt_iff_toInt_lt, hi, own_ti (Nat.le_refl n) (by omega)] at this; omega) (g := (mkF m 35 #[.val (.ref o0), .val (.ref o1), .val (.ref o2), .val (.int p3), .val (.int p4), .val (.int p5), .val (.ref o6), .val (.int (fq i))] [(.int p5), (.ref o0)])) rfl rfl (hb hby d3_35) _ ?_
        show Steps p.tables e below (s₁.setTop (mkF m 36 #[.val (.ref o0), .val (.ref o1), .val (.ref o2), .val (.int p3), .val (.int p4), .val (.int p5), .val (.ref o6), .val (.int (fq i))] [(.int (fo i))])) _
        refine XS.iload X0.here hx rfl (hb hby d3_36) rfl ?_
        exact kt
      by_cases hc13 : (fo i) = (fq i)
      · skip
        have K14 : ∀ t, Steps p.tables e below (s₁.setTop (mkF m 50 #[.val (.ref o0), .val (.ref o1), .val (.ref o2), .val (.int p3), .val (.int p4), .val (.int p5), .val (.ref o6), .val (.int (fq i))] [(.int (fq i)), (.int (fu i))])) t → Steps p.tables e below (s₁.setTop (mkF m 0 #[.val (.ref o0), .val (.ref o1), .val (.ref o2), .val (.int p3), .val (.int p4), .val (.int p5), .val (.ref o6), .unset] [])) t := by
          intro t kt
          refine K12 _ ?_
          show Steps p.tables e below (s₁.setTop (mkF m 38 #[.val (.ref o0), .val (.ref o1), .val (.ref o2), .val (.int p3), .val (.int p4), .val (.int p5), .val (.ref o6), .val (.int (fq i))] [(.int (fq i)), (.int (fo i))])) _
          refine XS.icmpNo X0.here hx rfl (hb hby d3_38) rfl (teq hc13).2 ?_
          show Steps p.tables e below (s₁.setTop (mkF m 41 #[.val (.ref o0), .val (.ref o1), .val (.ref o2), .val (.int p3), .val (.int p4), .val (.int p5), .val (.ref o6), .val (.int (fq i))] [])) _
          refine XS.aloadN X0.here hx rfl (hb hby d3_41) rfl rfl ?_
          show Steps p.tables e below (s₁.setTop (mkF m 42 #[.val (.ref o0), .val (.ref o1), .val (.ref o2), .val (.int p3), .val (.int p4), .val (.int p5), .val (.ref o6), .val (.int (fq i))] [(.ref o1)])) _
          refine XS.iload X0.here hx rfl (hb hby d3_42) rfl ?_
          show Steps p.tables e below (s₁.setTop (mkF m 44 #[.val (.ref o0), .val (.ref o1), .val (.ref o2), .val (.int p3), .val (.int p4), .val (.int p5), .val (.ref o6), .val (.int (fq i))] [(.int p5), (.ref o1)])) _
          refine iaLB X0 hx hZ e0 AU (j := p5) i hi (by have := hc2; rw [Int32.lt_iff_toInt_lt, hi, own_ti (Nat.le_refl n) (by omega)] at this; omega) (g := (mkF m 44 #[.val (.ref o0), .val (.ref o1), .val (.ref o2), .val (.int p3), .val (.int p4), .val (.int p5), .val (.ref o6), .val (.int (fq i))] [(.int p5), (.ref o1)])) rfl rfl (hb hby d3_44) _ ?_
          show Steps p.tables e below (s₁.setTop (mkF m 45 #[.val (.ref o0), .val (.ref o1), .val (.ref o2), .val (.int p3), .val (.int p4), .val (.int p5), .val (.ref o6), .val (.int (fq i))] [(.int (fu i))])) _
          refine XS.aload X0.here hx rfl (hb hby d3_45) rfl rfl ?_
          show Steps p.tables e below (s₁.setTop (mkF m 47 #[.val (.ref o0), .val (.ref o1), .val (.ref o2), .val (.int p3), .val (.int p4), .val (.int p5), .val (.ref o6), .val (.int (fq i))] [(.ref o6), (.int (fu i))])) _
          refine XS.iload X0.here hx rfl (hb hby d3_47) rfl ?_
          show Steps p.tables e below (s₁.setTop (mkF m 49 #[.val (.ref o0), .val (.ref o1), .val (.ref o2), .val (.int p3), .val (.int p4), .val (.int p5), .val (.ref o6), .val (.int (fq i))] [(.int p5), (.ref o6), (.int (fu i))])) _
          refine iaLB X0 hx hZ e0 AQ (j := p5) i hi hi4 (g := (mkF m 49 #[.val (.ref o0), .val (.ref o1), .val (.ref o2), .val (.int p3), .val (.int p4), .val (.int p5), .val (.ref o6), .val (.int (fq i))] [(.int p5), (.ref o6), (.int (fu i))])) rfl rfl (hb hby d3_49) _ ?_
          exact kt
        by_cases hc15 : (fu i) = (fq i)
        · skip
          have K16 : ∀ t, Steps p.tables e below (s₁.setTop (mkF m 58 #[.val (.ref o0), .val (.ref o1), .val (.ref o2), .val (.int p3), .val (.int p4), .val (.int p5), .val (.ref o6), .val (.int (fq i))] [(.int (1 : Int32))])) t → Steps p.tables e below (s₁.setTop (mkF m 0 #[.val (.ref o0), .val (.ref o1), .val (.ref o2), .val (.int p3), .val (.int p4), .val (.int p5), .val (.ref o6), .unset] [])) t := by
            intro t kt
            refine K14 _ ?_
            show Steps p.tables e below (s₁.setTop (mkF m 50 #[.val (.ref o0), .val (.ref o1), .val (.ref o2), .val (.int p3), .val (.int p4), .val (.int p5), .val (.ref o6), .val (.int (fq i))] [(.int (fq i)), (.int (fu i))])) _
            refine XS.icmpNo X0.here hx rfl (hb hby d3_50) rfl (teq hc15).2 ?_
            show Steps p.tables e below (s₁.setTop (mkF m 53 #[.val (.ref o0), .val (.ref o1), .val (.ref o2), .val (.int p3), .val (.int p4), .val (.int p5), .val (.ref o6), .val (.int (fq i))] [])) _
            refine XS.iconst X0.here hx rfl (hb hby d3_53) ?_
            show Steps p.tables e below (s₁.setTop (mkF m 54 #[.val (.ref o0), .val (.ref o1), .val (.ref o2), .val (.int p3), .val (.int p4), .val (.int p5), .val (.ref o6), .val (.int (fq i))] [(.int (1 : Int32))])) _
            refine XS.goto X0.here hx rfl (pc0 := 54) (pc' := 58) rfl (hb hby d3_54) (by decide) (by decide) ?_
            exact kt
          have hv : f3 p3 p4 p5 fo fu fh fq n a i = (1 : Int32) := by simp only [f3, if_pos hc2, if_neg hc4, if_pos hc13, if_pos hc15]
          obtain ⟨fsQ, hr, hrun, hended, hW, hsame⟩ := X0.leave (v := some (.int (1 : Int32))) (fun h => by rw [Bd.returns] at h; cases h)
          refine ⟨_, _, pre0 _ (K16 _ ?_), hrun, hended, _, _, rfl, ?_, ⟨_, rfl⟩, hW, hsame.mono (by decide) (by decide)⟩
          · show Steps p.tables e below (s₁.setTop (mkF m 58 #[.val (.ref o0), .val (.ref o1), .val (.ref o2), .val (.int p3), .val (.int p4), .val (.int p5), .val (.ref o6), .val (.int (fq i))] [(.int (1 : Int32))])) _
            exact retN X0 hx (t := .boolean) Bd.returns (by simp) (hb hby d3_58) hr
          · show Q3 Z o0 o1 o2 p3 p4 p5 o6 fo fu fh fq n a i h0 _ s₁.heap _
            rw [e0]
            exact ⟨by rw [hv], rfl, rfl⟩
        · skip
          have K17 : ∀ t, Steps p.tables e below (s₁.setTop (mkF m 58 #[.val (.ref o0), .val (.ref o1), .val (.ref o2), .val (.int p3), .val (.int p4), .val (.int p5), .val (.ref o6), .val (.int (fq i))] [(.int (0 : Int32))])) t → Steps p.tables e below (s₁.setTop (mkF m 0 #[.val (.ref o0), .val (.ref o1), .val (.ref o2), .val (.int p3), .val (.int p4), .val (.int p5), .val (.ref o6), .unset] [])) t := by
            intro t kt
            refine K14 _ ?_
            show Steps p.tables e below (s₁.setTop (mkF m 50 #[.val (.ref o0), .val (.ref o1), .val (.ref o2), .val (.int p3), .val (.int p4), .val (.int p5), .val (.ref o6), .val (.int (fq i))] [(.int (fq i)), (.int (fu i))])) _
            refine XS.icmpYes X0.here hx rfl (pc0 := 50) (pc' := 57) rfl (hb hby d3_50) rfl (feq hc15).2 (by decide) (by decide) ?_
            show Steps p.tables e below (s₁.setTop (mkF m 57 #[.val (.ref o0), .val (.ref o1), .val (.ref o2), .val (.int p3), .val (.int p4), .val (.int p5), .val (.ref o6), .val (.int (fq i))] [])) _
            refine XS.iconst X0.here hx rfl (hb hby d3_57) ?_
            exact kt
          have hv : f3 p3 p4 p5 fo fu fh fq n a i = (0 : Int32) := by simp only [f3, if_pos hc2, if_neg hc4, if_pos hc13, if_neg hc15]
          obtain ⟨fsQ, hr, hrun, hended, hW, hsame⟩ := X0.leave (v := some (.int (0 : Int32))) (fun h => by rw [Bd.returns] at h; cases h)
          refine ⟨_, _, pre0 _ (K17 _ ?_), hrun, hended, _, _, rfl, ?_, ⟨_, rfl⟩, hW, hsame.mono (by decide) (by decide)⟩
          · show Steps p.tables e below (s₁.setTop (mkF m 58 #[.val (.ref o0), .val (.ref o1), .val (.ref o2), .val (.int p3), .val (.int p4), .val (.int p5), .val (.ref o6), .val (.int (fq i))] [(.int (0 : Int32))])) _
            exact retN X0 hx (t := .boolean) Bd.returns (by simp) (hb hby d3_58) hr
          · show Q3 Z o0 o1 o2 p3 p4 p5 o6 fo fu fh fq n a i h0 _ s₁.heap _
            rw [e0]
            exact ⟨by rw [hv], rfl, rfl⟩
      · skip
        have K18 : ∀ t, Steps p.tables e below (s₁.setTop (mkF m 58 #[.val (.ref o0), .val (.ref o1), .val (.ref o2), .val (.int p3), .val (.int p4), .val (.int p5), .val (.ref o6), .val (.int (fq i))] [(.int (0 : Int32))])) t → Steps p.tables e below (s₁.setTop (mkF m 0 #[.val (.ref o0), .val (.ref o1), .val (.ref o2), .val (.int p3), .val (.int p4), .val (.int p5), .val (.ref o6), .unset] [])) t := by
          intro t kt
          refine K12 _ ?_
          show Steps p.tables e below (s₁.setTop (mkF m 38 #[.val (.ref o0), .val (.ref o1), .val (.ref o2), .val (.int p3), .val (.int p4), .val (.int p5), .val (.ref o6), .val (.int (fq i))] [(.int (fq i)), (.int (fo i))])) _
          refine XS.icmpYes X0.here hx rfl (pc0 := 38) (pc' := 57) rfl (hb hby d3_38) rfl (feq hc13).2 (by decide) (by decide) ?_
          show Steps p.tables e below (s₁.setTop (mkF m 57 #[.val (.ref o0), .val (.ref o1), .val (.ref o2), .val (.int p3), .val (.int p4), .val (.int p5), .val (.ref o6), .val (.int (fq i))] [])) _
          refine XS.iconst X0.here hx rfl (hb hby d3_57) ?_
          exact kt
        have hv : f3 p3 p4 p5 fo fu fh fq n a i = (0 : Int32) := by simp only [f3, if_pos hc2, if_neg hc4, if_neg hc13]
        obtain ⟨fsQ, hr, hrun, hended, hW, hsame⟩ := X0.leave (v := some (.int (0 : Int32))) (fun h => by rw [Bd.returns] at h; cases h)
        refine ⟨_, _, pre0 _ (K18 _ ?_), hrun, hended, _, _, rfl, ?_, ⟨_, rfl⟩, hW, hsame.mono (by decide) (by decide)⟩
        · show Steps p.tables e below (s₁.setTop (mkF m 58 #[.val (.ref o0), .val (.ref o1), .val (.ref o2), .val (.int p3), .val (.int p4), .val (.int p5), .val (.ref o6), .val (.int (fq i))] [(.int (0 : Int32))])) _
          exact retN X0 hx (t := .boolean) Bd.returns (by simp) (hb hby d3_58) hr
        · show Q3 Z o0 o1 o2 p3 p4 p5 o6 fo fu fh fq n a i h0 _ s₁.heap _
          rw [e0]
          exact ⟨by rw [hv], rfl, rfl⟩
  · skip
    have K19 : ∀ t, Steps p.tables e below (s₁.setTop (mkF m 8 #[.val (.ref o0), .val (.ref o1), .val (.ref o2), .val (.int p3), .val (.int p4), .val (.int p5), .val (.ref o6), .unset] [(.int (1 : Int32))])) t → Steps p.tables e below (s₁.setTop (mkF m 0 #[.val (.ref o0), .val (.ref o1), .val (.ref o2), .val (.int p3), .val (.int p4), .val (.int p5), .val (.ref o6), .unset] [])) t := by
      intro t kt
      refine K1 _ ?_
      show Steps p.tables e below (s₁.setTop (mkF m 4 #[.val (.ref o0), .val (.ref o1), .val (.ref o2), .val (.int p3), .val (.int p4), .val (.int p5), .val (.ref o6), .unset] [(.int (Int32.ofNat n)), (.int p5)])) _
      refine XS.icmpNo X0.here hx rfl (hb hby d3_4) rfl (flt hc2).1 ?_
      show Steps p.tables e below (s₁.setTop (mkF m 7 #[.val (.ref o0), .val (.ref o1), .val (.ref o2), .val (.int p3), .val (.int p4), .val (.int p5), .val (.ref o6), .unset] [])) _
      refine XS.iconst X0.here hx rfl (hb hby d3_7) ?_
      exact kt
    have hv : f3 p3 p4 p5 fo fu fh fq n a i = (1 : Int32) := by simp only [f3, if_neg hc2]
    obtain ⟨fsQ, hr, hrun, hended, hW, hsame⟩ := X0.leave (v := some (.int (1 : Int32))) (fun h => by rw [Bd.returns] at h; cases h)
    refine ⟨_, _, pre0 _ (K19 _ ?_), hrun, hended, _, _, rfl, ?_, ⟨_, rfl⟩, hW, hsame.mono (by decide) (by decide)⟩
    · show Steps p.tables e below (s₁.setTop (mkF m 8 #[.val (.ref o0), .val (.ref o1), .val (.ref o2), .val (.int p3), .val (.int p4), .val (.int p5), .val (.ref o6), .unset] [(.int (1 : Int32))])) _
      exact retN X0 hx (t := .boolean) Bd.returns (by simp) (hb hby d3_8) hr
    · show Q3 Z o0 o1 o2 p3 p4 p5 o6 fo fu fh fq n a i h0 _ s₁.heap _
      rw [e0]
      exact ⟨by rw [hv], rfl, rfl⟩
theorem ef_0 (m : MethodId) (x0 : Int32) (x1 : Int32) (x2 : Int32) (x3 : Int32) : entryFrame m #[(.int x0), (.int x1), (.int x2), (.int x3)] maxLocals = mkF m 0 #[.val (.int x0), .val (.int x1), .val (.int x2), .val (.int x3), .unset, .unset, .unset, .unset, .unset, .unset, .unset, .unset] [] := by first | (simp [entryFrame, mkF, argsToLocals, Value.category, maxLocals]; done) | rfl
theorem pd_0 : parseMethodDescriptor "(II)B" = some ⟨[.int, .int], some .byte⟩ := by decide +kernel
def gend (p0 : Int32) (p3 : Int32) : Int32 := (f1 p0 (((p3.toUInt32 >>> ((3 : Int32) &&& 31).toUInt32).toInt32) &&& (3 : Int32)))
def gat (p3 : Int32) : Int32 := (p3 &&& (7 : Int32))
def gul (p3 : Int32) : Int32 := ((((p3.toUInt32 >>> ((5 : Int32) &&& 31).toUInt32).toInt32) &&& (7 : Int32)) % (5 : Int32))
theorem pd_1 : parseMethodDescriptor "([BIB[B)[B" = some ⟨[(.array .byte), .int, .byte, (.array .byte)], some (.array .byte)⟩ := by decide +kernel
theorem pd_2 : parseMethodDescriptor "([B[B[BIII[B)Z" = some ⟨[(.array .byte), (.array .byte), (.array .byte), .int, .int, .int, (.array .byte)], some .boolean⟩ := by decide +kernel
theorem pd_3 : parseMethodDescriptor "([BIIB)Z" = some ⟨[(.array .byte), .int, .int, .byte], some .boolean⟩ := by decide +kernel
theorem own_ok {fh : Nat → Int32} {a i : Nat} {p x ed : Int32} (h : p.toInt = (a : Int)) (hx : x.toInt = (i : Int)) (ha : a ≤ 7) (hi : i ≤ 4) : f4 p x ed fh a i = (0 : Int32) ↔ ¬ okP fh a ed i := by
  have h6 := own_six h hx ha hi
  have hz : x = (0 : Int32) ↔ i = 0 := by
    constructor
    · intro z; rw [z, show (0 : Int32).toInt = 0 from rfl] at hx; omega
    · intro z; subst z; exact Int32.toInt_inj.mp hx
  unfold f4 okP
  by_cases q1 : a + i < 6
  · rw [if_pos (h6.mpr q1)]
    by_cases q2 : fh (a + i) = ed
    · rw [if_pos q2]
      exact ⟨fun _ z => z.2.1 q2, fun _ => rfl⟩
    · rw [if_neg q2]
      by_cases q3 : i = 0
      · rw [if_pos (hz.mpr q3)]
        exact ⟨fun z => absurd z (by decide), fun z => absurd ⟨q1, q2, Or.inl q3⟩ z⟩
      · rw [if_neg (mt hz.mp q3)]
        by_cases q4 : fh (a + i) = fh a
        · rw [if_pos q4]
          exact ⟨fun _ z => by rcases z.2.2 with y | y <;> first | exact q3 y | exact y q4, fun _ => rfl⟩
        · rw [if_neg q4]
          exact ⟨fun z => absurd z (by decide), fun z => absurd ⟨q1, q2, Or.inr q4⟩ z⟩
  · rw [if_neg (mt h6.mp q1)]
    exact ⟨fun _ z => q1 z.1, fun _ => rfl⟩
theorem own_dd {fh : Nat → Int32} {a n kk K : Nat} {ed : Int32} (D : DD fh a ed n kk) (hK : K ≤ n) (h1 : ∀ j, j < K → okP fh a ed j) (h2 : K = n ∨ ¬ okP fh a ed K) : kk = K := by
  obtain ⟨d1, d2, d3⟩ := D
  rcases Nat.lt_trichotomy kk K with q | q | q
  · rcases d3 with z | z
    · omega
    · exact absurd (h1 kk q) z
  · exact q
  · rcases h2 with z | z
    · omega
    · exact absurd (d2 K q) z
theorem own_at (s : Int32) : ∃ a : Nat, (gat s).toInt = (a : Int) ∧ a ≤ 7 := by
  have h1 : (s &&& (7 : Int32)).toInt = s.toInt % (2 ^ 3 : Nat) := c_mask s _ 3 (by decide) (by decide)
  refine ⟨(gat s).toInt.toNat, ?_, ?_⟩ <;> (unfold gat; omega)
theorem own_ul4 {s : Int32} (h0 : ¬ gul s = 0) (h1 : ¬ gul s = 1) (h2 : ¬ gul s = 2) (h3 : ¬ gul s = 3) : gul s = 4 := by
  have k1 := c_mask ((s.toUInt32 >>> ((5 : Int32) &&& 31).toUInt32).toInt32) 7 3 (by decide) (by decide)
  have k2 : (gul s).toInt = _ := (c_irem (((s.toUInt32 >>> ((5 : Int32) &&& 31).toUInt32).toInt32) &&& (7 : Int32)) 5 5 rfl).1 (by omega)
  have n0 : (gul s).toInt ≠ 0 := fun z => h0 (Int32.toInt_inj.mp z)
  have n1 : (gul s).toInt ≠ 1 := fun z => h1 (Int32.toInt_inj.mp z)
  have n2 : (gul s).toInt ≠ 2 := fun z => h2 (Int32.toInt_inj.mp z)
  have n3 : (gul s).toInt ≠ 3 := fun z => h3 (Int32.toInt_inj.mp z)
  apply Int32.toInt_inj.mp
  show (gul s).toInt = 4
  omega
theorem own_cell {fo fu fh f4' : Nat → Int32} {n a i K : Nat} {p k x : Int32} (hk : k.toInt = (K : Int)) (hx : x.toInt = (i : Int)) (hn : n ≤ 4) (hi : i ≤ 4) (hfo : ∀ j, j < n → fo j = if j < K then fh (a + j) else fu j) (hfu : ∀ j, j < n → fu j = f4' j) : ¬ f3 p k x fo fu fh f4' n a i = (0 : Int32) := by
  have e1 : x < (Int32.ofNat n) ↔ i < n := by rw [Int32.lt_iff_toInt_lt, hx, own_ti (Nat.le_refl n) (by omega)]; omega
  have e2 : x < k ↔ i < K := by rw [Int32.lt_iff_toInt_lt, hx, hk]; omega
  unfold f3
  by_cases q1 : i < n
  · rw [if_pos (e1.mpr q1)]
    by_cases q2 : i < K
    · rw [if_pos (e2.mpr q2), if_pos (by rw [hfo i q1, if_pos q2]), if_pos (hfu i q1)]; decide
    · rw [if_neg (mt e2.mp q2), if_pos (by rw [hfo i q1, if_neg q2, hfu i q1]), if_pos (hfu i q1)]; decide
  · rw [if_neg (mt e1.mp q1)]; decide
def Q0 (Z : State) (p0 : Int32) (p1 : Int32) (p2 : Int32) (p3 : Int32)  (h0 : Heap) (n0 : Nat) (v : Option Value) (h : Heap) (L : List Loc) : Prop := v = some (.int 1) ∧ Fr n0 L
set_option maxRecDepth 65536 in
set_option maxHeartbeats 40000000 in
theorem rm0 (l : Launch) (Z : State) (a0 : Array Value) (hw : ∀ d ∈ tables_1, d.before a0 Z = true) (ws : List Jvm.Cond) (p0 : Int32) (p1 : Int32) (p2 : Int32) (p3 : Int32)  (h0 : Heap) (n0 : Nat) (Z0 : n0 ≤ h0.size)  :
    MetFree l x (head1 (Jvm.Cond.code x code maxLocals ret :: ws) room_1) (fun a U => a = #[(.int p0), (.int p1), (.int p2), (.int p3)] ∧ Z.Warmed39 U.vm ∧ U.heap = h0) (fun _ _ _ _ _ => True) (fun _ U o U' => ∃ v L, o = .returned v ∧ Q0 Z p0 p1 p2 p3  h0 n0 v U'.heap L ∧ FrameEnd U o U' L room_1.cells room_1.slots) := by
  refine MetFree.of_bodySF (plainFor_of_name pn_0) hisR ?_
  intro p e s m args below meth c s₁ Bd hml0 hP hK
  obtain ⟨rfl, hZ, hh⟩ := hP
  have hx := Bd.exec
  have hby := Bd.bytes
  have hml : c.maxLocals = 12 := hml0
  have hown : s.vm.findClass "com/example/benchwire/benchwire/protocols/DelimitedTextDeclaredDelimitersPinLaw" = some m.cls := findClass_of_methodNamed Bd.named
  have hnm := (name_of_methodNamed Bd.named Bd.method).1
  have X0 : Stand p l e room_1 s m #[(.int p0), (.int p1), (.int p2), (.int p3)] below meth c s₁ [] 0 0 := Stand.of_body Bd
  have e0 : s₁.heap = h0 := by rw [← hh, Bd.state]; rfl
  have pre0 : ∀ t, Steps p.tables e below (s₁.setTop (mkF m 0 #[.val (.int p0), .val (.int p1), .val (.int p2), .val (.int p3), .unset, .unset, .unset, .unset, .unset, .unset, .unset, .unset] [])) t → Steps p.tables e below (s₁.setTop (entryFrame m #[(.int p0), (.int p1), (.int p2), (.int p3)] maxLocals)) t := fun t k => castTop (ef_0 m p0 p1 p2 p3) k
  have N0 := Fr.nil n0
  obtain ⟨T1, h1, X1, e1, E1, A1, B1, st1⟩ := iaNewE X0 hx hZ (hw _ (List.mem_of_getElem? (i := 0) rfl)) e0 (g := (mkF m 2 #[.val (.int p0), .val (.int p1), .val (.int p2), .val (.int p3), .unset, .unset, .unset, .unset, .unset, .unset, .unset, .unset] [(.int (6 : Int32))])) rfl (hb hby at_2) rfl 6 (by decide) 6 (Nat.le_refl _) (by decide) (by decide) (by decide) rfl (by decide) (ad := "[B") (by decide)
  obtain ⟨b1, g1⟩ : ∃ z, z = h0.size := ⟨_, rfl⟩
  rw [← g1] at A1 B1 st1
  have gn1 : n0 ≤ b1 := Nat.le_trans Z0 (Nat.le_of_eq g1.symm)
  have Z1 : n0 ≤ h1.size := Nat.le_trans Z0 E1.1
  have G2 : Ia Z h1 b1 .byte 6 (fun _ => (0 : Int32)) := A1
  obtain ⟨_, _, ⟨T3, L3, k3, n3⟩, -, X3, ⟨Lc3, hQ3, l3, y3, z3⟩, st3⟩ := Jvm.LawKit.callS X1 hx (y := (⟨"com/example/benchwire/benchwire/protocols/DelimitedTextDeclaredDelimitersPinLaw", "pick", "(II)B"⟩ : MethodName)) hown (mvT hZ (hw _ (List.mem_of_getElem? (i := 1) rfl))) (mvT hZ (hw _ (List.mem_of_getElem? (i := 2) rfl))) (mvT hZ (hw _ (List.mem_of_getElem? (i := 3) rfl))) (mvT hZ (hw _ (List.mem_of_getElem? (i := 4) rfl))) (by decide) (backOf (W := 2) (rm1 l Z a0 hw [] p0 (p1 &&& (3 : Int32))  h1 ) hZ (hw _ (List.mem_of_getElem? (i := 4) rfl)) (hw _ (List.mem_of_getElem? (i := 3) rfl)) (by decide) (by decide)) (g := (mkF m 13 #[.val (.int p0), .val (.int p1), .val (.int p2), .val (.int p3), .val (.ref b1), .unset, .unset, .unset, .unset, .unset, .unset, .unset] [(.int (p1 &&& (3 : Int32))), (.int p0), (.int (0 : Int32)), (.ref b1)])) rfl (by rw [hml]; rfl) (argsL := [(.int p0), (.int (p1 &&& (3 : Int32)))]) (rest := [(.int (0 : Int32)), (.ref b1)]) (lenOf pd_0 rfl) rfl (by show 2 * 0 + _ ≤ _; exact Nat.le_of_eq rfl) (hb hby at_13) (fun _ _ => ⟨rfl, e1, (by decide : 1 + 0 ≤ _), (by decide : 6 + 0 ≤ _)⟩)
  dsimp only [Pt.U, Pt.locs, Pt.cells, Pt.slots] at X3 l3 y3 z3 st3 hQ3
  subst l3 y3 z3
  obtain ⟨rfl, rfl, e3⟩ := hQ3
  try rw [List.append_nil] at X3
  obtain ⟨T4, h4, X4, e4, W4, A4, st4⟩ := iaB X3 hx hZ e3 G2 (j := (0 : Int32)) 0 (by decide) (by decide) (g := (mkF m 16 #[.val (.int p0), .val (.int p1), .val (.int p2), .val (.int p3), .val (.ref b1), .unset, .unset, .unset, .unset, .unset, .unset, .unset] [(.int (f1 p0 (p1 &&& (3 : Int32)))), (.int (0 : Int32)), (.ref b1)])) rfl rfl (hb hby at_16)
  have G5 : Exa Z h4 b1 "[B" := B1.wr W4
  have G6 : Ia Z h4 b1 .byte 6 (up (fun _ => (0 : Int32)) 0 (nar .byte (f1 p0 (p1 &&& (3 : Int32))))) := A4
  have Z4 : n0 ≤ h4.size := Nat.le_trans Z1 (Keep.of_wr W4).1
  have N4 := Fr.snoc X4 N0 gn1
  obtain ⟨_, _, ⟨T7, L7, k7, n7⟩, -, X7, ⟨Lc7, hQ7, l7, y7, z7⟩, st7⟩ := Jvm.LawKit.callS X4 hx (y := (⟨"com/example/benchwire/benchwire/protocols/DelimitedTextDeclaredDelimitersPinLaw", "pick", "(II)B"⟩ : MethodName)) hown (mvT hZ (hw _ (List.mem_of_getElem? (i := 1) rfl))) (mvT hZ (hw _ (List.mem_of_getElem? (i := 2) rfl))) (mvT hZ (hw _ (List.mem_of_getElem? (i := 3) rfl))) (mvT hZ (hw _ (List.mem_of_getElem? (i := 4) rfl))) (by decide) (backOf (W := 2) (rm1 l Z a0 hw [] p0 (((p1.toUInt32 >>> ((2 : Int32) &&& 31).toUInt32).toInt32) &&& (3 : Int32))  h4 ) hZ (hw _ (List.mem_of_getElem? (i := 4) rfl)) (hw _ (List.mem_of_getElem? (i := 3) rfl)) (by decide) (by decide)) (g := (mkF m 26 #[.val (.int p0), .val (.int p1), .val (.int p2), .val (.int p3), .val (.ref b1), .unset, .unset, .unset, .unset, .unset, .unset, .unset] [(.int (((p1.toUInt32 >>> ((2 : Int32) &&& 31).toUInt32).toInt32) &&& (3 : Int32))), (.int p0), (.int (1 : Int32)), (.ref b1)])) rfl (by rw [hml]; rfl) (argsL := [(.int p0), (.int (((p1.toUInt32 >>> ((2 : Int32) &&& 31).toUInt32).toInt32) &&& (3 : Int32)))]) (rest := [(.int (1 : Int32)), (.ref b1)]) (lenOf pd_0 rfl) rfl (by show 2 * 0 + _ ≤ _; exact Nat.le_of_eq rfl) (hb hby at_26) (fun _ _ => ⟨rfl, e4, (by decide : 1 + 0 ≤ _), (by decide : 6 + 0 ≤ _)⟩)
  dsimp only [Pt.U, Pt.locs, Pt.cells, Pt.slots] at X7 l7 y7 z7 st7 hQ7
  subst l7 y7 z7
  obtain ⟨rfl, rfl, e7⟩ := hQ7
  try rw [List.append_nil] at X7
  obtain ⟨T8, h8, X8, e8, W8, A8, st8⟩ := iaB X7 hx hZ e7 G6 (j := (1 : Int32)) 1 (by decide) (by decide) (g := (mkF m 29 #[.val (.int p0), .val (.int p1), .val (.int p2), .val (.int p3), .val (.ref b1), .unset, .unset, .unset, .unset, .unset, .unset, .unset] [(.int (f1 p0 (((p1.toUInt32 >>> ((2 : Int32) &&& 31).toUInt32).toInt32) &&& (3 : Int32)))), (.int (1 : Int32)), (.ref b1)])) rfl rfl (hb hby at_29)
  have G9 : Exa Z h8 b1 "[B" := G5.wr W8
  have G10 : Ia Z h8 b1 .byte 6 (up (up (fun _ => (0 : Int32)) 0 (nar .byte (f1 p0 (p1 &&& (3 : Int32))))) 1 (nar .byte (f1 p0 (((p1.toUInt32 >>> ((2 : Int32) &&& 31).toUInt32).toInt32) &&& (3 : Int32))))) := A8
  have Z8 : n0 ≤ h8.size := Nat.le_trans Z4 (Keep.of_wr W8).1
  have N8 := Fr.snoc X8 N4 gn1
  obtain ⟨_, _, ⟨T11, L11, k11, n11⟩, -, X11, ⟨Lc11, hQ11, l11, y11, z11⟩, st11⟩ := Jvm.LawKit.callS X8 hx (y := (⟨"com/example/benchwire/benchwire/protocols/DelimitedTextDeclaredDelimitersPinLaw", "pick", "(II)B"⟩ : MethodName)) hown (mvT hZ (hw _ (List.mem_of_getElem? (i := 1) rfl))) (mvT hZ (hw _ (List.mem_of_getElem? (i := 2) rfl))) (mvT hZ (hw _ (List.mem_of_getElem? (i := 3) rfl))) (mvT hZ (hw _ (List.mem_of_getElem? (i := 4) rfl))) (by decide) (backOf (W := 2) (rm1 l Z a0 hw [] p0 (((p1.toUInt32 >>> ((4 : Int32) &&& 31).toUInt32).toInt32) &&& (3 : Int32))  h8 ) hZ (hw _ (List.mem_of_getElem? (i := 4) rfl)) (hw _ (List.mem_of_getElem? (i := 3) rfl)) (by decide) (by decide)) (g := (mkF m 39 #[.val (.int p0), .val (.int p1), .val (.int p2), .val (.int p3), .val (.ref b1), .unset, .unset, .unset, .unset, .unset, .unset, .unset] [(.int (((p1.toUInt32 >>> ((4 : Int32) &&& 31).toUInt32).toInt32) &&& (3 : Int32))), (.int p0), (.int (2 : Int32)), (.ref b1)])) rfl (by rw [hml]; rfl) (argsL := [(.int p0), (.int (((p1.toUInt32 >>> ((4 : Int32) &&& 31).toUInt32).toInt32) &&& (3 : Int32)))]) (rest := [(.int (2 : Int32)), (.ref b1)]) (lenOf pd_0 rfl) rfl (by show 2 * 0 + _ ≤ _; exact Nat.le_of_eq rfl) (hb hby at_39) (fun _ _ => ⟨rfl, e8, (by decide : 1 + 0 ≤ _), (by decide : 6 + 0 ≤ _)⟩)
  dsimp only [Pt.U, Pt.locs, Pt.cells, Pt.slots] at X11 l11 y11 z11 st11 hQ11
  subst l11 y11 z11
  obtain ⟨rfl, rfl, e11⟩ := hQ11
  try rw [List.append_nil] at X11
  obtain ⟨T12, h12, X12, e12, W12, A12, st12⟩ := iaB X11 hx hZ e11 G10 (j := (2 : Int32)) 2 (by decide) (by decide) (g := (mkF m 42 #[.val (.int p0), .val (.int p1), .val (.int p2), .val (.int p3), .val (.ref b1), .unset, .unset, .unset, .unset, .unset, .unset, .unset] [(.int (f1 p0 (((p1.toUInt32 >>> ((4 : Int32) &&& 31).toUInt32).toInt32) &&& (3 : Int32)))), (.int (2 : Int32)), (.ref b1)])) rfl rfl (hb hby at_42)
  have G13 : Exa Z h12 b1 "[B" := G9.wr W12
  have G14 : Ia Z h12 b1 .byte 6 (up (up (up (fun _ => (0 : Int32)) 0 (nar .byte (f1 p0 (p1 &&& (3 : Int32))))) 1 (nar .byte (f1 p0 (((p1.toUInt32 >>> ((2 : Int32) &&& 31).toUInt32).toInt32) &&& (3 : Int32))))) 2 (nar .byte (f1 p0 (((p1.toUInt32 >>> ((4 : Int32) &&& 31).toUInt32).toInt32) &&& (3 : Int32))))) := A12
  have Z12 : n0 ≤ h12.size := Nat.le_trans Z8 (Keep.of_wr W12).1
  have N12 := Fr.snoc X12 N8 gn1
  obtain ⟨_, _, ⟨T15, L15, k15, n15⟩, -, X15, ⟨Lc15, hQ15, l15, y15, z15⟩, st15⟩ := Jvm.LawKit.callS X12 hx (y := (⟨"com/example/benchwire/benchwire/protocols/DelimitedTextDeclaredDelimitersPinLaw", "pick", "(II)B"⟩ : MethodName)) hown (mvT hZ (hw _ (List.mem_of_getElem? (i := 1) rfl))) (mvT hZ (hw _ (List.mem_of_getElem? (i := 2) rfl))) (mvT hZ (hw _ (List.mem_of_getElem? (i := 3) rfl))) (mvT hZ (hw _ (List.mem_of_getElem? (i := 4) rfl))) (by decide) (backOf (W := 2) (rm1 l Z a0 hw [] p0 (((p1.toUInt32 >>> ((6 : Int32) &&& 31).toUInt32).toInt32) &&& (3 : Int32))  h12 ) hZ (hw _ (List.mem_of_getElem? (i := 4) rfl)) (hw _ (List.mem_of_getElem? (i := 3) rfl)) (by decide) (by decide)) (g := (mkF m 53 #[.val (.int p0), .val (.int p1), .val (.int p2), .val (.int p3), .val (.ref b1), .unset, .unset, .unset, .unset, .unset, .unset, .unset] [(.int (((p1.toUInt32 >>> ((6 : Int32) &&& 31).toUInt32).toInt32) &&& (3 : Int32))), (.int p0), (.int (3 : Int32)), (.ref b1)])) rfl (by rw [hml]; rfl) (argsL := [(.int p0), (.int (((p1.toUInt32 >>> ((6 : Int32) &&& 31).toUInt32).toInt32) &&& (3 : Int32)))]) (rest := [(.int (3 : Int32)), (.ref b1)]) (lenOf pd_0 rfl) rfl (by show 2 * 0 + _ ≤ _; exact Nat.le_of_eq rfl) (hb hby at_53) (fun _ _ => ⟨rfl, e12, (by decide : 1 + 0 ≤ _), (by decide : 6 + 0 ≤ _)⟩)
  dsimp only [Pt.U, Pt.locs, Pt.cells, Pt.slots] at X15 l15 y15 z15 st15 hQ15
  subst l15 y15 z15
  obtain ⟨rfl, rfl, e15⟩ := hQ15
  try rw [List.append_nil] at X15
  obtain ⟨T16, h16, X16, e16, W16, A16, st16⟩ := iaB X15 hx hZ e15 G14 (j := (3 : Int32)) 3 (by decide) (by decide) (g := (mkF m 56 #[.val (.int p0), .val (.int p1), .val (.int p2), .val (.int p3), .val (.ref b1), .unset, .unset, .unset, .unset, .unset, .unset, .unset] [(.int (f1 p0 (((p1.toUInt32 >>> ((6 : Int32) &&& 31).toUInt32).toInt32) &&& (3 : Int32)))), (.int (3 : Int32)), (.ref b1)])) rfl rfl (hb hby at_56)
  have G17 : Exa Z h16 b1 "[B" := G13.wr W16
  have G18 : Ia Z h16 b1 .byte 6 (up (up (up (up (fun _ => (0 : Int32)) 0 (nar .byte (f1 p0 (p1 &&& (3 : Int32))))) 1 (nar .byte (f1 p0 (((p1.toUInt32 >>> ((2 : Int32) &&& 31).toUInt32).toInt32) &&& (3 : Int32))))) 2 (nar .byte (f1 p0 (((p1.toUInt32 >>> ((4 : Int32) &&& 31).toUInt32).toInt32) &&& (3 : Int32))))) 3 (nar .byte (f1 p0 (((p1.toUInt32 >>> ((6 : Int32) &&& 31).toUInt32).toInt32) &&& (3 : Int32))))) := A16
  have Z16 : n0 ≤ h16.size := Nat.le_trans Z12 (Keep.of_wr W16).1
  have N16 := Fr.snoc X16 N12 gn1
  obtain ⟨_, _, ⟨T19, L19, k19, n19⟩, -, X19, ⟨Lc19, hQ19, l19, y19, z19⟩, st19⟩ := Jvm.LawKit.callS X16 hx (y := (⟨"com/example/benchwire/benchwire/protocols/DelimitedTextDeclaredDelimitersPinLaw", "pick", "(II)B"⟩ : MethodName)) hown (mvT hZ (hw _ (List.mem_of_getElem? (i := 1) rfl))) (mvT hZ (hw _ (List.mem_of_getElem? (i := 2) rfl))) (mvT hZ (hw _ (List.mem_of_getElem? (i := 3) rfl))) (mvT hZ (hw _ (List.mem_of_getElem? (i := 4) rfl))) (by decide) (backOf (W := 2) (rm1 l Z a0 hw [] p0 (((p1.toUInt32 >>> ((8 : Int32) &&& 31).toUInt32).toInt32) &&& (3 : Int32))  h16 ) hZ (hw _ (List.mem_of_getElem? (i := 4) rfl)) (hw _ (List.mem_of_getElem? (i := 3) rfl)) (by decide) (by decide)) (g := (mkF m 67 #[.val (.int p0), .val (.int p1), .val (.int p2), .val (.int p3), .val (.ref b1), .unset, .unset, .unset, .unset, .unset, .unset, .unset] [(.int (((p1.toUInt32 >>> ((8 : Int32) &&& 31).toUInt32).toInt32) &&& (3 : Int32))), (.int p0), (.int (4 : Int32)), (.ref b1)])) rfl (by rw [hml]; rfl) (argsL := [(.int p0), (.int (((p1.toUInt32 >>> ((8 : Int32) &&& 31).toUInt32).toInt32) &&& (3 : Int32)))]) (rest := [(.int (4 : Int32)), (.ref b1)]) (lenOf pd_0 rfl) rfl (by show 2 * 0 + _ ≤ _; exact Nat.le_of_eq rfl) (hb hby at_67) (fun _ _ => ⟨rfl, e16, (by decide : 1 + 0 ≤ _), (by decide : 6 + 0 ≤ _)⟩)
  dsimp only [Pt.U, Pt.locs, Pt.cells, Pt.slots] at X19 l19 y19 z19 st19 hQ19
  subst l19 y19 z19
  obtain ⟨rfl, rfl, e19⟩ := hQ19
  try rw [List.append_nil] at X19
  obtain ⟨T20, h20, X20, e20, W20, A20, st20⟩ := iaB X19 hx hZ e19 G18 (j := (4 : Int32)) 4 (by decide) (by decide) (g := (mkF m 70 #[.val (.int p0), .val (.int p1), .val (.int p2), .val (.int p3), .val (.ref b1), .unset, .unset, .unset, .unset, .unset, .unset, .unset] [(.int (f1 p0 (((p1.toUInt32 >>> ((8 : Int32) &&& 31).toUInt32).toInt32) &&& (3 : Int32)))), (.int (4 : Int32)), (.ref b1)])) rfl rfl (hb hby at_70)
  have G21 : Exa Z h20 b1 "[B" := G17.wr W20
  have G22 : Ia Z h20 b1 .byte 6 (up (up (up (up (up (fun _ => (0 : Int32)) 0 (nar .byte (f1 p0 (p1 &&& (3 : Int32))))) 1 (nar .byte (f1 p0 (((p1.toUInt32 >>> ((2 : Int32) &&& 31).toUInt32).toInt32) &&& (3 : Int32))))) 2 (nar .byte (f1 p0 (((p1.toUInt32 >>> ((4 : Int32) &&& 31).toUInt32).toInt32) &&& (3 : Int32))))) 3 (nar .byte (f1 p0 (((p1.toUInt32 >>> ((6 : Int32) &&& 31).toUInt32).toInt32) &&& (3 : Int32))))) 4 (nar .byte (f1 p0 (((p1.toUInt32 >>> ((8 : Int32) &&& 31).toUInt32).toInt32) &&& (3 : Int32))))) := A20
  have Z20 : n0 ≤ h20.size := Nat.le_trans Z16 (Keep.of_wr W20).1
  have N20 := Fr.snoc X20 N16 gn1
  obtain ⟨_, _, ⟨T23, L23, k23, n23⟩, -, X23, ⟨Lc23, hQ23, l23, y23, z23⟩, st23⟩ := Jvm.LawKit.callS X20 hx (y := (⟨"com/example/benchwire/benchwire/protocols/DelimitedTextDeclaredDelimitersPinLaw", "pick", "(II)B"⟩ : MethodName)) hown (mvT hZ (hw _ (List.mem_of_getElem? (i := 1) rfl))) (mvT hZ (hw _ (List.mem_of_getElem? (i := 2) rfl))) (mvT hZ (hw _ (List.mem_of_getElem? (i := 3) rfl))) (mvT hZ (hw _ (List.mem_of_getElem? (i := 4) rfl))) (by decide) (backOf (W := 2) (rm1 l Z a0 hw [] p0 (((p1.toUInt32 >>> ((10 : Int32) &&& 31).toUInt32).toInt32) &&& (3 : Int32))  h20 ) hZ (hw _ (List.mem_of_getElem? (i := 4) rfl)) (hw _ (List.mem_of_getElem? (i := 3) rfl)) (by decide) (by decide)) (g := (mkF m 81 #[.val (.int p0), .val (.int p1), .val (.int p2), .val (.int p3), .val (.ref b1), .unset, .unset, .unset, .unset, .unset, .unset, .unset] [(.int (((p1.toUInt32 >>> ((10 : Int32) &&& 31).toUInt32).toInt32) &&& (3 : Int32))), (.int p0), (.int (5 : Int32)), (.ref b1)])) rfl (by rw [hml]; rfl) (argsL := [(.int p0), (.int (((p1.toUInt32 >>> ((10 : Int32) &&& 31).toUInt32).toInt32) &&& (3 : Int32)))]) (rest := [(.int (5 : Int32)), (.ref b1)]) (lenOf pd_0 rfl) rfl (by show 2 * 0 + _ ≤ _; exact Nat.le_of_eq rfl) (hb hby at_81) (fun _ _ => ⟨rfl, e20, (by decide : 1 + 0 ≤ _), (by decide : 6 + 0 ≤ _)⟩)
  dsimp only [Pt.U, Pt.locs, Pt.cells, Pt.slots] at X23 l23 y23 z23 st23 hQ23
  subst l23 y23 z23
  obtain ⟨rfl, rfl, e23⟩ := hQ23
  try rw [List.append_nil] at X23
  obtain ⟨T24, h24, X24, e24, W24, A24, st24⟩ := iaB X23 hx hZ e23 G22 (j := (5 : Int32)) 5 (by decide) (by decide) (g := (mkF m 84 #[.val (.int p0), .val (.int p1), .val (.int p2), .val (.int p3), .val (.ref b1), .unset, .unset, .unset, .unset, .unset, .unset, .unset] [(.int (f1 p0 (((p1.toUInt32 >>> ((10 : Int32) &&& 31).toUInt32).toInt32) &&& (3 : Int32)))), (.int (5 : Int32)), (.ref b1)])) rfl rfl (hb hby at_84)
  have G25 : Exa Z h24 b1 "[B" := G21.wr W24
  have G26 : Ia Z h24 b1 .byte 6 (up (up (up (up (up (up (fun _ => (0 : Int32)) 0 (nar .byte (f1 p0 (p1 &&& (3 : Int32))))) 1 (nar .byte (f1 p0 (((p1.toUInt32 >>> ((2 : Int32) &&& 31).toUInt32).toInt32) &&& (3 : Int32))))) 2 (nar .byte (f1 p0 (((p1.toUInt32 >>> ((4 : Int32) &&& 31).toUInt32).toInt32) &&& (3 : Int32))))) 3 (nar .byte (f1 p0 (((p1.toUInt32 >>> ((6 : Int32) &&& 31).toUInt32).toInt32) &&& (3 : Int32))))) 4 (nar .byte (f1 p0 (((p1.toUInt32 >>> ((8 : Int32) &&& 31).toUInt32).toInt32) &&& (3 : Int32))))) 5 (nar .byte (f1 p0 (((p1.toUInt32 >>> ((10 : Int32) &&& 31).toUInt32).toInt32) &&& (3 : Int32))))) := A24
  have Z24 : n0 ≤ h24.size := Nat.le_trans Z20 (Keep.of_wr W24).1
  have N24 := Fr.snoc X24 N20 gn1
  obtain ⟨fh, Afh⟩ : ∃ f, Ia Z h24 b1 .byte 6 f := ⟨_, G26⟩
  obtain ⟨_, _, ⟨T27, L27, k27, n27⟩, -, X27, ⟨Lc27, hQ27, l27, y27, z27⟩, st27⟩ := Jvm.LawKit.callS X24 hx (y := (⟨"com/example/benchwire/benchwire/protocols/DelimitedTextDeclaredDelimitersPinLaw", "pick", "(II)B"⟩ : MethodName)) hown (mvT hZ (hw _ (List.mem_of_getElem? (i := 1) rfl))) (mvT hZ (hw _ (List.mem_of_getElem? (i := 2) rfl))) (mvT hZ (hw _ (List.mem_of_getElem? (i := 3) rfl))) (mvT hZ (hw _ (List.mem_of_getElem? (i := 4) rfl))) (by decide) (backOf (W := 0) (rm1 l Z a0 hw [] p0 (((p3.toUInt32 >>> ((3 : Int32) &&& 31).toUInt32).toInt32) &&& (3 : Int32))  h24 ) hZ (hw _ (List.mem_of_getElem? (i := 4) rfl)) (hw _ (List.mem_of_getElem? (i := 3) rfl)) (by decide) (by decide)) (g := (mkF m 91 #[.val (.int p0), .val (.int p1), .val (.int p2), .val (.int p3), .val (.ref b1), .unset, .unset, .unset, .unset, .unset, .unset, .unset] [(.int (((p3.toUInt32 >>> ((3 : Int32) &&& 31).toUInt32).toInt32) &&& (3 : Int32))), (.int p0)])) rfl (by rw [hml]; rfl) (argsL := [(.int p0), (.int (((p3.toUInt32 >>> ((3 : Int32) &&& 31).toUInt32).toInt32) &&& (3 : Int32)))]) (rest := []) (lenOf pd_0 rfl) rfl (by show 2 * 0 + _ ≤ _; exact Nat.le_of_eq rfl) (hb hby at_91) (fun _ _ => ⟨rfl, e24, (by decide : 1 + 0 ≤ _), (by decide : 6 + 0 ≤ _)⟩)
  dsimp only [Pt.U, Pt.locs, Pt.cells, Pt.slots] at X27 l27 y27 z27 st27 hQ27
  subst l27 y27 z27
  obtain ⟨rfl, rfl, e27⟩ := hQ27
  try rw [List.append_nil] at X27
  obtain ⟨T28, h28, X28, e28, E28, A28, B28, st28⟩ := iaNewE X27 hx hZ (hw _ (List.mem_of_getElem? (i := 0) rfl)) e27 (g := (mkF m 113 #[.val (.int p0), .val (.int p1), .val (.int p2), .val (.int p3), .val (.ref b1), .val (.int (gend p0 p3)), .val (.int (gat p3)), .val (.int (gul p3)), .unset, .unset, .unset, .unset] [(.int (4 : Int32))])) rfl (hb hby at_113) rfl 4 (by decide) 4 (Nat.le_refl _) (by decide) (by decide) (by decide) rfl (by decide) (ad := "[B") (by decide)
  obtain ⟨b28, g28⟩ : ∃ z, z = h24.size := ⟨_, rfl⟩
  rw [← g28] at A28 B28 st28
  have ne29 : b1 ≠ b28 := Nat.ne_of_lt (Nat.lt_of_lt_of_le G25.lt (Nat.le_of_eq g28.symm))
  have gn28 : n0 ≤ b28 := Nat.le_trans Z24 (Nat.le_of_eq g28.symm)
  have Z28 : n0 ≤ h28.size := Nat.le_trans Z24 E28.1
  have G30 : Exa Z h28 b1 "[B" := G25.ext E28
  have G31 : Ia Z h28 b1 .byte 6 fh := Afh.ext E28
  have G32 : Ia Z h28 b28 .byte 4 (fun _ => (0 : Int32)) := A28
  obtain ⟨T33, h33, X33, e33, W33, A33, st33⟩ := iaB X28 hx hZ e28 G32 (j := (0 : Int32)) 0 (by decide) (by decide) (g := (mkF m 122 #[.val (.int p0), .val (.int p1), .val (.int p2), .val (.int p3), .val (.ref b1), .val (.int (gend p0 p3)), .val (.int (gat p3)), .val (.int (gul p3)), .val (.ref b28), .unset, .unset, .unset] [(.int (p2.toInt8.toInt32)), (.int (0 : Int32)), (.ref b28)])) rfl rfl (hb hby at_122)
  have G34 : Exa Z h33 b1 "[B" := G30.wr W33
  have G35 : Ia Z h33 b1 .byte 6 fh := G31.other W33 ne29
  have G36 : Exa Z h33 b28 "[B" := B28.wr W33
  have G37 : Ia Z h33 b28 .byte 4 (up (fun _ => (0 : Int32)) 0 (nar .byte (p2.toInt8.toInt32))) := A33
  have Z33 : n0 ≤ h33.size := Nat.le_trans Z28 (Keep.of_wr W33).1
  have N33 := Fr.snoc X33 N24 gn28
  obtain ⟨T38, h38, X38, e38, W38, A38, st38⟩ := iaB X33 hx hZ e33 G37 (j := (1 : Int32)) 1 (by decide) (by decide) (g := (mkF m 131 #[.val (.int p0), .val (.int p1), .val (.int p2), .val (.int p3), .val (.ref b1), .val (.int (gend p0 p3)), .val (.int (gat p3)), .val (.int (gul p3)), .val (.ref b28), .unset, .unset, .unset] [(.int ((p2 >>> ((8 : Int32) &&& 31)).toInt8.toInt32)), (.int (1 : Int32)), (.ref b28)])) rfl rfl (hb hby at_131)
  have G39 : Exa Z h38 b1 "[B" := G34.wr W38
  have G40 : Ia Z h38 b1 .byte 6 fh := G35.other W38 ne29
  have G41 : Exa Z h38 b28 "[B" := G36.wr W38
  have G42 : Ia Z h38 b28 .byte 4 (up (up (fun _ => (0 : Int32)) 0 (nar .byte (p2.toInt8.toInt32))) 1 (nar .byte ((p2 >>> ((8 : Int32) &&& 31)).toInt8.toInt32))) := A38
  have Z38 : n0 ≤ h38.size := Nat.le_trans Z33 (Keep.of_wr W38).1
  have N38 := Fr.snoc X38 N33 gn28
  obtain ⟨T43, h43, X43, e43, W43, A43, st43⟩ := iaB X38 hx hZ e38 G42 (j := (2 : Int32)) 2 (by decide) (by decide) (g := (mkF m 140 #[.val (.int p0), .val (.int p1), .val (.int p2), .val (.int p3), .val (.ref b1), .val (.int (gend p0 p3)), .val (.int (gat p3)), .val (.int (gul p3)), .val (.ref b28), .unset, .unset, .unset] [(.int ((p2 >>> ((16 : Int32) &&& 31)).toInt8.toInt32)), (.int (2 : Int32)), (.ref b28)])) rfl rfl (hb hby at_140)
  have G44 : Exa Z h43 b1 "[B" := G39.wr W43
  have G45 : Ia Z h43 b1 .byte 6 fh := G40.other W43 ne29
  have G46 : Exa Z h43 b28 "[B" := G41.wr W43
  have G47 : Ia Z h43 b28 .byte 4 (up (up (up (fun _ => (0 : Int32)) 0 (nar .byte (p2.toInt8.toInt32))) 1 (nar .byte ((p2 >>> ((8 : Int32) &&& 31)).toInt8.toInt32))) 2 (nar .byte ((p2 >>> ((16 : Int32) &&& 31)).toInt8.toInt32))) := A43
  have Z43 : n0 ≤ h43.size := Nat.le_trans Z38 (Keep.of_wr W43).1
  have N43 := Fr.snoc X43 N38 gn28
  obtain ⟨T48, h48, X48, e48, W48, A48, st48⟩ := iaB X43 hx hZ e43 G47 (j := (3 : Int32)) 3 (by decide) (by decide) (g := (mkF m 149 #[.val (.int p0), .val (.int p1), .val (.int p2), .val (.int p3), .val (.ref b1), .val (.int (gend p0 p3)), .val (.int (gat p3)), .val (.int (gul p3)), .val (.ref b28), .unset, .unset, .unset] [(.int ((p2 >>> ((24 : Int32) &&& 31)).toInt8.toInt32)), (.int (3 : Int32)), (.ref b28)])) rfl rfl (hb hby at_149)
  have G49 : Exa Z h48 b1 "[B" := G44.wr W48
  have G50 : Ia Z h48 b1 .byte 6 fh := G45.other W48 ne29
  have G51 : Exa Z h48 b28 "[B" := G46.wr W48
  have G52 : Ia Z h48 b28 .byte 4 (up (up (up (up (fun _ => (0 : Int32)) 0 (nar .byte (p2.toInt8.toInt32))) 1 (nar .byte ((p2 >>> ((8 : Int32) &&& 31)).toInt8.toInt32))) 2 (nar .byte ((p2 >>> ((16 : Int32) &&& 31)).toInt8.toInt32))) 3 (nar .byte ((p2 >>> ((24 : Int32) &&& 31)).toInt8.toInt32))) := A48
  have Z48 : n0 ≤ h48.size := Nat.le_trans Z43 (Keep.of_wr W48).1
  have N48 := Fr.snoc X48 N43 gn28
  obtain ⟨fq, Afq⟩ : ∃ f, Ia Z h48 b28 .byte 4 f := ⟨_, G52⟩
  obtain ⟨a, ha, ha7⟩ := own_at p3
  have K53 : ∀ t, Steps p.tables e below (T48.setTop (mkF m 152 #[.val (.int p0), .val (.int p1), .val (.int p2), .val (.int p3), .val (.ref b1), .val (.int (gend p0 p3)), .val (.int (gat p3)), .val (.int (gul p3)), .val (.ref b28), .unset, .unset, .unset] [(.int (gul p3))])) t → Steps p.tables e below (s₁.setTop (mkF m 0 #[.val (.int p0), .val (.int p1), .val (.int p2), .val (.int p3), .unset, .unset, .unset, .unset, .unset, .unset, .unset, .unset] [])) t := by
    intro t kt
    show Steps p.tables e below (s₁.setTop (mkF m 0 #[.val (.int p0), .val (.int p1), .val (.int p2), .val (.int p3), .unset, .unset, .unset, .unset, .unset, .unset, .unset, .unset] [])) _
    refine XS.bipush X0.here hx rfl (hb hby at_0) ?_
    show Steps p.tables e below (s₁.setTop (mkF m 2 #[.val (.int p0), .val (.int p1), .val (.int p2), .val (.int p3), .unset, .unset, .unset, .unset, .unset, .unset, .unset, .unset] [(.int (6 : Int32))])) _
    refine st1 _ ?_
    show Steps p.tables e below (T1.setTop (mkF m 4 #[.val (.int p0), .val (.int p1), .val (.int p2), .val (.int p3), .unset, .unset, .unset, .unset, .unset, .unset, .unset, .unset] [(.ref b1)])) _
    refine XS.astore X1.here hx rfl (hb hby at_4) rfl rfl (l' := #[.val (.int p0), .val (.int p1), .val (.int p2), .val (.int p3), .val (.ref b1), .unset, .unset, .unset, .unset, .unset, .unset, .unset]) rfl ?_
    show Steps p.tables e below (T1.setTop (mkF m 6 #[.val (.int p0), .val (.int p1), .val (.int p2), .val (.int p3), .val (.ref b1), .unset, .unset, .unset, .unset, .unset, .unset, .unset] [])) _
    refine XS.aload X1.here hx rfl (hb hby at_6) rfl rfl ?_
    show Steps p.tables e below (T1.setTop (mkF m 8 #[.val (.int p0), .val (.int p1), .val (.int p2), .val (.int p3), .val (.ref b1), .unset, .unset, .unset, .unset, .unset, .unset, .unset] [(.ref b1)])) _
    refine XS.iconst X1.here hx rfl (hb hby at_8) ?_
    show Steps p.tables e below (T1.setTop (mkF m 9 #[.val (.int p0), .val (.int p1), .val (.int p2), .val (.int p3), .val (.ref b1), .unset, .unset, .unset, .unset, .unset, .unset, .unset] [(.int (0 : Int32)), (.ref b1)])) _
    refine XS.iloadN X1.here hx rfl (hb hby at_9) rfl ?_
    show Steps p.tables e below (T1.setTop (mkF m 10 #[.val (.int p0), .val (.int p1), .val (.int p2), .val (.int p3), .val (.ref b1), .unset, .unset, .unset, .unset, .unset, .unset, .unset] [(.int p0), (.int (0 : Int32)), (.ref b1)])) _
    refine XS.iloadN X1.here hx rfl (hb hby at_10) rfl ?_
    show Steps p.tables e below (T1.setTop (mkF m 11 #[.val (.int p0), .val (.int p1), .val (.int p2), .val (.int p3), .val (.ref b1), .unset, .unset, .unset, .unset, .unset, .unset, .unset] [(.int p1), (.int p0), (.int (0 : Int32)), (.ref b1)])) _
    refine XS.iconst X1.here hx rfl (hb hby at_11) ?_
    show Steps p.tables e below (T1.setTop (mkF m 12 #[.val (.int p0), .val (.int p1), .val (.int p2), .val (.int p3), .val (.ref b1), .unset, .unset, .unset, .unset, .unset, .unset, .unset] [(.int (3 : Int32)), (.int p1), (.int p0), (.int (0 : Int32)), (.ref b1)])) _
    refine XS.iand X1.here hx rfl (hb hby at_12) rfl ?_
    show Steps p.tables e below (T1.setTop (mkF m 13 #[.val (.int p0), .val (.int p1), .val (.int p2), .val (.int p3), .val (.ref b1), .unset, .unset, .unset, .unset, .unset, .unset, .unset] [(.int (p1 &&& (3 : Int32))), (.int p0), (.int (0 : Int32)), (.ref b1)])) _
    refine st3 _ ?_
    show Steps p.tables e below (T3.setTop (mkF m 16 #[.val (.int p0), .val (.int p1), .val (.int p2), .val (.int p3), .val (.ref b1), .unset, .unset, .unset, .unset, .unset, .unset, .unset] [(.int (f1 p0 (p1 &&& (3 : Int32)))), (.int (0 : Int32)), (.ref b1)])) _
    refine st4 _ ?_
    show Steps p.tables e below (T4.setTop (mkF m 17 #[.val (.int p0), .val (.int p1), .val (.int p2), .val (.int p3), .val (.ref b1), .unset, .unset, .unset, .unset, .unset, .unset, .unset] [])) _
    refine XS.aload X4.here hx rfl (hb hby at_17) rfl rfl ?_
    show Steps p.tables e below (T4.setTop (mkF m 19 #[.val (.int p0), .val (.int p1), .val (.int p2), .val (.int p3), .val (.ref b1), .unset, .unset, .unset, .unset, .unset, .unset, .unset] [(.ref b1)])) _
    refine XS.iconst X4.here hx rfl (hb hby at_19) ?_
    show Steps p.tables e below (T4.setTop (mkF m 20 #[.val (.int p0), .val (.int p1), .val (.int p2), .val (.int p3), .val (.ref b1), .unset, .unset, .unset, .unset, .unset, .unset, .unset] [(.int (1 : Int32)), (.ref b1)])) _
    refine XS.iloadN X4.here hx rfl (hb hby at_20) rfl ?_
    show Steps p.tables e below (T4.setTop (mkF m 21 #[.val (.int p0), .val (.int p1), .val (.int p2), .val (.int p3), .val (.ref b1), .unset, .unset, .unset, .unset, .unset, .unset, .unset] [(.int p0), (.int (1 : Int32)), (.ref b1)])) _
    refine XS.iloadN X4.here hx rfl (hb hby at_21) rfl ?_
    show Steps p.tables e below (T4.setTop (mkF m 22 #[.val (.int p0), .val (.int p1), .val (.int p2), .val (.int p3), .val (.ref b1), .unset, .unset, .unset, .unset, .unset, .unset, .unset] [(.int p1), (.int p0), (.int (1 : Int32)), (.ref b1)])) _
    refine XS.iconst X4.here hx rfl (hb hby at_22) ?_
    show Steps p.tables e below (T4.setTop (mkF m 23 #[.val (.int p0), .val (.int p1), .val (.int p2), .val (.int p3), .val (.ref b1), .unset, .unset, .unset, .unset, .unset, .unset, .unset] [(.int (2 : Int32)), (.int p1), (.int p0), (.int (1 : Int32)), (.ref b1)])) _
    refine XS.iushr X4.here hx rfl (hb hby at_23) rfl ?_
    show Steps p.tables e below (T4.setTop (mkF m 24 #[.val (.int p0), .val (.int p1), .val (.int p2), .val (.int p3), .val (.ref b1), .unset, .unset, .unset, .unset, .unset, .unset, .unset] [(.int ((p1.toUInt32 >>> ((2 : Int32) &&& 31).toUInt32).toInt32)), (.int p0), (.int (1 : Int32)), (.ref b1)])) _
    refine XS.iconst X4.here hx rfl (hb hby at_24) ?_
    show Steps p.tables e below (T4.setTop (mkF m 25 #[.val (.int p0), .val (.int p1), .val (.int p2), .val (.int p3), .val (.ref b1), .unset, .unset, .unset, .unset, .unset, .unset, .unset] [(.int (3 : Int32)), (.int ((p1.toUInt32 >>> ((2 : Int32) &&& 31).toUInt32).toInt32)), (.int p0), (.int (1 : Int32)), (.ref b1)])) _
    refine XS.iand X4.here hx rfl (hb hby at_25) rfl ?_
    show Steps p.tables e below (T4.setTop (mkF m 26 #[.val (.int p0), .val (.int p1), .val (.int p2), .val (.int p3), .val (.ref b1), .unset, .unset, .unset, .unset, .unset, .unset, .unset] [(.int (((p1.toUInt32 >>> ((2 : Int32) &&& 31).toUInt32).toInt32) &&& (3 : Int32))), (.int p0), (.int (1 : Int32)), (.ref b1)])) _
    refine st7 _ ?_
    show Steps p.tables e below (T7.setTop (mkF m 29 #[.val (.int p0), .val (.int p1), .val (.int p2), .val (.int p3), .val (.ref b1), .unset, .unset, .unset, .unset, .unset, .unset, .unset] [(.int (f1 p0 (((p1.toUInt32 >>> ((2 : Int32) &&& 31).toUInt32).toInt32) &&& (3 : Int32)))), (.int (1 : Int32)), (.ref b1)])) _
    refine st8 _ ?_
    show Steps p.tables e below (T8.setTop (mkF m 30 #[.val (.int p0), .val (.int p1), .val (.int p2), .val (.int p3), .val (.ref b1), .unset, .unset, .unset, .unset, .unset, .unset, .unset] [])) _
    refine XS.aload X8.here hx rfl (hb hby at_30) rfl rfl ?_
    show Steps p.tables e below (T8.setTop (mkF m 32 #[.val (.int p0), .val (.int p1), .val (.int p2), .val (.int p3), .val (.ref b1), .unset, .unset, .unset, .unset, .unset, .unset, .unset] [(.ref b1)])) _
    refine XS.iconst X8.here hx rfl (hb hby at_32) ?_
    show Steps p.tables e below (T8.setTop (mkF m 33 #[.val (.int p0), .val (.int p1), .val (.int p2), .val (.int p3), .val (.ref b1), .unset, .unset, .unset, .unset, .unset, .unset, .unset] [(.int (2 : Int32)), (.ref b1)])) _
    refine XS.iloadN X8.here hx rfl (hb hby at_33) rfl ?_
    show Steps p.tables e below (T8.setTop (mkF m 34 #[.val (.int p0), .val (.int p1), .val (.int p2), .val (.int p3), .val (.ref b1), .unset, .unset, .unset, .unset, .unset, .unset, .unset] [(.int p0), (.int (2 : Int32)), (.ref b1)])) _
    refine XS.iloadN X8.here hx rfl (hb hby at_34) rfl ?_
    show Steps p.tables e below (T8.setTop (mkF m 35 #[.val (.int p0), .val (.int p1), .val (.int p2), .val (.int p3), .val (.ref b1), .unset, .unset, .unset, .unset, .unset, .unset, .unset] [(.int p1), (.int p0), (.int (2 : Int32)), (.ref b1)])) _
    refine XS.iconst X8.here hx rfl (hb hby at_35) ?_
    show Steps p.tables e below (T8.setTop (mkF m 36 #[.val (.int p0), .val (.int p1), .val (.int p2), .val (.int p3), .val (.ref b1), .unset, .unset, .unset, .unset, .unset, .unset, .unset] [(.int (4 : Int32)), (.int p1), (.int p0), (.int (2 : Int32)), (.ref b1)])) _
    refine XS.iushr X8.here hx rfl (hb hby at_36) rfl ?_
    show Steps p.tables e below (T8.setTop (mkF m 37 #[.val (.int p0), .val (.int p1), .val (.int p2), .val (.int p3), .val (.ref b1), .unset, .unset, .unset, .unset, .unset, .unset, .unset] [(.int ((p1.toUInt32 >>> ((4 : Int32) &&& 31).toUInt32).toInt32)), (.int p0), (.int (2 : Int32)), (.ref b1)])) _
    refine XS.iconst X8.here hx rfl (hb hby at_37) ?_
    show Steps p.tables e below (T8.setTop (mkF m 38 #[.val (.int p0), .val (.int p1), .val (.int p2), .val (.int p3), .val (.ref b1), .unset, .unset, .unset, .unset, .unset, .unset, .unset] [(.int (3 : Int32)), (.int ((p1.toUInt32 >>> ((4 : Int32) &&& 31).toUInt32).toInt32)), (.int p0), (.int (2 : Int32)), (.ref b1)])) _
    refine XS.iand X8.here hx rfl (hb hby at_38) rfl ?_
    show Steps p.tables e below (T8.setTop (mkF m 39 #[.val (.int p0), .val (.int p1), .val (.int p2), .val (.int p3), .val (.ref b1), .unset, .unset, .unset, .unset, .unset, .unset, .unset] [(.int (((p1.toUInt32 >>> ((4 : Int32) &&& 31).toUInt32).toInt32) &&& (3 : Int32))), (.int p0), (.int (2 : Int32)), (.ref b1)])) _
    refine st11 _ ?_
    show Steps p.tables e below (T11.setTop (mkF m 42 #[.val (.int p0), .val (.int p1), .val (.int p2), .val (.int p3), .val (.ref b1), .unset, .unset, .unset, .unset, .unset, .unset, .unset] [(.int (f1 p0 (((p1.toUInt32 >>> ((4 : Int32) &&& 31).toUInt32).toInt32) &&& (3 : Int32)))), (.int (2 : Int32)), (.ref b1)])) _
    refine st12 _ ?_
    show Steps p.tables e below (T12.setTop (mkF m 43 #[.val (.int p0), .val (.int p1), .val (.int p2), .val (.int p3), .val (.ref b1), .unset, .unset, .unset, .unset, .unset, .unset, .unset] [])) _
    refine XS.aload X12.here hx rfl (hb hby at_43) rfl rfl ?_
    show Steps p.tables e below (T12.setTop (mkF m 45 #[.val (.int p0), .val (.int p1), .val (.int p2), .val (.int p3), .val (.ref b1), .unset, .unset, .unset, .unset, .unset, .unset, .unset] [(.ref b1)])) _
    refine XS.iconst X12.here hx rfl (hb hby at_45) ?_
    show Steps p.tables e below (T12.setTop (mkF m 46 #[.val (.int p0), .val (.int p1), .val (.int p2), .val (.int p3), .val (.ref b1), .unset, .unset, .unset, .unset, .unset, .unset, .unset] [(.int (3 : Int32)), (.ref b1)])) _
    refine XS.iloadN X12.here hx rfl (hb hby at_46) rfl ?_
    show Steps p.tables e below (T12.setTop (mkF m 47 #[.val (.int p0), .val (.int p1), .val (.int p2), .val (.int p3), .val (.ref b1), .unset, .unset, .unset, .unset, .unset, .unset, .unset] [(.int p0), (.int (3 : Int32)), (.ref b1)])) _
    refine XS.iloadN X12.here hx rfl (hb hby at_47) rfl ?_
    show Steps p.tables e below (T12.setTop (mkF m 48 #[.val (.int p0), .val (.int p1), .val (.int p2), .val (.int p3), .val (.ref b1), .unset, .unset, .unset, .unset, .unset, .unset, .unset] [(.int p1), (.int p0), (.int (3 : Int32)), (.ref b1)])) _
    refine XS.bipush X12.here hx rfl (hb hby at_48) ?_
    show Steps p.tables e below (T12.setTop (mkF m 50 #[.val (.int p0), .val (.int p1), .val (.int p2), .val (.int p3), .val (.ref b1), .unset, .unset, .unset, .unset, .unset, .unset, .unset] [(.int (6 : Int32)), (.int p1), (.int p0), (.int (3 : Int32)), (.ref b1)])) _
    refine XS.iushr X12.here hx rfl (hb hby at_50) rfl ?_
    show Steps p.tables e below (T12.setTop (mkF m 51 #[.val (.int p0), .val (.int p1), .val (.int p2), .val (.int p3), .val (.ref b1), .unset, .unset, .unset, .unset, .unset, .unset, .unset] [(.int ((p1.toUInt32 >>> ((6 : Int32) &&& 31).toUInt32).toInt32)), (.int p0), (.int (3 : Int32)), (.ref b1)])) _
    refine XS.iconst X12.here hx rfl (hb hby at_51) ?_
    show Steps p.tables e below (T12.setTop (mkF m 52 #[.val (.int p0), .val (.int p1), .val (.int p2), .val (.int p3), .val (.ref b1), .unset, .unset, .unset, .unset, .unset, .unset, .unset] [(.int (3 : Int32)), (.int ((p1.toUInt32 >>> ((6 : Int32) &&& 31).toUInt32).toInt32)), (.int p0), (.int (3 : Int32)), (.ref b1)])) _
    refine XS.iand X12.here hx rfl (hb hby at_52) rfl ?_
    show Steps p.tables e below (T12.setTop (mkF m 53 #[.val (.int p0), .val (.int p1), .val (.int p2), .val (.int p3), .val (.ref b1), .unset, .unset, .unset, .unset, .unset, .unset, .unset] [(.int (((p1.toUInt32 >>> ((6 : Int32) &&& 31).toUInt32).toInt32) &&& (3 : Int32))), (.int p0), (.int (3 : Int32)), (.ref b1)])) _
    refine st15 _ ?_
    show Steps p.tables e below (T15.setTop (mkF m 56 #[.val (.int p0), .val (.int p1), .val (.int p2), .val (.int p3), .val (.ref b1), .unset, .unset, .unset, .unset, .unset, .unset, .unset] [(.int (f1 p0 (((p1.toUInt32 >>> ((6 : Int32) &&& 31).toUInt32).toInt32) &&& (3 : Int32)))), (.int (3 : Int32)), (.ref b1)])) _
    refine st16 _ ?_
    show Steps p.tables e below (T16.setTop (mkF m 57 #[.val (.int p0), .val (.int p1), .val (.int p2), .val (.int p3), .val (.ref b1), .unset, .unset, .unset, .unset, .unset, .unset, .unset] [])) _
    refine XS.aload X16.here hx rfl (hb hby at_57) rfl rfl ?_
    show Steps p.tables e below (T16.setTop (mkF m 59 #[.val (.int p0), .val (.int p1), .val (.int p2), .val (.int p3), .val (.ref b1), .unset, .unset, .unset, .unset, .unset, .unset, .unset] [(.ref b1)])) _
    refine XS.iconst X16.here hx rfl (hb hby at_59) ?_
    show Steps p.tables e below (T16.setTop (mkF m 60 #[.val (.int p0), .val (.int p1), .val (.int p2), .val (.int p3), .val (.ref b1), .unset, .unset, .unset, .unset, .unset, .unset, .unset] [(.int (4 : Int32)), (.ref b1)])) _
    refine XS.iloadN X16.here hx rfl (hb hby at_60) rfl ?_
    show Steps p.tables e below (T16.setTop (mkF m 61 #[.val (.int p0), .val (.int p1), .val (.int p2), .val (.int p3), .val (.ref b1), .unset, .unset, .unset, .unset, .unset, .unset, .unset] [(.int p0), (.int (4 : Int32)), (.ref b1)])) _
    refine XS.iloadN X16.here hx rfl (hb hby at_61) rfl ?_
    show Steps p.tables e below (T16.setTop (mkF m 62 #[.val (.int p0), .val (.int p1), .val (.int p2), .val (.int p3), .val (.ref b1), .unset, .unset, .unset, .unset, .unset, .unset, .unset] [(.int p1), (.int p0), (.int (4 : Int32)), (.ref b1)])) _
    refine XS.bipush X16.here hx rfl (hb hby at_62) ?_
    show Steps p.tables e below (T16.setTop (mkF m 64 #[.val (.int p0), .val (.int p1), .val (.int p2), .val (.int p3), .val (.ref b1), .unset, .unset, .unset, .unset, .unset, .unset, .unset] [(.int (8 : Int32)), (.int p1), (.int p0), (.int (4 : Int32)), (.ref b1)])) _
    refine XS.iushr X16.here hx rfl (hb hby at_64) rfl ?_
    show Steps p.tables e below (T16.setTop (mkF m 65 #[.val (.int p0), .val (.int p1), .val (.int p2), .val (.int p3), .val (.ref b1), .unset, .unset, .unset, .unset, .unset, .unset, .unset] [(.int ((p1.toUInt32 >>> ((8 : Int32) &&& 31).toUInt32).toInt32)), (.int p0), (.int (4 : Int32)), (.ref b1)])) _
    refine XS.iconst X16.here hx rfl (hb hby at_65) ?_
    show Steps p.tables e below (T16.setTop (mkF m 66 #[.val (.int p0), .val (.int p1), .val (.int p2), .val (.int p3), .val (.ref b1), .unset, .unset, .unset, .unset, .unset, .unset, .unset] [(.int (3 : Int32)), (.int ((p1.toUInt32 >>> ((8 : Int32) &&& 31).toUInt32).toInt32)), (.int p0), (.int (4 : Int32)), (.ref b1)])) _
    refine XS.iand X16.here hx rfl (hb hby at_66) rfl ?_
    show Steps p.tables e below (T16.setTop (mkF m 67 #[.val (.int p0), .val (.int p1), .val (.int p2), .val (.int p3), .val (.ref b1), .unset, .unset, .unset, .unset, .unset, .unset, .unset] [(.int (((p1.toUInt32 >>> ((8 : Int32) &&& 31).toUInt32).toInt32) &&& (3 : Int32))), (.int p0), (.int (4 : Int32)), (.ref b1)])) _
    refine st19 _ ?_
    show Steps p.tables e below (T19.setTop (mkF m 70 #[.val (.int p0), .val (.int p1), .val (.int p2), .val (.int p3), .val (.ref b1), .unset, .unset, .unset, .unset, .unset, .unset, .unset] [(.int (f1 p0 (((p1.toUInt32 >>> ((8 : Int32) &&& 31).toUInt32).toInt32) &&& (3 : Int32)))), (.int (4 : Int32)), (.ref b1)])) _
    refine st20 _ ?_
    show Steps p.tables e below (T20.setTop (mkF m 71 #[.val (.int p0), .val (.int p1), .val (.int p2), .val (.int p3), .val (.ref b1), .unset, .unset, .unset, .unset, .unset, .unset, .unset] [])) _
    refine XS.aload X20.here hx rfl (hb hby at_71) rfl rfl ?_
    show Steps p.tables e below (T20.setTop (mkF m 73 #[.val (.int p0), .val (.int p1), .val (.int p2), .val (.int p3), .val (.ref b1), .unset, .unset, .unset, .unset, .unset, .unset, .unset] [(.ref b1)])) _
    refine XS.iconst X20.here hx rfl (hb hby at_73) ?_
    show Steps p.tables e below (T20.setTop (mkF m 74 #[.val (.int p0), .val (.int p1), .val (.int p2), .val (.int p3), .val (.ref b1), .unset, .unset, .unset, .unset, .unset, .unset, .unset] [(.int (5 : Int32)), (.ref b1)])) _
    refine XS.iloadN X20.here hx rfl (hb hby at_74) rfl ?_
    show Steps p.tables e below (T20.setTop (mkF m 75 #[.val (.int p0), .val (.int p1), .val (.int p2), .val (.int p3), .val (.ref b1), .unset, .unset, .unset, .unset, .unset, .unset, .unset] [(.int p0), (.int (5 : Int32)), (.ref b1)])) _
    refine XS.iloadN X20.here hx rfl (hb hby at_75) rfl ?_
    show Steps p.tables e below (T20.setTop (mkF m 76 #[.val (.int p0), .val (.int p1), .val (.int p2), .val (.int p3), .val (.ref b1), .unset, .unset, .unset, .unset, .unset, .unset, .unset] [(.int p1), (.int p0), (.int (5 : Int32)), (.ref b1)])) _
    refine XS.bipush X20.here hx rfl (hb hby at_76) ?_
    show Steps p.tables e below (T20.setTop (mkF m 78 #[.val (.int p0), .val (.int p1), .val (.int p2), .val (.int p3), .val (.ref b1), .unset, .unset, .unset, .unset, .unset, .unset, .unset] [(.int (10 : Int32)), (.int p1), (.int p0), (.int (5 : Int32)), (.ref b1)])) _
    refine XS.iushr X20.here hx rfl (hb hby at_78) rfl ?_
    show Steps p.tables e below (T20.setTop (mkF m 79 #[.val (.int p0), .val (.int p1), .val (.int p2), .val (.int p3), .val (.ref b1), .unset, .unset, .unset, .unset, .unset, .unset, .unset] [(.int ((p1.toUInt32 >>> ((10 : Int32) &&& 31).toUInt32).toInt32)), (.int p0), (.int (5 : Int32)), (.ref b1)])) _
    refine XS.iconst X20.here hx rfl (hb hby at_79) ?_
    show Steps p.tables e below (T20.setTop (mkF m 80 #[.val (.int p0), .val (.int p1), .val (.int p2), .val (.int p3), .val (.ref b1), .unset, .unset, .unset, .unset, .unset, .unset, .unset] [(.int (3 : Int32)), (.int ((p1.toUInt32 >>> ((10 : Int32) &&& 31).toUInt32).toInt32)), (.int p0), (.int (5 : Int32)), (.ref b1)])) _
    refine XS.iand X20.here hx rfl (hb hby at_80) rfl ?_
    show Steps p.tables e below (T20.setTop (mkF m 81 #[.val (.int p0), .val (.int p1), .val (.int p2), .val (.int p3), .val (.ref b1), .unset, .unset, .unset, .unset, .unset, .unset, .unset] [(.int (((p1.toUInt32 >>> ((10 : Int32) &&& 31).toUInt32).toInt32) &&& (3 : Int32))), (.int p0), (.int (5 : Int32)), (.ref b1)])) _
    refine st23 _ ?_
    show Steps p.tables e below (T23.setTop (mkF m 84 #[.val (.int p0), .val (.int p1), .val (.int p2), .val (.int p3), .val (.ref b1), .unset, .unset, .unset, .unset, .unset, .unset, .unset] [(.int (f1 p0 (((p1.toUInt32 >>> ((10 : Int32) &&& 31).toUInt32).toInt32) &&& (3 : Int32)))), (.int (5 : Int32)), (.ref b1)])) _
    refine st24 _ ?_
    show Steps p.tables e below (T24.setTop (mkF m 85 #[.val (.int p0), .val (.int p1), .val (.int p2), .val (.int p3), .val (.ref b1), .unset, .unset, .unset, .unset, .unset, .unset, .unset] [])) _
    refine XS.iloadN X24.here hx rfl (hb hby at_85) rfl ?_
    show Steps p.tables e below (T24.setTop (mkF m 86 #[.val (.int p0), .val (.int p1), .val (.int p2), .val (.int p3), .val (.ref b1), .unset, .unset, .unset, .unset, .unset, .unset, .unset] [(.int p0)])) _
    refine XS.iloadN X24.here hx rfl (hb hby at_86) rfl ?_
    show Steps p.tables e below (T24.setTop (mkF m 87 #[.val (.int p0), .val (.int p1), .val (.int p2), .val (.int p3), .val (.ref b1), .unset, .unset, .unset, .unset, .unset, .unset, .unset] [(.int p3), (.int p0)])) _
    refine XS.iconst X24.here hx rfl (hb hby at_87) ?_
    show Steps p.tables e below (T24.setTop (mkF m 88 #[.val (.int p0), .val (.int p1), .val (.int p2), .val (.int p3), .val (.ref b1), .unset, .unset, .unset, .unset, .unset, .unset, .unset] [(.int (3 : Int32)), (.int p3), (.int p0)])) _
    refine XS.iushr X24.here hx rfl (hb hby at_88) rfl ?_
    show Steps p.tables e below (T24.setTop (mkF m 89 #[.val (.int p0), .val (.int p1), .val (.int p2), .val (.int p3), .val (.ref b1), .unset, .unset, .unset, .unset, .unset, .unset, .unset] [(.int ((p3.toUInt32 >>> ((3 : Int32) &&& 31).toUInt32).toInt32)), (.int p0)])) _
    refine XS.iconst X24.here hx rfl (hb hby at_89) ?_
    show Steps p.tables e below (T24.setTop (mkF m 90 #[.val (.int p0), .val (.int p1), .val (.int p2), .val (.int p3), .val (.ref b1), .unset, .unset, .unset, .unset, .unset, .unset, .unset] [(.int (3 : Int32)), (.int ((p3.toUInt32 >>> ((3 : Int32) &&& 31).toUInt32).toInt32)), (.int p0)])) _
    refine XS.iand X24.here hx rfl (hb hby at_90) rfl ?_
    show Steps p.tables e below (T24.setTop (mkF m 91 #[.val (.int p0), .val (.int p1), .val (.int p2), .val (.int p3), .val (.ref b1), .unset, .unset, .unset, .unset, .unset, .unset, .unset] [(.int (((p3.toUInt32 >>> ((3 : Int32) &&& 31).toUInt32).toInt32) &&& (3 : Int32))), (.int p0)])) _
    refine st27 _ ?_
    show Steps p.tables e below (T27.setTop (mkF m 94 #[.val (.int p0), .val (.int p1), .val (.int p2), .val (.int p3), .val (.ref b1), .unset, .unset, .unset, .unset, .unset, .unset, .unset] [(.int (f1 p0 (((p3.toUInt32 >>> ((3 : Int32) &&& 31).toUInt32).toInt32) &&& (3 : Int32))))])) _
    refine XS.istore X27.here hx rfl (hb hby at_94) rfl (l' := #[.val (.int p0), .val (.int p1), .val (.int p2), .val (.int p3), .val (.ref b1), .val (.int (gend p0 p3)), .unset, .unset, .unset, .unset, .unset, .unset]) rfl ?_
    show Steps p.tables e below (T27.setTop (mkF m 96 #[.val (.int p0), .val (.int p1), .val (.int p2), .val (.int p3), .val (.ref b1), .val (.int (gend p0 p3)), .unset, .unset, .unset, .unset, .unset, .unset] [])) _
    refine XS.iloadN X27.here hx rfl (hb hby at_96) rfl ?_
    show Steps p.tables e below (T27.setTop (mkF m 97 #[.val (.int p0), .val (.int p1), .val (.int p2), .val (.int p3), .val (.ref b1), .val (.int (gend p0 p3)), .unset, .unset, .unset, .unset, .unset, .unset] [(.int p3)])) _
    refine XS.bipush X27.here hx rfl (hb hby at_97) ?_
    show Steps p.tables e below (T27.setTop (mkF m 99 #[.val (.int p0), .val (.int p1), .val (.int p2), .val (.int p3), .val (.ref b1), .val (.int (gend p0 p3)), .unset, .unset, .unset, .unset, .unset, .unset] [(.int (7 : Int32)), (.int p3)])) _
    refine XS.iand X27.here hx rfl (hb hby at_99) rfl ?_
    show Steps p.tables e below (T27.setTop (mkF m 100 #[.val (.int p0), .val (.int p1), .val (.int p2), .val (.int p3), .val (.ref b1), .val (.int (gend p0 p3)), .unset, .unset, .unset, .unset, .unset, .unset] [(.int (p3 &&& (7 : Int32)))])) _
    refine XS.istore X27.here hx rfl (hb hby at_100) rfl (l' := #[.val (.int p0), .val (.int p1), .val (.int p2), .val (.int p3), .val (.ref b1), .val (.int (gend p0 p3)), .val (.int (gat p3)), .unset, .unset, .unset, .unset, .unset]) rfl ?_
    show Steps p.tables e below (T27.setTop (mkF m 102 #[.val (.int p0), .val (.int p1), .val (.int p2), .val (.int p3), .val (.ref b1), .val (.int (gend p0 p3)), .val (.int (gat p3)), .unset, .unset, .unset, .unset, .unset] [])) _
    refine XS.iloadN X27.here hx rfl (hb hby at_102) rfl ?_
    show Steps p.tables e below (T27.setTop (mkF m 103 #[.val (.int p0), .val (.int p1), .val (.int p2), .val (.int p3), .val (.ref b1), .val (.int (gend p0 p3)), .val (.int (gat p3)), .unset, .unset, .unset, .unset, .unset] [(.int p3)])) _
    refine XS.iconst X27.here hx rfl (hb hby at_103) ?_
    show Steps p.tables e below (T27.setTop (mkF m 104 #[.val (.int p0), .val (.int p1), .val (.int p2), .val (.int p3), .val (.ref b1), .val (.int (gend p0 p3)), .val (.int (gat p3)), .unset, .unset, .unset, .unset, .unset] [(.int (5 : Int32)), (.int p3)])) _
    refine XS.iushr X27.here hx rfl (hb hby at_104) rfl ?_
    show Steps p.tables e below (T27.setTop (mkF m 105 #[.val (.int p0), .val (.int p1), .val (.int p2), .val (.int p3), .val (.ref b1), .val (.int (gend p0 p3)), .val (.int (gat p3)), .unset, .unset, .unset, .unset, .unset] [(.int ((p3.toUInt32 >>> ((5 : Int32) &&& 31).toUInt32).toInt32))])) _
    refine XS.bipush X27.here hx rfl (hb hby at_105) ?_
    show Steps p.tables e below (T27.setTop (mkF m 107 #[.val (.int p0), .val (.int p1), .val (.int p2), .val (.int p3), .val (.ref b1), .val (.int (gend p0 p3)), .val (.int (gat p3)), .unset, .unset, .unset, .unset, .unset] [(.int (7 : Int32)), (.int ((p3.toUInt32 >>> ((5 : Int32) &&& 31).toUInt32).toInt32))])) _
    refine XS.iand X27.here hx rfl (hb hby at_107) rfl ?_
    show Steps p.tables e below (T27.setTop (mkF m 108 #[.val (.int p0), .val (.int p1), .val (.int p2), .val (.int p3), .val (.ref b1), .val (.int (gend p0 p3)), .val (.int (gat p3)), .unset, .unset, .unset, .unset, .unset] [(.int (((p3.toUInt32 >>> ((5 : Int32) &&& 31).toUInt32).toInt32) &&& (7 : Int32)))])) _
    refine XS.iconst X27.here hx rfl (hb hby at_108) ?_
    show Steps p.tables e below (T27.setTop (mkF m 109 #[.val (.int p0), .val (.int p1), .val (.int p2), .val (.int p3), .val (.ref b1), .val (.int (gend p0 p3)), .val (.int (gat p3)), .unset, .unset, .unset, .unset, .unset] [(.int (5 : Int32)), (.int (((p3.toUInt32 >>> ((5 : Int32) &&& 31).toUInt32).toInt32) &&& (7 : Int32)))])) _
    refine iremM X27 hx rfl (hb hby at_109) rfl (by decide) ?_
    show Steps p.tables e below (T27.setTop (mkF m 110 #[.val (.int p0), .val (.int p1), .val (.int p2), .val (.int p3), .val (.ref b1), .val (.int (gend p0 p3)), .val (.int (gat p3)), .unset, .unset, .unset, .unset, .unset] [(.int ((((p3.toUInt32 >>> ((5 : Int32) &&& 31).toUInt32).toInt32) &&& (7 : Int32)) % (5 : Int32)))])) _
    refine XS.istore X27.here hx rfl (hb hby at_110) rfl (l' := #[.val (.int p0), .val (.int p1), .val (.int p2), .val (.int p3), .val (.ref b1), .val (.int (gend p0 p3)), .val (.int (gat p3)), .val (.int (gul p3)), .unset, .unset, .unset, .unset]) rfl ?_
    show Steps p.tables e below (T27.setTop (mkF m 112 #[.val (.int p0), .val (.int p1), .val (.int p2), .val (.int p3), .val (.ref b1), .val (.int (gend p0 p3)), .val (.int (gat p3)), .val (.int (gul p3)), .unset, .unset, .unset, .unset] [])) _
    refine XS.iconst X27.here hx rfl (hb hby at_112) ?_
    show Steps p.tables e below (T27.setTop (mkF m 113 #[.val (.int p0), .val (.int p1), .val (.int p2), .val (.int p3), .val (.ref b1), .val (.int (gend p0 p3)), .val (.int (gat p3)), .val (.int (gul p3)), .unset, .unset, .unset, .unset] [(.int (4 : Int32))])) _
    refine st28 _ ?_
    show Steps p.tables e below (T28.setTop (mkF m 115 #[.val (.int p0), .val (.int p1), .val (.int p2), .val (.int p3), .val (.ref b1), .val (.int (gend p0 p3)), .val (.int (gat p3)), .val (.int (gul p3)), .unset, .unset, .unset, .unset] [(.ref b28)])) _
    refine XS.astore X28.here hx rfl (hb hby at_115) rfl rfl (l' := #[.val (.int p0), .val (.int p1), .val (.int p2), .val (.int p3), .val (.ref b1), .val (.int (gend p0 p3)), .val (.int (gat p3)), .val (.int (gul p3)), .val (.ref b28), .unset, .unset, .unset]) rfl ?_
    show Steps p.tables e below (T28.setTop (mkF m 117 #[.val (.int p0), .val (.int p1), .val (.int p2), .val (.int p3), .val (.ref b1), .val (.int (gend p0 p3)), .val (.int (gat p3)), .val (.int (gul p3)), .val (.ref b28), .unset, .unset, .unset] [])) _
    refine XS.aload X28.here hx rfl (hb hby at_117) rfl rfl ?_
    show Steps p.tables e below (T28.setTop (mkF m 119 #[.val (.int p0), .val (.int p1), .val (.int p2), .val (.int p3), .val (.ref b1), .val (.int (gend p0 p3)), .val (.int (gat p3)), .val (.int (gul p3)), .val (.ref b28), .unset, .unset, .unset] [(.ref b28)])) _
    refine XS.iconst X28.here hx rfl (hb hby at_119) ?_
    show Steps p.tables e below (T28.setTop (mkF m 120 #[.val (.int p0), .val (.int p1), .val (.int p2), .val (.int p3), .val (.ref b1), .val (.int (gend p0 p3)), .val (.int (gat p3)), .val (.int (gul p3)), .val (.ref b28), .unset, .unset, .unset] [(.int (0 : Int32)), (.ref b28)])) _
    refine XS.iloadN X28.here hx rfl (hb hby at_120) rfl ?_
    show Steps p.tables e below (T28.setTop (mkF m 121 #[.val (.int p0), .val (.int p1), .val (.int p2), .val (.int p3), .val (.ref b1), .val (.int (gend p0 p3)), .val (.int (gat p3)), .val (.int (gul p3)), .val (.ref b28), .unset, .unset, .unset] [(.int p2), (.int (0 : Int32)), (.ref b28)])) _
    refine XS.i2b X28.here hx rfl (hb hby at_121) rfl ?_
    show Steps p.tables e below (T28.setTop (mkF m 122 #[.val (.int p0), .val (.int p1), .val (.int p2), .val (.int p3), .val (.ref b1), .val (.int (gend p0 p3)), .val (.int (gat p3)), .val (.int (gul p3)), .val (.ref b28), .unset, .unset, .unset] [(.int (p2.toInt8.toInt32)), (.int (0 : Int32)), (.ref b28)])) _
    refine st33 _ ?_
    show Steps p.tables e below (T33.setTop (mkF m 123 #[.val (.int p0), .val (.int p1), .val (.int p2), .val (.int p3), .val (.ref b1), .val (.int (gend p0 p3)), .val (.int (gat p3)), .val (.int (gul p3)), .val (.ref b28), .unset, .unset, .unset] [])) _
    refine XS.aload X33.here hx rfl (hb hby at_123) rfl rfl ?_
    show Steps p.tables e below (T33.setTop (mkF m 125 #[.val (.int p0), .val (.int p1), .val (.int p2), .val (.int p3), .val (.ref b1), .val (.int (gend p0 p3)), .val (.int (gat p3)), .val (.int (gul p3)), .val (.ref b28), .unset, .unset, .unset] [(.ref b28)])) _
    refine XS.iconst X33.here hx rfl (hb hby at_125) ?_
    show Steps p.tables e below (T33.setTop (mkF m 126 #[.val (.int p0), .val (.int p1), .val (.int p2), .val (.int p3), .val (.ref b1), .val (.int (gend p0 p3)), .val (.int (gat p3)), .val (.int (gul p3)), .val (.ref b28), .unset, .unset, .unset] [(.int (1 : Int32)), (.ref b28)])) _
    refine XS.iloadN X33.here hx rfl (hb hby at_126) rfl ?_
    show Steps p.tables e below (T33.setTop (mkF m 127 #[.val (.int p0), .val (.int p1), .val (.int p2), .val (.int p3), .val (.ref b1), .val (.int (gend p0 p3)), .val (.int (gat p3)), .val (.int (gul p3)), .val (.ref b28), .unset, .unset, .unset] [(.int p2), (.int (1 : Int32)), (.ref b28)])) _
    refine XS.bipush X33.here hx rfl (hb hby at_127) ?_
    show Steps p.tables e below (T33.setTop (mkF m 129 #[.val (.int p0), .val (.int p1), .val (.int p2), .val (.int p3), .val (.ref b1), .val (.int (gend p0 p3)), .val (.int (gat p3)), .val (.int (gul p3)), .val (.ref b28), .unset, .unset, .unset] [(.int (8 : Int32)), (.int p2), (.int (1 : Int32)), (.ref b28)])) _
    refine XS.ishr X33.here hx rfl (hb hby at_129) rfl ?_
    show Steps p.tables e below (T33.setTop (mkF m 130 #[.val (.int p0), .val (.int p1), .val (.int p2), .val (.int p3), .val (.ref b1), .val (.int (gend p0 p3)), .val (.int (gat p3)), .val (.int (gul p3)), .val (.ref b28), .unset, .unset, .unset] [(.int (p2 >>> ((8 : Int32) &&& 31))), (.int (1 : Int32)), (.ref b28)])) _
    refine XS.i2b X33.here hx rfl (hb hby at_130) rfl ?_
    show Steps p.tables e below (T33.setTop (mkF m 131 #[.val (.int p0), .val (.int p1), .val (.int p2), .val (.int p3), .val (.ref b1), .val (.int (gend p0 p3)), .val (.int (gat p3)), .val (.int (gul p3)), .val (.ref b28), .unset, .unset, .unset] [(.int ((p2 >>> ((8 : Int32) &&& 31)).toInt8.toInt32)), (.int (1 : Int32)), (.ref b28)])) _
    refine st38 _ ?_
    show Steps p.tables e below (T38.setTop (mkF m 132 #[.val (.int p0), .val (.int p1), .val (.int p2), .val (.int p3), .val (.ref b1), .val (.int (gend p0 p3)), .val (.int (gat p3)), .val (.int (gul p3)), .val (.ref b28), .unset, .unset, .unset] [])) _
    refine XS.aload X38.here hx rfl (hb hby at_132) rfl rfl ?_
    show Steps p.tables e below (T38.setTop (mkF m 134 #[.val (.int p0), .val (.int p1), .val (.int p2), .val (.int p3), .val (.ref b1), .val (.int (gend p0 p3)), .val (.int (gat p3)), .val (.int (gul p3)), .val (.ref b28), .unset, .unset, .unset] [(.ref b28)])) _
    refine XS.iconst X38.here hx rfl (hb hby at_134) ?_
    show Steps p.tables e below (T38.setTop (mkF m 135 #[.val (.int p0), .val (.int p1), .val (.int p2), .val (.int p3), .val (.ref b1), .val (.int (gend p0 p3)), .val (.int (gat p3)), .val (.int (gul p3)), .val (.ref b28), .unset, .unset, .unset] [(.int (2 : Int32)), (.ref b28)])) _
    refine XS.iloadN X38.here hx rfl (hb hby at_135) rfl ?_
    show Steps p.tables e below (T38.setTop (mkF m 136 #[.val (.int p0), .val (.int p1), .val (.int p2), .val (.int p3), .val (.ref b1), .val (.int (gend p0 p3)), .val (.int (gat p3)), .val (.int (gul p3)), .val (.ref b28), .unset, .unset, .unset] [(.int p2), (.int (2 : Int32)), (.ref b28)])) _
    refine XS.bipush X38.here hx rfl (hb hby at_136) ?_
    show Steps p.tables e below (T38.setTop (mkF m 138 #[.val (.int p0), .val (.int p1), .val (.int p2), .val (.int p3), .val (.ref b1), .val (.int (gend p0 p3)), .val (.int (gat p3)), .val (.int (gul p3)), .val (.ref b28), .unset, .unset, .unset] [(.int (16 : Int32)), (.int p2), (.int (2 : Int32)), (.ref b28)])) _
    refine XS.ishr X38.here hx rfl (hb hby at_138) rfl ?_
    show Steps p.tables e below (T38.setTop (mkF m 139 #[.val (.int p0), .val (.int p1), .val (.int p2), .val (.int p3), .val (.ref b1), .val (.int (gend p0 p3)), .val (.int (gat p3)), .val (.int (gul p3)), .val (.ref b28), .unset, .unset, .unset] [(.int (p2 >>> ((16 : Int32) &&& 31))), (.int (2 : Int32)), (.ref b28)])) _
    refine XS.i2b X38.here hx rfl (hb hby at_139) rfl ?_
    show Steps p.tables e below (T38.setTop (mkF m 140 #[.val (.int p0), .val (.int p1), .val (.int p2), .val (.int p3), .val (.ref b1), .val (.int (gend p0 p3)), .val (.int (gat p3)), .val (.int (gul p3)), .val (.ref b28), .unset, .unset, .unset] [(.int ((p2 >>> ((16 : Int32) &&& 31)).toInt8.toInt32)), (.int (2 : Int32)), (.ref b28)])) _
    refine st43 _ ?_
    show Steps p.tables e below (T43.setTop (mkF m 141 #[.val (.int p0), .val (.int p1), .val (.int p2), .val (.int p3), .val (.ref b1), .val (.int (gend p0 p3)), .val (.int (gat p3)), .val (.int (gul p3)), .val (.ref b28), .unset, .unset, .unset] [])) _
    refine XS.aload X43.here hx rfl (hb hby at_141) rfl rfl ?_
    show Steps p.tables e below (T43.setTop (mkF m 143 #[.val (.int p0), .val (.int p1), .val (.int p2), .val (.int p3), .val (.ref b1), .val (.int (gend p0 p3)), .val (.int (gat p3)), .val (.int (gul p3)), .val (.ref b28), .unset, .unset, .unset] [(.ref b28)])) _
    refine XS.iconst X43.here hx rfl (hb hby at_143) ?_
    show Steps p.tables e below (T43.setTop (mkF m 144 #[.val (.int p0), .val (.int p1), .val (.int p2), .val (.int p3), .val (.ref b1), .val (.int (gend p0 p3)), .val (.int (gat p3)), .val (.int (gul p3)), .val (.ref b28), .unset, .unset, .unset] [(.int (3 : Int32)), (.ref b28)])) _
    refine XS.iloadN X43.here hx rfl (hb hby at_144) rfl ?_
    show Steps p.tables e below (T43.setTop (mkF m 145 #[.val (.int p0), .val (.int p1), .val (.int p2), .val (.int p3), .val (.ref b1), .val (.int (gend p0 p3)), .val (.int (gat p3)), .val (.int (gul p3)), .val (.ref b28), .unset, .unset, .unset] [(.int p2), (.int (3 : Int32)), (.ref b28)])) _
    refine XS.bipush X43.here hx rfl (hb hby at_145) ?_
    show Steps p.tables e below (T43.setTop (mkF m 147 #[.val (.int p0), .val (.int p1), .val (.int p2), .val (.int p3), .val (.ref b1), .val (.int (gend p0 p3)), .val (.int (gat p3)), .val (.int (gul p3)), .val (.ref b28), .unset, .unset, .unset] [(.int (24 : Int32)), (.int p2), (.int (3 : Int32)), (.ref b28)])) _
    refine XS.ishr X43.here hx rfl (hb hby at_147) rfl ?_
    show Steps p.tables e below (T43.setTop (mkF m 148 #[.val (.int p0), .val (.int p1), .val (.int p2), .val (.int p3), .val (.ref b1), .val (.int (gend p0 p3)), .val (.int (gat p3)), .val (.int (gul p3)), .val (.ref b28), .unset, .unset, .unset] [(.int (p2 >>> ((24 : Int32) &&& 31))), (.int (3 : Int32)), (.ref b28)])) _
    refine XS.i2b X43.here hx rfl (hb hby at_148) rfl ?_
    show Steps p.tables e below (T43.setTop (mkF m 149 #[.val (.int p0), .val (.int p1), .val (.int p2), .val (.int p3), .val (.ref b1), .val (.int (gend p0 p3)), .val (.int (gat p3)), .val (.int (gul p3)), .val (.ref b28), .unset, .unset, .unset] [(.int ((p2 >>> ((24 : Int32) &&& 31)).toInt8.toInt32)), (.int (3 : Int32)), (.ref b28)])) _
    refine st48 _ ?_
    show Steps p.tables e below (T48.setTop (mkF m 150 #[.val (.int p0), .val (.int p1), .val (.int p2), .val (.int p3), .val (.ref b1), .val (.int (gend p0 p3)), .val (.int (gat p3)), .val (.int (gul p3)), .val (.ref b28), .unset, .unset, .unset] [])) _
    refine XS.iload X48.here hx rfl (hb hby at_150) rfl ?_
    exact kt
  by_cases hc54 : (gul p3) = (0 : Int32)
  · skip
    obtain ⟨T55, h55, X55, e55, E55, A55, B55, st55⟩ := iaNewE X48 hx hZ (hw _ (List.mem_of_getElem? (i := 0) rfl)) e48 (g := (mkF m 156 #[.val (.int p0), .val (.int p1), .val (.int p2), .val (.int p3), .val (.ref b1), .val (.int (gend p0 p3)), .val (.int (gat p3)), .val (.int (gul p3)), .val (.ref b28), .unset, .unset, .unset] [(.int (0 : Int32))])) rfl (hb hby at_156) rfl 0 (by decide) 0 (Nat.le_refl _) (by decide) (by decide) (by decide) rfl (by decide) (ad := "[B") (by decide)
    obtain ⟨b55, g55⟩ : ∃ z, z = h48.size := ⟨_, rfl⟩
    rw [← g55] at A55 B55 st55
    have ne56 : b1 ≠ b55 := Nat.ne_of_lt (Nat.lt_of_lt_of_le G49.lt (Nat.le_of_eq g55.symm))
    have ne57 : b28 ≠ b55 := Nat.ne_of_lt (Nat.lt_of_lt_of_le G51.lt (Nat.le_of_eq g55.symm))
    have gn55 : n0 ≤ b55 := Nat.le_trans Z48 (Nat.le_of_eq g55.symm)
    have Z55 : n0 ≤ h55.size := Nat.le_trans Z48 E55.1
    have G58 : Exa Z h55 b1 "[B" := G49.ext E55
    have G59 : Ia Z h55 b1 .byte 6 fh := G50.ext E55
    have G60 : Exa Z h55 b28 "[B" := G51.ext E55
    have G61 : Ia Z h55 b28 .byte 4 fq := Afq.ext E55
    have G62 : Ia Z h55 b55 .byte 0 (fun _ => (0 : Int32)) := A55
    have K63 : ∀ t, Steps p.tables e below (T55.setTop (mkF m 280 #[.val (.int p0), .val (.int p1), .val (.int p2), .val (.int p3), .val (.ref b1), .val (.int (gend p0 p3)), .val (.int (gat p3)), .val (.int (gul p3)), .val (.ref b28), .val (.ref b55), .unset, .unset] [])) t → Steps p.tables e below (s₁.setTop (mkF m 0 #[.val (.int p0), .val (.int p1), .val (.int p2), .val (.int p3), .unset, .unset, .unset, .unset, .unset, .unset, .unset, .unset] [])) t := by
      intro t kt
      refine K53 _ ?_
      show Steps p.tables e below (T48.setTop (mkF m 152 #[.val (.int p0), .val (.int p1), .val (.int p2), .val (.int p3), .val (.ref b1), .val (.int (gend p0 p3)), .val (.int (gat p3)), .val (.int (gul p3)), .val (.ref b28), .unset, .unset, .unset] [(.int (gul p3))])) _
      refine XS.ifNo X48.here hx rfl (hb hby at_152) rfl ((if0 _ _).trans (teq hc54).2) ?_
      show Steps p.tables e below (T48.setTop (mkF m 155 #[.val (.int p0), .val (.int p1), .val (.int p2), .val (.int p3), .val (.ref b1), .val (.int (gend p0 p3)), .val (.int (gat p3)), .val (.int (gul p3)), .val (.ref b28), .unset, .unset, .unset] [])) _
      refine XS.iconst X48.here hx rfl (hb hby at_155) ?_
      show Steps p.tables e below (T48.setTop (mkF m 156 #[.val (.int p0), .val (.int p1), .val (.int p2), .val (.int p3), .val (.ref b1), .val (.int (gend p0 p3)), .val (.int (gat p3)), .val (.int (gul p3)), .val (.ref b28), .unset, .unset, .unset] [(.int (0 : Int32))])) _
      refine st55 _ ?_
      show Steps p.tables e below (T55.setTop (mkF m 158 #[.val (.int p0), .val (.int p1), .val (.int p2), .val (.int p3), .val (.ref b1), .val (.int (gend p0 p3)), .val (.int (gat p3)), .val (.int (gul p3)), .val (.ref b28), .unset, .unset, .unset] [(.ref b55)])) _
      refine XS.astore X55.here hx rfl (hb hby at_158) rfl rfl (l' := #[.val (.int p0), .val (.int p1), .val (.int p2), .val (.int p3), .val (.ref b1), .val (.int (gend p0 p3)), .val (.int (gat p3)), .val (.int (gul p3)), .val (.ref b28), .val (.ref b55), .unset, .unset]) rfl ?_
      show Steps p.tables e below (T55.setTop (mkF m 160 #[.val (.int p0), .val (.int p1), .val (.int p2), .val (.int p3), .val (.ref b1), .val (.int (gend p0 p3)), .val (.int (gat p3)), .val (.int (gul p3)), .val (.ref b28), .val (.ref b55), .unset, .unset] [])) _
      refine XS.goto X55.here hx rfl (pc0 := 160) (pc' := 280) rfl (hb hby at_160) (by decide) (by decide) ?_
      exact kt
    rw [hc54] at K63
    have G64 : Ia Z h55 b55 .byte 0 fq := G62.fun (by intro j hj; exact absurd hj (Nat.not_lt_zero _))
    obtain ⟨_, _, ⟨T65, L65, k65, n65⟩, -, X65, ⟨Lc65, hQ65, l65, y65, z65⟩, st65⟩ := Jvm.LawKit.callS X55 hx (y := (⟨"com/example/benchwire/benchwire/protocols/DelimitedText", "declaredDelimiters", "([BIB[B)[B"⟩ : MethodName)) hown (mvT hZ (hw _ (List.mem_of_getElem? (i := 5) rfl))) (mvT hZ (hw _ (List.mem_of_getElem? (i := 6) rfl))) (mvT hZ (hw _ (List.mem_of_getElem? (i := 7) rfl))) (mvT hZ (hw _ (List.mem_of_getElem? (i := 8) rfl))) (by decide) (backOf (W := 0) (rm2 l Z a0 hw [] b1 (gat p3) (gend p0 p3) b55 fh fq 0 a h55 n0 Z55 G59 G64 B55 (by decide) ha ha7) hZ (hw _ (List.mem_of_getElem? (i := 8) rfl)) (hw _ (List.mem_of_getElem? (i := 7) rfl)) (by decide) (by decide)) (g := (mkF m 288 #[.val (.int p0), .val (.int p1), .val (.int p2), .val (.int p3), .val (.ref b1), .val (.int (gend p0 p3)), .val (.int (gat p3)), .val (.int (0 : Int32)), .val (.ref b28), .val (.ref b55), .unset, .unset] [(.ref b55), (.int (gend p0 p3)), (.int (gat p3)), (.ref b1)])) rfl (by rw [hml]; rfl) (argsL := [(.ref b1), (.int (gat p3)), (.int (gend p0 p3)), (.ref b55)]) (rest := []) (lenOf pd_1 rfl) rfl (by show 2 * 0 + _ ≤ _; exact Nat.le_of_eq rfl) (hb hby at_288) (fun _ _ => ⟨rfl, e55, (by decide : 3 + 1 ≤ _), (by decide : 10 + 4 ≤ _)⟩)
    dsimp only [Pt.U, Pt.locs, Pt.cells, Pt.slots] at X65 l65 y65 z65 st65 hQ65
    subst l65 y65 z65
    obtain ⟨e65b, kk, rfl, N65q, K65q, S65q, DDq, A65q⟩ := hQ65
    have N65 := Fr.app N48 N65q
    have Z65 : n0 ≤ T65.heap.size := Nat.le_trans Z55 K65q.1
    have G66 : Exa Z T65.heap b1 "[B" := G58.keep K65q
    have G67 : Ia Z T65.heap b1 .byte 6 fh := G59.keep K65q nin0
    have G68 : Exa Z T65.heap b28 "[B" := G60.keep K65q
    have G69 : Ia Z T65.heap b28 .byte 4 fq := G61.keep K65q nin0
    have G70 : Exa Z T65.heap b55 "[B" := B55.keep K65q
    have G71 : Ia Z T65.heap b55 .byte 0 fq := G64.keep K65q nin0
    have hok : ∀ j, j < 0 → okP fh a (gend p0 p3) j := by
      intro j hj
      exact absurd hj (Nat.not_lt_zero _)
    obtain rfl : kk = 0 := own_dd DDq (by decide) hok (Or.inl rfl)
    obtain ⟨_, _, ⟨T72, L72, k72, n72⟩, -, X72, ⟨Lc72, hQ72, l72, y72, z72⟩, st72⟩ := Jvm.LawKit.callS X65 hx (y := (⟨"com/example/benchwire/benchwire/protocols/DelimitedTextDeclaredDelimitersPinLaw", "cell", "([B[B[BIII[B)Z"⟩ : MethodName)) hown (mvT hZ (hw _ (List.mem_of_getElem? (i := 18) rfl))) (mvT hZ (hw _ (List.mem_of_getElem? (i := 19) rfl))) (mvT hZ (hw _ (List.mem_of_getElem? (i := 3) rfl))) (mvT hZ (hw _ (List.mem_of_getElem? (i := 20) rfl))) (by decide) (backOf (W := 0) (rm3 l Z a0 hw [] e65b b55 b1 (gat p3) (0 : Int32) (0 : Int32) b28 (fun j => if j < 0 then fh (a + j) else fq j) fq fh fq 0 a 0 T65.heap A65q G71 G67 G69 ha (by decide) ha7 (by decide) (by decide) (fun z => absurd z (by decide))) hZ (hw _ (List.mem_of_getElem? (i := 20) rfl)) (hw _ (List.mem_of_getElem? (i := 3) rfl)) (by decide) (by decide)) (g := (mkF m 416 #[.val (.int p0), .val (.int p1), .val (.int p2), .val (.int p3), .val (.ref b1), .val (.int (gend p0 p3)), .val (.int (gat p3)), .val (.int (0 : Int32)), .val (.ref b28), .val (.ref b55), .val (.ref e65b), .val (.int (0 : Int32))] [(.ref b28), (.int (0 : Int32)), (.int (0 : Int32)), (.int (gat p3)), (.ref b1), (.ref b55), (.ref e65b)])) rfl (by rw [hml]; rfl) (argsL := [(.ref e65b), (.ref b55), (.ref b1), (.int (gat p3)), (.int (0 : Int32)), (.int (0 : Int32)), (.ref b28)]) (rest := []) (lenOf pd_2 rfl) rfl (by show 2 * 0 + _ ≤ _; exact Nat.le_of_eq rfl) (hb hby at_416) (fun _ _ => ⟨rfl, rfl, (by decide : 4 + 0 ≤ _), (by decide : 14 + 0 ≤ _)⟩)
    dsimp only [Pt.U, Pt.locs, Pt.cells, Pt.slots] at X72 l72 y72 z72 st72 hQ72
    subst l72 y72 z72
    obtain ⟨rfl, rfl, e72⟩ := hQ72
    try rw [List.append_nil] at X72
    obtain ⟨_, _, ⟨T73, L73, k73, n73⟩, -, X73, ⟨Lc73, hQ73, l73, y73, z73⟩, st73⟩ := Jvm.LawKit.callS X72 hx (y := (⟨"com/example/benchwire/benchwire/protocols/DelimitedTextDeclaredDelimitersPinLaw", "cell", "([B[B[BIII[B)Z"⟩ : MethodName)) hown (mvT hZ (hw _ (List.mem_of_getElem? (i := 18) rfl))) (mvT hZ (hw _ (List.mem_of_getElem? (i := 19) rfl))) (mvT hZ (hw _ (List.mem_of_getElem? (i := 3) rfl))) (mvT hZ (hw _ (List.mem_of_getElem? (i := 20) rfl))) (by decide) (backOf (W := 0) (rm3 l Z a0 hw [] e65b b55 b1 (gat p3) (0 : Int32) (1 : Int32) b28 (fun j => if j < 0 then fh (a + j) else fq j) fq fh fq 0 a 1 T65.heap A65q G71 G67 G69 ha (by decide) ha7 (by decide) (by decide) (fun z => absurd z (by decide))) hZ (hw _ (List.mem_of_getElem? (i := 20) rfl)) (hw _ (List.mem_of_getElem? (i := 3) rfl)) (by decide) (by decide)) (g := (mkF m 435 #[.val (.int p0), .val (.int p1), .val (.int p2), .val (.int p3), .val (.ref b1), .val (.int (gend p0 p3)), .val (.int (gat p3)), .val (.int (0 : Int32)), .val (.ref b28), .val (.ref b55), .val (.ref e65b), .val (.int (0 : Int32))] [(.ref b28), (.int (1 : Int32)), (.int (0 : Int32)), (.int (gat p3)), (.ref b1), (.ref b55), (.ref e65b)])) rfl (by rw [hml]; rfl) (argsL := [(.ref e65b), (.ref b55), (.ref b1), (.int (gat p3)), (.int (0 : Int32)), (.int (1 : Int32)), (.ref b28)]) (rest := []) (lenOf pd_2 rfl) rfl (by show 2 * 0 + _ ≤ _; exact Nat.le_of_eq rfl) (hb hby at_435) (fun _ _ => ⟨rfl, e72, (by decide : 4 + 0 ≤ _), (by decide : 14 + 0 ≤ _)⟩)
    dsimp only [Pt.U, Pt.locs, Pt.cells, Pt.slots] at X73 l73 y73 z73 st73 hQ73
    subst l73 y73 z73
    obtain ⟨rfl, rfl, e73⟩ := hQ73
    try rw [List.append_nil] at X73
    obtain ⟨_, _, ⟨T74, L74, k74, n74⟩, -, X74, ⟨Lc74, hQ74, l74, y74, z74⟩, st74⟩ := Jvm.LawKit.callS X73 hx (y := (⟨"com/example/benchwire/benchwire/protocols/DelimitedTextDeclaredDelimitersPinLaw", "cell", "([B[B[BIII[B)Z"⟩ : MethodName)) hown (mvT hZ (hw _ (List.mem_of_getElem? (i := 18) rfl))) (mvT hZ (hw _ (List.mem_of_getElem? (i := 19) rfl))) (mvT hZ (hw _ (List.mem_of_getElem? (i := 3) rfl))) (mvT hZ (hw _ (List.mem_of_getElem? (i := 20) rfl))) (by decide) (backOf (W := 0) (rm3 l Z a0 hw [] e65b b55 b1 (gat p3) (0 : Int32) (2 : Int32) b28 (fun j => if j < 0 then fh (a + j) else fq j) fq fh fq 0 a 2 T65.heap A65q G71 G67 G69 ha (by decide) ha7 (by decide) (by decide) (fun z => absurd z (by decide))) hZ (hw _ (List.mem_of_getElem? (i := 20) rfl)) (hw _ (List.mem_of_getElem? (i := 3) rfl)) (by decide) (by decide)) (g := (mkF m 454 #[.val (.int p0), .val (.int p1), .val (.int p2), .val (.int p3), .val (.ref b1), .val (.int (gend p0 p3)), .val (.int (gat p3)), .val (.int (0 : Int32)), .val (.ref b28), .val (.ref b55), .val (.ref e65b), .val (.int (0 : Int32))] [(.ref b28), (.int (2 : Int32)), (.int (0 : Int32)), (.int (gat p3)), (.ref b1), (.ref b55), (.ref e65b)])) rfl (by rw [hml]; rfl) (argsL := [(.ref e65b), (.ref b55), (.ref b1), (.int (gat p3)), (.int (0 : Int32)), (.int (2 : Int32)), (.ref b28)]) (rest := []) (lenOf pd_2 rfl) rfl (by show 2 * 0 + _ ≤ _; exact Nat.le_of_eq rfl) (hb hby at_454) (fun _ _ => ⟨rfl, e73, (by decide : 4 + 0 ≤ _), (by decide : 14 + 0 ≤ _)⟩)
    dsimp only [Pt.U, Pt.locs, Pt.cells, Pt.slots] at X74 l74 y74 z74 st74 hQ74
    subst l74 y74 z74
    obtain ⟨rfl, rfl, e74⟩ := hQ74
    try rw [List.append_nil] at X74
    obtain ⟨_, _, ⟨T75, L75, k75, n75⟩, -, X75, ⟨Lc75, hQ75, l75, y75, z75⟩, st75⟩ := Jvm.LawKit.callS X74 hx (y := (⟨"com/example/benchwire/benchwire/protocols/DelimitedTextDeclaredDelimitersPinLaw", "cell", "([B[B[BIII[B)Z"⟩ : MethodName)) hown (mvT hZ (hw _ (List.mem_of_getElem? (i := 18) rfl))) (mvT hZ (hw _ (List.mem_of_getElem? (i := 19) rfl))) (mvT hZ (hw _ (List.mem_of_getElem? (i := 3) rfl))) (mvT hZ (hw _ (List.mem_of_getElem? (i := 20) rfl))) (by decide) (backOf (W := 0) (rm3 l Z a0 hw [] e65b b55 b1 (gat p3) (0 : Int32) (3 : Int32) b28 (fun j => if j < 0 then fh (a + j) else fq j) fq fh fq 0 a 3 T65.heap A65q G71 G67 G69 ha (by decide) ha7 (by decide) (by decide) (fun z => absurd z (by decide))) hZ (hw _ (List.mem_of_getElem? (i := 20) rfl)) (hw _ (List.mem_of_getElem? (i := 3) rfl)) (by decide) (by decide)) (g := (mkF m 473 #[.val (.int p0), .val (.int p1), .val (.int p2), .val (.int p3), .val (.ref b1), .val (.int (gend p0 p3)), .val (.int (gat p3)), .val (.int (0 : Int32)), .val (.ref b28), .val (.ref b55), .val (.ref e65b), .val (.int (0 : Int32))] [(.ref b28), (.int (3 : Int32)), (.int (0 : Int32)), (.int (gat p3)), (.ref b1), (.ref b55), (.ref e65b)])) rfl (by rw [hml]; rfl) (argsL := [(.ref e65b), (.ref b55), (.ref b1), (.int (gat p3)), (.int (0 : Int32)), (.int (3 : Int32)), (.ref b28)]) (rest := []) (lenOf pd_2 rfl) rfl (by show 2 * 0 + _ ≤ _; exact Nat.le_of_eq rfl) (hb hby at_473) (fun _ _ => ⟨rfl, e74, (by decide : 4 + 0 ≤ _), (by decide : 14 + 0 ≤ _)⟩)
    dsimp only [Pt.U, Pt.locs, Pt.cells, Pt.slots] at X75 l75 y75 z75 st75 hQ75
    subst l75 y75 z75
    obtain ⟨rfl, rfl, e75⟩ := hQ75
    try rw [List.append_nil] at X75
    have K76 : ∀ t, Steps p.tables e below (T75.setTop (mkF m 484 #[.val (.int p0), .val (.int p1), .val (.int p2), .val (.int p3), .val (.ref b1), .val (.int (gend p0 p3)), .val (.int (gat p3)), .val (.int (0 : Int32)), .val (.ref b28), .val (.ref b55), .val (.ref e65b), .val (.int (0 : Int32))] [(.int (1 : Int32))])) t → Steps p.tables e below (s₁.setTop (mkF m 0 #[.val (.int p0), .val (.int p1), .val (.int p2), .val (.int p3), .unset, .unset, .unset, .unset, .unset, .unset, .unset, .unset] [])) t := by
      intro t kt
      refine K63 _ ?_
      show Steps p.tables e below (T55.setTop (mkF m 280 #[.val (.int p0), .val (.int p1), .val (.int p2), .val (.int p3), .val (.ref b1), .val (.int (gend p0 p3)), .val (.int (gat p3)), .val (.int (0 : Int32)), .val (.ref b28), .val (.ref b55), .unset, .unset] [])) _
      refine XS.aload X55.here hx rfl (hb hby at_280) rfl rfl ?_
      show Steps p.tables e below (T55.setTop (mkF m 282 #[.val (.int p0), .val (.int p1), .val (.int p2), .val (.int p3), .val (.ref b1), .val (.int (gend p0 p3)), .val (.int (gat p3)), .val (.int (0 : Int32)), .val (.ref b28), .val (.ref b55), .unset, .unset] [(.ref b1)])) _
      refine XS.iload X55.here hx rfl (hb hby at_282) rfl ?_
      show Steps p.tables e below (T55.setTop (mkF m 284 #[.val (.int p0), .val (.int p1), .val (.int p2), .val (.int p3), .val (.ref b1), .val (.int (gend p0 p3)), .val (.int (gat p3)), .val (.int (0 : Int32)), .val (.ref b28), .val (.ref b55), .unset, .unset] [(.int (gat p3)), (.ref b1)])) _
      refine XS.iload X55.here hx rfl (hb hby at_284) rfl ?_
      show Steps p.tables e below (T55.setTop (mkF m 286 #[.val (.int p0), .val (.int p1), .val (.int p2), .val (.int p3), .val (.ref b1), .val (.int (gend p0 p3)), .val (.int (gat p3)), .val (.int (0 : Int32)), .val (.ref b28), .val (.ref b55), .unset, .unset] [(.int (gend p0 p3)), (.int (gat p3)), (.ref b1)])) _
      refine XS.aload X55.here hx rfl (hb hby at_286) rfl rfl ?_
      show Steps p.tables e below (T55.setTop (mkF m 288 #[.val (.int p0), .val (.int p1), .val (.int p2), .val (.int p3), .val (.ref b1), .val (.int (gend p0 p3)), .val (.int (gat p3)), .val (.int (0 : Int32)), .val (.ref b28), .val (.ref b55), .unset, .unset] [(.ref b55), (.int (gend p0 p3)), (.int (gat p3)), (.ref b1)])) _
      refine st65 _ ?_
      show Steps p.tables e below (T65.setTop (mkF m 291 #[.val (.int p0), .val (.int p1), .val (.int p2), .val (.int p3), .val (.ref b1), .val (.int (gend p0 p3)), .val (.int (gat p3)), .val (.int (0 : Int32)), .val (.ref b28), .val (.ref b55), .unset, .unset] [(.ref e65b)])) _
      refine XS.astore X65.here hx rfl (hb hby at_291) rfl rfl (l' := #[.val (.int p0), .val (.int p1), .val (.int p2), .val (.int p3), .val (.ref b1), .val (.int (gend p0 p3)), .val (.int (gat p3)), .val (.int (0 : Int32)), .val (.ref b28), .val (.ref b55), .val (.ref e65b), .unset]) rfl ?_
      show Steps p.tables e below (T65.setTop (mkF m 293 #[.val (.int p0), .val (.int p1), .val (.int p2), .val (.int p3), .val (.ref b1), .val (.int (gend p0 p3)), .val (.int (gat p3)), .val (.int (0 : Int32)), .val (.ref b28), .val (.ref b55), .val (.ref e65b), .unset] [])) _
      refine XS.aload X65.here hx rfl (hb hby at_293) rfl rfl ?_
      show Steps p.tables e below (T65.setTop (mkF m 295 #[.val (.int p0), .val (.int p1), .val (.int p2), .val (.int p3), .val (.ref b1), .val (.int (gend p0 p3)), .val (.int (gat p3)), .val (.int (0 : Int32)), .val (.ref b28), .val (.ref b55), .val (.ref e65b), .unset] [(.ref e65b)])) _
      refine XS.ifnullNo X65.here hx rfl (hb hby at_295) rfl ?_
      show Steps p.tables e below (T65.setTop (mkF m 298 #[.val (.int p0), .val (.int p1), .val (.int p2), .val (.int p3), .val (.ref b1), .val (.int (gend p0 p3)), .val (.int (gat p3)), .val (.int (0 : Int32)), .val (.ref b28), .val (.ref b55), .val (.ref e65b), .unset] [])) _
      refine XS.aload X65.here hx rfl (hb hby at_298) rfl rfl ?_
      show Steps p.tables e below (T65.setTop (mkF m 300 #[.val (.int p0), .val (.int p1), .val (.int p2), .val (.int p3), .val (.ref b1), .val (.int (gend p0 p3)), .val (.int (gat p3)), .val (.int (0 : Int32)), .val (.ref b28), .val (.ref b55), .val (.ref e65b), .unset] [(.ref e65b)])) _
      refine iaLen X65 hx hZ rfl A65q (g := (mkF m 300 #[.val (.int p0), .val (.int p1), .val (.int p2), .val (.int p3), .val (.ref b1), .val (.int (gend p0 p3)), .val (.int (gat p3)), .val (.int (0 : Int32)), .val (.ref b28), .val (.ref b55), .val (.ref e65b), .unset] [(.ref e65b)])) rfl rfl (hb hby at_300) _ ?_
      show Steps p.tables e below (T65.setTop (mkF m 301 #[.val (.int p0), .val (.int p1), .val (.int p2), .val (.int p3), .val (.ref b1), .val (.int (gend p0 p3)), .val (.int (gat p3)), .val (.int (0 : Int32)), .val (.ref b28), .val (.ref b55), .val (.ref e65b), .unset] [(.int (0 : Int32))])) _
      refine XS.iload X65.here hx rfl (hb hby at_301) rfl ?_
      show Steps p.tables e below (T65.setTop (mkF m 303 #[.val (.int p0), .val (.int p1), .val (.int p2), .val (.int p3), .val (.ref b1), .val (.int (gend p0 p3)), .val (.int (gat p3)), .val (.int (0 : Int32)), .val (.ref b28), .val (.ref b55), .val (.ref e65b), .unset] [(.int (0 : Int32)), (.int (0 : Int32))])) _
      refine XS.icmpYes X65.here hx rfl (pc0 := 303) (pc' := 308) rfl (hb hby at_303) rfl (teq (rfl : (0 : Int32) = (0 : Int32))).1 (by decide) (by decide) ?_
      show Steps p.tables e below (T65.setTop (mkF m 308 #[.val (.int p0), .val (.int p1), .val (.int p2), .val (.int p3), .val (.ref b1), .val (.int (gend p0 p3)), .val (.int (gat p3)), .val (.int (0 : Int32)), .val (.ref b28), .val (.ref b55), .val (.ref e65b), .unset] [])) _
      refine XS.iconst X65.here hx rfl (hb hby at_308) ?_
      show Steps p.tables e below (T65.setTop (mkF m 309 #[.val (.int p0), .val (.int p1), .val (.int p2), .val (.int p3), .val (.ref b1), .val (.int (gend p0 p3)), .val (.int (gat p3)), .val (.int (0 : Int32)), .val (.ref b28), .val (.ref b55), .val (.ref e65b), .unset] [(.int (0 : Int32))])) _
      refine XS.istore X65.here hx rfl (hb hby at_309) rfl (l' := #[.val (.int p0), .val (.int p1), .val (.int p2), .val (.int p3), .val (.ref b1), .val (.int (gend p0 p3)), .val (.int (gat p3)), .val (.int (0 : Int32)), .val (.ref b28), .val (.ref b55), .val (.ref e65b), .val (.int (0 : Int32))]) rfl ?_
      show Steps p.tables e below (T65.setTop (mkF m 311 #[.val (.int p0), .val (.int p1), .val (.int p2), .val (.int p3), .val (.ref b1), .val (.int (gend p0 p3)), .val (.int (gat p3)), .val (.int (0 : Int32)), .val (.ref b28), .val (.ref b55), .val (.ref e65b), .val (.int (0 : Int32))] [])) _
      refine XS.iload X65.here hx rfl (hb hby at_311) rfl ?_
      show Steps p.tables e below (T65.setTop (mkF m 313 #[.val (.int p0), .val (.int p1), .val (.int p2), .val (.int p3), .val (.ref b1), .val (.int (gend p0 p3)), .val (.int (gat p3)), .val (.int (0 : Int32)), .val (.ref b28), .val (.ref b55), .val (.ref e65b), .val (.int (0 : Int32))] [(.int (0 : Int32))])) _
      refine XS.iload X65.here hx rfl (hb hby at_313) rfl ?_
      show Steps p.tables e below (T65.setTop (mkF m 315 #[.val (.int p0), .val (.int p1), .val (.int p2), .val (.int p3), .val (.ref b1), .val (.int (gend p0 p3)), .val (.int (gat p3)), .val (.int (0 : Int32)), .val (.ref b28), .val (.ref b55), .val (.ref e65b), .val (.int (0 : Int32))] [(.int (0 : Int32)), (.int (0 : Int32))])) _
      refine XS.icmpYes X65.here hx rfl (pc0 := 315) (pc' := 403) rfl (hb hby at_315) rfl (flt (by decide : ¬ ((0 : Int32) < (0 : Int32)))).2.1 (by decide) (by decide) ?_
      show Steps p.tables e below (T65.setTop (mkF m 403 #[.val (.int p0), .val (.int p1), .val (.int p2), .val (.int p3), .val (.ref b1), .val (.int (gend p0 p3)), .val (.int (gat p3)), .val (.int (0 : Int32)), .val (.ref b28), .val (.ref b55), .val (.ref e65b), .val (.int (0 : Int32))] [])) _
      refine XS.aload X65.here hx rfl (hb hby at_403) rfl rfl ?_
      show Steps p.tables e below (T65.setTop (mkF m 405 #[.val (.int p0), .val (.int p1), .val (.int p2), .val (.int p3), .val (.ref b1), .val (.int (gend p0 p3)), .val (.int (gat p3)), .val (.int (0 : Int32)), .val (.ref b28), .val (.ref b55), .val (.ref e65b), .val (.int (0 : Int32))] [(.ref e65b)])) _
      refine XS.aload X65.here hx rfl (hb hby at_405) rfl rfl ?_
      show Steps p.tables e below (T65.setTop (mkF m 407 #[.val (.int p0), .val (.int p1), .val (.int p2), .val (.int p3), .val (.ref b1), .val (.int (gend p0 p3)), .val (.int (gat p3)), .val (.int (0 : Int32)), .val (.ref b28), .val (.ref b55), .val (.ref e65b), .val (.int (0 : Int32))] [(.ref b55), (.ref e65b)])) _
      refine XS.aload X65.here hx rfl (hb hby at_407) rfl rfl ?_
      show Steps p.tables e below (T65.setTop (mkF m 409 #[.val (.int p0), .val (.int p1), .val (.int p2), .val (.int p3), .val (.ref b1), .val (.int (gend p0 p3)), .val (.int (gat p3)), .val (.int (0 : Int32)), .val (.ref b28), .val (.ref b55), .val (.ref e65b), .val (.int (0 : Int32))] [(.ref b1), (.ref b55), (.ref e65b)])) _
      refine XS.iload X65.here hx rfl (hb hby at_409) rfl ?_
      show Steps p.tables e below (T65.setTop (mkF m 411 #[.val (.int p0), .val (.int p1), .val (.int p2), .val (.int p3), .val (.ref b1), .val (.int (gend p0 p3)), .val (.int (gat p3)), .val (.int (0 : Int32)), .val (.ref b28), .val (.ref b55), .val (.ref e65b), .val (.int (0 : Int32))] [(.int (gat p3)), (.ref b1), (.ref b55), (.ref e65b)])) _
      refine XS.iload X65.here hx rfl (hb hby at_411) rfl ?_
      show Steps p.tables e below (T65.setTop (mkF m 413 #[.val (.int p0), .val (.int p1), .val (.int p2), .val (.int p3), .val (.ref b1), .val (.int (gend p0 p3)), .val (.int (gat p3)), .val (.int (0 : Int32)), .val (.ref b28), .val (.ref b55), .val (.ref e65b), .val (.int (0 : Int32))] [(.int (0 : Int32)), (.int (gat p3)), (.ref b1), (.ref b55), (.ref e65b)])) _
      refine XS.iconst X65.here hx rfl (hb hby at_413) ?_
      show Steps p.tables e below (T65.setTop (mkF m 414 #[.val (.int p0), .val (.int p1), .val (.int p2), .val (.int p3), .val (.ref b1), .val (.int (gend p0 p3)), .val (.int (gat p3)), .val (.int (0 : Int32)), .val (.ref b28), .val (.ref b55), .val (.ref e65b), .val (.int (0 : Int32))] [(.int (0 : Int32)), (.int (0 : Int32)), (.int (gat p3)), (.ref b1), (.ref b55), (.ref e65b)])) _
      refine XS.aload X65.here hx rfl (hb hby at_414) rfl rfl ?_
      show Steps p.tables e below (T65.setTop (mkF m 416 #[.val (.int p0), .val (.int p1), .val (.int p2), .val (.int p3), .val (.ref b1), .val (.int (gend p0 p3)), .val (.int (gat p3)), .val (.int (0 : Int32)), .val (.ref b28), .val (.ref b55), .val (.ref e65b), .val (.int (0 : Int32))] [(.ref b28), (.int (0 : Int32)), (.int (0 : Int32)), (.int (gat p3)), (.ref b1), (.ref b55), (.ref e65b)])) _
      refine st72 _ ?_
      show Steps p.tables e below (T72.setTop (mkF m 419 #[.val (.int p0), .val (.int p1), .val (.int p2), .val (.int p3), .val (.ref b1), .val (.int (gend p0 p3)), .val (.int (gat p3)), .val (.int (0 : Int32)), .val (.ref b28), .val (.ref b55), .val (.ref e65b), .val (.int (0 : Int32))] [(.int (f3 (gat p3) (0 : Int32) (0 : Int32) (fun j => if j < 0 then fh (a + j) else fq j) fq fh fq 0 a 0))])) _
      refine XS.ifNo X72.here hx rfl (hb hby at_419) rfl ((if0 _ _).trans (feq (show ¬ ((f3 (gat p3) (0 : Int32) (0 : Int32) (fun j => if j < 0 then fh (a + j) else fq j) fq fh fq 0 a 0) = (0 : Int32)) from (own_cell (K := 0) (i := 0) rfl rfl (by decide) (by decide) (fun j hj => rfl) (fun j hj => rfl)))).1) ?_
      show Steps p.tables e below (T72.setTop (mkF m 422 #[.val (.int p0), .val (.int p1), .val (.int p2), .val (.int p3), .val (.ref b1), .val (.int (gend p0 p3)), .val (.int (gat p3)), .val (.int (0 : Int32)), .val (.ref b28), .val (.ref b55), .val (.ref e65b), .val (.int (0 : Int32))] [])) _
      refine XS.aload X72.here hx rfl (hb hby at_422) rfl rfl ?_
      show Steps p.tables e below (T72.setTop (mkF m 424 #[.val (.int p0), .val (.int p1), .val (.int p2), .val (.int p3), .val (.ref b1), .val (.int (gend p0 p3)), .val (.int (gat p3)), .val (.int (0 : Int32)), .val (.ref b28), .val (.ref b55), .val (.ref e65b), .val (.int (0 : Int32))] [(.ref e65b)])) _
      refine XS.aload X72.here hx rfl (hb hby at_424) rfl rfl ?_
      show Steps p.tables e below (T72.setTop (mkF m 426 #[.val (.int p0), .val (.int p1), .val (.int p2), .val (.int p3), .val (.ref b1), .val (.int (gend p0 p3)), .val (.int (gat p3)), .val (.int (0 : Int32)), .val (.ref b28), .val (.ref b55), .val (.ref e65b), .val (.int (0 : Int32))] [(.ref b55), (.ref e65b)])) _
      refine XS.aload X72.here hx rfl (hb hby at_426) rfl rfl ?_
      show Steps p.tables e below (T72.setTop (mkF m 428 #[.val (.int p0), .val (.int p1), .val (.int p2), .val (.int p3), .val (.ref b1), .val (.int (gend p0 p3)), .val (.int (gat p3)), .val (.int (0 : Int32)), .val (.ref b28), .val (.ref b55), .val (.ref e65b), .val (.int (0 : Int32))] [(.ref b1), (.ref b55), (.ref e65b)])) _
      refine XS.iload X72.here hx rfl (hb hby at_428) rfl ?_
      show Steps p.tables e below (T72.setTop (mkF m 430 #[.val (.int p0), .val (.int p1), .val (.int p2), .val (.int p3), .val (.ref b1), .val (.int (gend p0 p3)), .val (.int (gat p3)), .val (.int (0 : Int32)), .val (.ref b28), .val (.ref b55), .val (.ref e65b), .val (.int (0 : Int32))] [(.int (gat p3)), (.ref b1), (.ref b55), (.ref e65b)])) _
      refine XS.iload X72.here hx rfl (hb hby at_430) rfl ?_
      show Steps p.tables e below (T72.setTop (mkF m 432 #[.val (.int p0), .val (.int p1), .val (.int p2), .val (.int p3), .val (.ref b1), .val (.int (gend p0 p3)), .val (.int (gat p3)), .val (.int (0 : Int32)), .val (.ref b28), .val (.ref b55), .val (.ref e65b), .val (.int (0 : Int32))] [(.int (0 : Int32)), (.int (gat p3)), (.ref b1), (.ref b55), (.ref e65b)])) _
      refine XS.iconst X72.here hx rfl (hb hby at_432) ?_
      show Steps p.tables e below (T72.setTop (mkF m 433 #[.val (.int p0), .val (.int p1), .val (.int p2), .val (.int p3), .val (.ref b1), .val (.int (gend p0 p3)), .val (.int (gat p3)), .val (.int (0 : Int32)), .val (.ref b28), .val (.ref b55), .val (.ref e65b), .val (.int (0 : Int32))] [(.int (1 : Int32)), (.int (0 : Int32)), (.int (gat p3)), (.ref b1), (.ref b55), (.ref e65b)])) _
      refine XS.aload X72.here hx rfl (hb hby at_433) rfl rfl ?_
      show Steps p.tables e below (T72.setTop (mkF m 435 #[.val (.int p0), .val (.int p1), .val (.int p2), .val (.int p3), .val (.ref b1), .val (.int (gend p0 p3)), .val (.int (gat p3)), .val (.int (0 : Int32)), .val (.ref b28), .val (.ref b55), .val (.ref e65b), .val (.int (0 : Int32))] [(.ref b28), (.int (1 : Int32)), (.int (0 : Int32)), (.int (gat p3)), (.ref b1), (.ref b55), (.ref e65b)])) _
      refine st73 _ ?_
      show Steps p.tables e below (T73.setTop (mkF m 438 #[.val (.int p0), .val (.int p1), .val (.int p2), .val (.int p3), .val (.ref b1), .val (.int (gend p0 p3)), .val (.int (gat p3)), .val (.int (0 : Int32)), .val (.ref b28), .val (.ref b55), .val (.ref e65b), .val (.int (0 : Int32))] [(.int (f3 (gat p3) (0 : Int32) (1 : Int32) (fun j => if j < 0 then fh (a + j) else fq j) fq fh fq 0 a 1))])) _
      refine XS.ifNo X73.here hx rfl (hb hby at_438) rfl ((if0 _ _).trans (feq (show ¬ ((f3 (gat p3) (0 : Int32) (1 : Int32) (fun j => if j < 0 then fh (a + j) else fq j) fq fh fq 0 a 1) = (0 : Int32)) from (own_cell (K := 0) (i := 1) rfl rfl (by decide) (by decide) (fun j hj => rfl) (fun j hj => rfl)))).1) ?_
      show Steps p.tables e below (T73.setTop (mkF m 441 #[.val (.int p0), .val (.int p1), .val (.int p2), .val (.int p3), .val (.ref b1), .val (.int (gend p0 p3)), .val (.int (gat p3)), .val (.int (0 : Int32)), .val (.ref b28), .val (.ref b55), .val (.ref e65b), .val (.int (0 : Int32))] [])) _
      refine XS.aload X73.here hx rfl (hb hby at_441) rfl rfl ?_
      show Steps p.tables e below (T73.setTop (mkF m 443 #[.val (.int p0), .val (.int p1), .val (.int p2), .val (.int p3), .val (.ref b1), .val (.int (gend p0 p3)), .val (.int (gat p3)), .val (.int (0 : Int32)), .val (.ref b28), .val (.ref b55), .val (.ref e65b), .val (.int (0 : Int32))] [(.ref e65b)])) _
      refine XS.aload X73.here hx rfl (hb hby at_443) rfl rfl ?_
      show Steps p.tables e below (T73.setTop (mkF m 445 #[.val (.int p0), .val (.int p1), .val (.int p2), .val (.int p3), .val (.ref b1), .val (.int (gend p0 p3)), .val (.int (gat p3)), .val (.int (0 : Int32)), .val (.ref b28), .val (.ref b55), .val (.ref e65b), .val (.int (0 : Int32))] [(.ref b55), (.ref e65b)])) _
      refine XS.aload X73.here hx rfl (hb hby at_445) rfl rfl ?_
      show Steps p.tables e below (T73.setTop (mkF m 447 #[.val (.int p0), .val (.int p1), .val (.int p2), .val (.int p3), .val (.ref b1), .val (.int (gend p0 p3)), .val (.int (gat p3)), .val (.int (0 : Int32)), .val (.ref b28), .val (.ref b55), .val (.ref e65b), .val (.int (0 : Int32))] [(.ref b1), (.ref b55), (.ref e65b)])) _
      refine XS.iload X73.here hx rfl (hb hby at_447) rfl ?_
      show Steps p.tables e below (T73.setTop (mkF m 449 #[.val (.int p0), .val (.int p1), .val (.int p2), .val (.int p3), .val (.ref b1), .val (.int (gend p0 p3)), .val (.int (gat p3)), .val (.int (0 : Int32)), .val (.ref b28), .val (.ref b55), .val (.ref e65b), .val (.int (0 : Int32))] [(.int (gat p3)), (.ref b1), (.ref b55), (.ref e65b)])) _
      refine XS.iload X73.here hx rfl (hb hby at_449) rfl ?_
      show Steps p.tables e below (T73.setTop (mkF m 451 #[.val (.int p0), .val (.int p1), .val (.int p2), .val (.int p3), .val (.ref b1), .val (.int (gend p0 p3)), .val (.int (gat p3)), .val (.int (0 : Int32)), .val (.ref b28), .val (.ref b55), .val (.ref e65b), .val (.int (0 : Int32))] [(.int (0 : Int32)), (.int (gat p3)), (.ref b1), (.ref b55), (.ref e65b)])) _
      refine XS.iconst X73.here hx rfl (hb hby at_451) ?_
      show Steps p.tables e below (T73.setTop (mkF m 452 #[.val (.int p0), .val (.int p1), .val (.int p2), .val (.int p3), .val (.ref b1), .val (.int (gend p0 p3)), .val (.int (gat p3)), .val (.int (0 : Int32)), .val (.ref b28), .val (.ref b55), .val (.ref e65b), .val (.int (0 : Int32))] [(.int (2 : Int32)), (.int (0 : Int32)), (.int (gat p3)), (.ref b1), (.ref b55), (.ref e65b)])) _
      refine XS.aload X73.here hx rfl (hb hby at_452) rfl rfl ?_
      show Steps p.tables e below (T73.setTop (mkF m 454 #[.val (.int p0), .val (.int p1), .val (.int p2), .val (.int p3), .val (.ref b1), .val (.int (gend p0 p3)), .val (.int (gat p3)), .val (.int (0 : Int32)), .val (.ref b28), .val (.ref b55), .val (.ref e65b), .val (.int (0 : Int32))] [(.ref b28), (.int (2 : Int32)), (.int (0 : Int32)), (.int (gat p3)), (.ref b1), (.ref b55), (.ref e65b)])) _
      refine st74 _ ?_
      show Steps p.tables e below (T74.setTop (mkF m 457 #[.val (.int p0), .val (.int p1), .val (.int p2), .val (.int p3), .val (.ref b1), .val (.int (gend p0 p3)), .val (.int (gat p3)), .val (.int (0 : Int32)), .val (.ref b28), .val (.ref b55), .val (.ref e65b), .val (.int (0 : Int32))] [(.int (f3 (gat p3) (0 : Int32) (2 : Int32) (fun j => if j < 0 then fh (a + j) else fq j) fq fh fq 0 a 2))])) _
      refine XS.ifNo X74.here hx rfl (hb hby at_457) rfl ((if0 _ _).trans (feq (show ¬ ((f3 (gat p3) (0 : Int32) (2 : Int32) (fun j => if j < 0 then fh (a + j) else fq j) fq fh fq 0 a 2) = (0 : Int32)) from (own_cell (K := 0) (i := 2) rfl rfl (by decide) (by decide) (fun j hj => rfl) (fun j hj => rfl)))).1) ?_
      show Steps p.tables e below (T74.setTop (mkF m 460 #[.val (.int p0), .val (.int p1), .val (.int p2), .val (.int p3), .val (.ref b1), .val (.int (gend p0 p3)), .val (.int (gat p3)), .val (.int (0 : Int32)), .val (.ref b28), .val (.ref b55), .val (.ref e65b), .val (.int (0 : Int32))] [])) _
      refine XS.aload X74.here hx rfl (hb hby at_460) rfl rfl ?_
      show Steps p.tables e below (T74.setTop (mkF m 462 #[.val (.int p0), .val (.int p1), .val (.int p2), .val (.int p3), .val (.ref b1), .val (.int (gend p0 p3)), .val (.int (gat p3)), .val (.int (0 : Int32)), .val (.ref b28), .val (.ref b55), .val (.ref e65b), .val (.int (0 : Int32))] [(.ref e65b)])) _
      refine XS.aload X74.here hx rfl (hb hby at_462) rfl rfl ?_
      show Steps p.tables e below (T74.setTop (mkF m 464 #[.val (.int p0), .val (.int p1), .val (.int p2), .val (.int p3), .val (.ref b1), .val (.int (gend p0 p3)), .val (.int (gat p3)), .val (.int (0 : Int32)), .val (.ref b28), .val (.ref b55), .val (.ref e65b), .val (.int (0 : Int32))] [(.ref b55), (.ref e65b)])) _
      refine XS.aload X74.here hx rfl (hb hby at_464) rfl rfl ?_
      show Steps p.tables e below (T74.setTop (mkF m 466 #[.val (.int p0), .val (.int p1), .val (.int p2), .val (.int p3), .val (.ref b1), .val (.int (gend p0 p3)), .val (.int (gat p3)), .val (.int (0 : Int32)), .val (.ref b28), .val (.ref b55), .val (.ref e65b), .val (.int (0 : Int32))] [(.ref b1), (.ref b55), (.ref e65b)])) _
      refine XS.iload X74.here hx rfl (hb hby at_466) rfl ?_
      show Steps p.tables e below (T74.setTop (mkF m 468 #[.val (.int p0), .val (.int p1), .val (.int p2), .val (.int p3), .val (.ref b1), .val (.int (gend p0 p3)), .val (.int (gat p3)), .val (.int (0 : Int32)), .val (.ref b28), .val (.ref b55), .val (.ref e65b), .val (.int (0 : Int32))] [(.int (gat p3)), (.ref b1), (.ref b55), (.ref e65b)])) _
      refine XS.iload X74.here hx rfl (hb hby at_468) rfl ?_
      show Steps p.tables e below (T74.setTop (mkF m 470 #[.val (.int p0), .val (.int p1), .val (.int p2), .val (.int p3), .val (.ref b1), .val (.int (gend p0 p3)), .val (.int (gat p3)), .val (.int (0 : Int32)), .val (.ref b28), .val (.ref b55), .val (.ref e65b), .val (.int (0 : Int32))] [(.int (0 : Int32)), (.int (gat p3)), (.ref b1), (.ref b55), (.ref e65b)])) _
      refine XS.iconst X74.here hx rfl (hb hby at_470) ?_
      show Steps p.tables e below (T74.setTop (mkF m 471 #[.val (.int p0), .val (.int p1), .val (.int p2), .val (.int p3), .val (.ref b1), .val (.int (gend p0 p3)), .val (.int (gat p3)), .val (.int (0 : Int32)), .val (.ref b28), .val (.ref b55), .val (.ref e65b), .val (.int (0 : Int32))] [(.int (3 : Int32)), (.int (0 : Int32)), (.int (gat p3)), (.ref b1), (.ref b55), (.ref e65b)])) _
      refine XS.aload X74.here hx rfl (hb hby at_471) rfl rfl ?_
      show Steps p.tables e below (T74.setTop (mkF m 473 #[.val (.int p0), .val (.int p1), .val (.int p2), .val (.int p3), .val (.ref b1), .val (.int (gend p0 p3)), .val (.int (gat p3)), .val (.int (0 : Int32)), .val (.ref b28), .val (.ref b55), .val (.ref e65b), .val (.int (0 : Int32))] [(.ref b28), (.int (3 : Int32)), (.int (0 : Int32)), (.int (gat p3)), (.ref b1), (.ref b55), (.ref e65b)])) _
      refine st75 _ ?_
      show Steps p.tables e below (T75.setTop (mkF m 476 #[.val (.int p0), .val (.int p1), .val (.int p2), .val (.int p3), .val (.ref b1), .val (.int (gend p0 p3)), .val (.int (gat p3)), .val (.int (0 : Int32)), .val (.ref b28), .val (.ref b55), .val (.ref e65b), .val (.int (0 : Int32))] [(.int (f3 (gat p3) (0 : Int32) (3 : Int32) (fun j => if j < 0 then fh (a + j) else fq j) fq fh fq 0 a 3))])) _
      refine XS.ifNo X75.here hx rfl (hb hby at_476) rfl ((if0 _ _).trans (feq (show ¬ ((f3 (gat p3) (0 : Int32) (3 : Int32) (fun j => if j < 0 then fh (a + j) else fq j) fq fh fq 0 a 3) = (0 : Int32)) from (own_cell (K := 0) (i := 3) rfl rfl (by decide) (by decide) (fun j hj => rfl) (fun j hj => rfl)))).1) ?_
      show Steps p.tables e below (T75.setTop (mkF m 479 #[.val (.int p0), .val (.int p1), .val (.int p2), .val (.int p3), .val (.ref b1), .val (.int (gend p0 p3)), .val (.int (gat p3)), .val (.int (0 : Int32)), .val (.ref b28), .val (.ref b55), .val (.ref e65b), .val (.int (0 : Int32))] [])) _
      refine XS.iconst X75.here hx rfl (hb hby at_479) ?_
      show Steps p.tables e below (T75.setTop (mkF m 480 #[.val (.int p0), .val (.int p1), .val (.int p2), .val (.int p3), .val (.ref b1), .val (.int (gend p0 p3)), .val (.int (gat p3)), .val (.int (0 : Int32)), .val (.ref b28), .val (.ref b55), .val (.ref e65b), .val (.int (0 : Int32))] [(.int (1 : Int32))])) _
      refine XS.goto X75.here hx rfl (pc0 := 480) (pc' := 484) rfl (hb hby at_480) (by decide) (by decide) ?_
      exact kt
    obtain ⟨fsQ, hr, hrun, hended, hW, hsame⟩ := X75.leave (v := some (.int (1 : Int32))) (fun h => by rw [Bd.returns] at h; cases h)
    refine ⟨_, _, pre0 _ (K76 _ ?_), hrun, hended, _, _, rfl, ?_, ⟨_, rfl⟩, hW, hsame.mono (by decide) (by decide)⟩
    · show Steps p.tables e below (T75.setTop (mkF m 484 #[.val (.int p0), .val (.int p1), .val (.int p2), .val (.int p3), .val (.ref b1), .val (.int (gend p0 p3)), .val (.int (gat p3)), .val (.int (0 : Int32)), .val (.ref b28), .val (.ref b55), .val (.ref e65b), .val (.int (0 : Int32))] [(.int (1 : Int32))])) _
      exact retN X75 hx (t := .boolean) Bd.returns (by simp) (hb hby at_484) hr
    · show Q0 Z p0 p1 p2 p3  h0 n0 _ T75.heap _
      rw [e75]
      exact ⟨rfl, N65⟩
  · skip
    have K77 : ∀ t, Steps p.tables e below (T48.setTop (mkF m 166 #[.val (.int p0), .val (.int p1), .val (.int p2), .val (.int p3), .val (.ref b1), .val (.int (gend p0 p3)), .val (.int (gat p3)), .val (.int (gul p3)), .val (.ref b28), .unset, .unset, .unset] [(.int (1 : Int32)), (.int (gul p3))])) t → Steps p.tables e below (s₁.setTop (mkF m 0 #[.val (.int p0), .val (.int p1), .val (.int p2), .val (.int p3), .unset, .unset, .unset, .unset, .unset, .unset, .unset, .unset] [])) t := by
      intro t kt
      refine K53 _ ?_
      show Steps p.tables e below (T48.setTop (mkF m 152 #[.val (.int p0), .val (.int p1), .val (.int p2), .val (.int p3), .val (.ref b1), .val (.int (gend p0 p3)), .val (.int (gat p3)), .val (.int (gul p3)), .val (.ref b28), .unset, .unset, .unset] [(.int (gul p3))])) _
      refine XS.ifYes X48.here hx rfl (pc0 := 152) (pc' := 163) rfl (hb hby at_152) rfl ((if0 _ _).trans (feq hc54).2) (by decide) (by decide) ?_
      show Steps p.tables e below (T48.setTop (mkF m 163 #[.val (.int p0), .val (.int p1), .val (.int p2), .val (.int p3), .val (.ref b1), .val (.int (gend p0 p3)), .val (.int (gat p3)), .val (.int (gul p3)), .val (.ref b28), .unset, .unset, .unset] [])) _
      refine XS.iload X48.here hx rfl (hb hby at_163) rfl ?_
      show Steps p.tables e below (T48.setTop (mkF m 165 #[.val (.int p0), .val (.int p1), .val (.int p2), .val (.int p3), .val (.ref b1), .val (.int (gend p0 p3)), .val (.int (gat p3)), .val (.int (gul p3)), .val (.ref b28), .unset, .unset, .unset] [(.int (gul p3))])) _
      refine XS.iconst X48.here hx rfl (hb hby at_165) ?_
      exact kt
    by_cases hc78 : (gul p3) = (1 : Int32)
    · skip
      obtain ⟨T79, h79, X79, e79, E79, A79, B79, st79⟩ := iaNewE X48 hx hZ (hw _ (List.mem_of_getElem? (i := 0) rfl)) e48 (g := (mkF m 170 #[.val (.int p0), .val (.int p1), .val (.int p2), .val (.int p3), .val (.ref b1), .val (.int (gend p0 p3)), .val (.int (gat p3)), .val (.int (gul p3)), .val (.ref b28), .unset, .unset, .unset] [(.int (1 : Int32))])) rfl (hb hby at_170) rfl 1 (by decide) 1 (Nat.le_refl _) (by decide) (by decide) (by decide) rfl (by decide) (ad := "[B") (by decide)
      obtain ⟨b79, g79⟩ : ∃ z, z = h48.size := ⟨_, rfl⟩
      rw [← g79] at A79 B79 st79
      have ne80 : b1 ≠ b79 := Nat.ne_of_lt (Nat.lt_of_lt_of_le G49.lt (Nat.le_of_eq g79.symm))
      have ne81 : b28 ≠ b79 := Nat.ne_of_lt (Nat.lt_of_lt_of_le G51.lt (Nat.le_of_eq g79.symm))
      have gn79 : n0 ≤ b79 := Nat.le_trans Z48 (Nat.le_of_eq g79.symm)
      have Z79 : n0 ≤ h79.size := Nat.le_trans Z48 E79.1
      have G82 : Exa Z h79 b1 "[B" := G49.ext E79
      have G83 : Ia Z h79 b1 .byte 6 fh := G50.ext E79
      have G84 : Exa Z h79 b28 "[B" := G51.ext E79
      have G85 : Ia Z h79 b28 .byte 4 fq := Afq.ext E79
      have G86 : Ia Z h79 b79 .byte 1 (fun _ => (0 : Int32)) := A79
      obtain ⟨T87, h87, X87, e87, W87, A87, st87⟩ := iaB X79 hx hZ e79 G86 (j := (0 : Int32)) 0 (by decide) (by decide) (g := (mkF m 178 #[.val (.int p0), .val (.int p1), .val (.int p2), .val (.int p3), .val (.ref b1), .val (.int (gend p0 p3)), .val (.int (gat p3)), .val (.int (gul p3)), .val (.ref b28), .unset, .unset, .unset] [(.int (fq 0)), (.int (0 : Int32)), (.ref b79), (.ref b79)])) rfl rfl (hb hby at_178)
      have G88 : Exa Z h87 b1 "[B" := G82.wr W87
      have G89 : Ia Z h87 b1 .byte 6 fh := G83.other W87 ne80
      have G90 : Exa Z h87 b28 "[B" := G84.wr W87
      have G91 : Ia Z h87 b28 .byte 4 fq := G85.other W87 ne81
      have G92 : Exa Z h87 b79 "[B" := B79.wr W87
      have G93 : Ia Z h87 b79 .byte 1 (up (fun _ => (0 : Int32)) 0 (nar .byte (fq 0))) := A87
      have Z87 : n0 ≤ h87.size := Nat.le_trans Z79 (Keep.of_wr W87).1
      have N87 := Fr.snoc X87 N48 gn79
      have K94 : ∀ t, Steps p.tables e below (T87.setTop (mkF m 280 #[.val (.int p0), .val (.int p1), .val (.int p2), .val (.int p3), .val (.ref b1), .val (.int (gend p0 p3)), .val (.int (gat p3)), .val (.int (gul p3)), .val (.ref b28), .val (.ref b79), .unset, .unset] [])) t → Steps p.tables e below (s₁.setTop (mkF m 0 #[.val (.int p0), .val (.int p1), .val (.int p2), .val (.int p3), .unset, .unset, .unset, .unset, .unset, .unset, .unset, .unset] [])) t := by
        intro t kt
        refine K77 _ ?_
        show Steps p.tables e below (T48.setTop (mkF m 166 #[.val (.int p0), .val (.int p1), .val (.int p2), .val (.int p3), .val (.ref b1), .val (.int (gend p0 p3)), .val (.int (gat p3)), .val (.int (gul p3)), .val (.ref b28), .unset, .unset, .unset] [(.int (1 : Int32)), (.int (gul p3))])) _
        refine XS.icmpNo X48.here hx rfl (hb hby at_166) rfl (teq hc78).2 ?_
        show Steps p.tables e below (T48.setTop (mkF m 169 #[.val (.int p0), .val (.int p1), .val (.int p2), .val (.int p3), .val (.ref b1), .val (.int (gend p0 p3)), .val (.int (gat p3)), .val (.int (gul p3)), .val (.ref b28), .unset, .unset, .unset] [])) _
        refine XS.iconst X48.here hx rfl (hb hby at_169) ?_
        show Steps p.tables e below (T48.setTop (mkF m 170 #[.val (.int p0), .val (.int p1), .val (.int p2), .val (.int p3), .val (.ref b1), .val (.int (gend p0 p3)), .val (.int (gat p3)), .val (.int (gul p3)), .val (.ref b28), .unset, .unset, .unset] [(.int (1 : Int32))])) _
        refine st79 _ ?_
        show Steps p.tables e below (T79.setTop (mkF m 172 #[.val (.int p0), .val (.int p1), .val (.int p2), .val (.int p3), .val (.ref b1), .val (.int (gend p0 p3)), .val (.int (gat p3)), .val (.int (gul p3)), .val (.ref b28), .unset, .unset, .unset] [(.ref b79)])) _
        refine XS.dup X79.here hx rfl (hb hby at_172) rfl rfl ?_
        show Steps p.tables e below (T79.setTop (mkF m 173 #[.val (.int p0), .val (.int p1), .val (.int p2), .val (.int p3), .val (.ref b1), .val (.int (gend p0 p3)), .val (.int (gat p3)), .val (.int (gul p3)), .val (.ref b28), .unset, .unset, .unset] [(.ref b79), (.ref b79)])) _
        refine XS.iconst X79.here hx rfl (hb hby at_173) ?_
        show Steps p.tables e below (T79.setTop (mkF m 174 #[.val (.int p0), .val (.int p1), .val (.int p2), .val (.int p3), .val (.ref b1), .val (.int (gend p0 p3)), .val (.int (gat p3)), .val (.int (gul p3)), .val (.ref b28), .unset, .unset, .unset] [(.int (0 : Int32)), (.ref b79), (.ref b79)])) _
        refine XS.aload X79.here hx rfl (hb hby at_174) rfl rfl ?_
        show Steps p.tables e below (T79.setTop (mkF m 176 #[.val (.int p0), .val (.int p1), .val (.int p2), .val (.int p3), .val (.ref b1), .val (.int (gend p0 p3)), .val (.int (gat p3)), .val (.int (gul p3)), .val (.ref b28), .unset, .unset, .unset] [(.ref b28), (.int (0 : Int32)), (.ref b79), (.ref b79)])) _
        refine XS.iconst X79.here hx rfl (hb hby at_176) ?_
        show Steps p.tables e below (T79.setTop (mkF m 177 #[.val (.int p0), .val (.int p1), .val (.int p2), .val (.int p3), .val (.ref b1), .val (.int (gend p0 p3)), .val (.int (gat p3)), .val (.int (gul p3)), .val (.ref b28), .unset, .unset, .unset] [(.int (0 : Int32)), (.ref b28), (.int (0 : Int32)), (.ref b79), (.ref b79)])) _
        refine iaLB X79 hx hZ e79 G85 (j := (0 : Int32)) 0 (by decide) (by decide) (g := (mkF m 177 #[.val (.int p0), .val (.int p1), .val (.int p2), .val (.int p3), .val (.ref b1), .val (.int (gend p0 p3)), .val (.int (gat p3)), .val (.int (gul p3)), .val (.ref b28), .unset, .unset, .unset] [(.int (0 : Int32)), (.ref b28), (.int (0 : Int32)), (.ref b79), (.ref b79)])) rfl rfl (hb hby at_177) _ ?_
        show Steps p.tables e below (T79.setTop (mkF m 178 #[.val (.int p0), .val (.int p1), .val (.int p2), .val (.int p3), .val (.ref b1), .val (.int (gend p0 p3)), .val (.int (gat p3)), .val (.int (gul p3)), .val (.ref b28), .unset, .unset, .unset] [(.int (fq 0)), (.int (0 : Int32)), (.ref b79), (.ref b79)])) _
        refine st87 _ ?_
        show Steps p.tables e below (T87.setTop (mkF m 179 #[.val (.int p0), .val (.int p1), .val (.int p2), .val (.int p3), .val (.ref b1), .val (.int (gend p0 p3)), .val (.int (gat p3)), .val (.int (gul p3)), .val (.ref b28), .unset, .unset, .unset] [(.ref b79)])) _
        refine XS.astore X87.here hx rfl (hb hby at_179) rfl rfl (l' := #[.val (.int p0), .val (.int p1), .val (.int p2), .val (.int p3), .val (.ref b1), .val (.int (gend p0 p3)), .val (.int (gat p3)), .val (.int (gul p3)), .val (.ref b28), .val (.ref b79), .unset, .unset]) rfl ?_
        show Steps p.tables e below (T87.setTop (mkF m 181 #[.val (.int p0), .val (.int p1), .val (.int p2), .val (.int p3), .val (.ref b1), .val (.int (gend p0 p3)), .val (.int (gat p3)), .val (.int (gul p3)), .val (.ref b28), .val (.ref b79), .unset, .unset] [])) _
        refine XS.goto X87.here hx rfl (pc0 := 181) (pc' := 280) rfl (hb hby at_181) (by decide) (by decide) ?_
        exact kt
      rw [hc78] at K94
      have G95 : Ia Z h87 b79 .byte 1 fq := G93.fun (by intro j hj; rcases (by omega : j = 0) with rfl <;> exact own_narb (G91.fit (by decide)))
      obtain ⟨_, _, ⟨T96, L96, k96, n96⟩, -, X96, ⟨Lc96, hQ96, l96, y96, z96⟩, st96⟩ := Jvm.LawKit.callS X87 hx (y := (⟨"com/example/benchwire/benchwire/protocols/DelimitedText", "declaredDelimiters", "([BIB[B)[B"⟩ : MethodName)) hown (mvT hZ (hw _ (List.mem_of_getElem? (i := 5) rfl))) (mvT hZ (hw _ (List.mem_of_getElem? (i := 6) rfl))) (mvT hZ (hw _ (List.mem_of_getElem? (i := 7) rfl))) (mvT hZ (hw _ (List.mem_of_getElem? (i := 8) rfl))) (by decide) (backOf (W := 0) (rm2 l Z a0 hw [] b1 (gat p3) (gend p0 p3) b79 fh fq 1 a h87 n0 Z87 G89 G95 G92 (by decide) ha ha7) hZ (hw _ (List.mem_of_getElem? (i := 8) rfl)) (hw _ (List.mem_of_getElem? (i := 7) rfl)) (by decide) (by decide)) (g := (mkF m 288 #[.val (.int p0), .val (.int p1), .val (.int p2), .val (.int p3), .val (.ref b1), .val (.int (gend p0 p3)), .val (.int (gat p3)), .val (.int (1 : Int32)), .val (.ref b28), .val (.ref b79), .unset, .unset] [(.ref b79), (.int (gend p0 p3)), (.int (gat p3)), (.ref b1)])) rfl (by rw [hml]; rfl) (argsL := [(.ref b1), (.int (gat p3)), (.int (gend p0 p3)), (.ref b79)]) (rest := []) (lenOf pd_1 rfl) rfl (by show 2 * 0 + _ ≤ _; exact Nat.le_of_eq rfl) (hb hby at_288) (fun _ _ => ⟨rfl, e87, (by decide : 3 + 1 ≤ _), (by decide : 11 + 4 ≤ _)⟩)
      dsimp only [Pt.U, Pt.locs, Pt.cells, Pt.slots] at X96 l96 y96 z96 st96 hQ96
      subst l96 y96 z96
      obtain ⟨e96b, kk, rfl, N96q, K96q, S96q, DDq, A96q⟩ := hQ96
      have N96 := Fr.app N87 N96q
      have Z96 : n0 ≤ T96.heap.size := Nat.le_trans Z87 K96q.1
      have G97 : Exa Z T96.heap b1 "[B" := G88.keep K96q
      have G98 : Ia Z T96.heap b1 .byte 6 fh := G89.keep K96q nin0
      have G99 : Exa Z T96.heap b28 "[B" := G90.keep K96q
      have G100 : Ia Z T96.heap b28 .byte 4 fq := G91.keep K96q nin0
      have G101 : Exa Z T96.heap b79 "[B" := G92.keep K96q
      have G102 : Ia Z T96.heap b79 .byte 1 fq := G95.keep K96q nin0
      obtain ⟨_, _, ⟨T103, L103, k103, n103⟩, -, X103, ⟨Lc103, hQ103, l103, y103, z103⟩, st103⟩ := Jvm.LawKit.callS X96 hx (y := (⟨"com/example/benchwire/benchwire/protocols/DelimitedTextDeclaredDelimitersPinLaw", "ok", "([BIIB)Z"⟩ : MethodName)) hown (mvT hZ (hw _ (List.mem_of_getElem? (i := 21) rfl))) (mvT hZ (hw _ (List.mem_of_getElem? (i := 22) rfl))) (mvT hZ (hw _ (List.mem_of_getElem? (i := 3) rfl))) (mvT hZ (hw _ (List.mem_of_getElem? (i := 23) rfl))) (by decide) (backOf (W := 0) (rm4 l Z a0 hw [] b1 (gat p3) (0 : Int32) (gend p0 p3) fh a 0 T96.heap G98 ha (by decide) ha7 (by decide)) hZ (hw _ (List.mem_of_getElem? (i := 23) rfl)) (hw _ (List.mem_of_getElem? (i := 3) rfl)) (by decide) (by decide)) (g := (mkF m 325 #[.val (.int p0), .val (.int p1), .val (.int p2), .val (.int p3), .val (.ref b1), .val (.int (gend p0 p3)), .val (.int (gat p3)), .val (.int (1 : Int32)), .val (.ref b28), .val (.ref b79), .val (.ref e96b), .val (.int (0 : Int32))] [(.int (gend p0 p3)), (.int (0 : Int32)), (.int (gat p3)), (.ref b1)])) rfl (by rw [hml]; rfl) (argsL := [(.ref b1), (.int (gat p3)), (.int (0 : Int32)), (.int (gend p0 p3))]) (rest := []) (lenOf pd_3 rfl) rfl (by show 2 * 0 + _ ≤ _; exact Nat.le_of_eq rfl) (hb hby at_325) (fun _ _ => ⟨rfl, rfl, (by decide : 4 + 0 ≤ _), (by decide : 15 + 0 ≤ _)⟩)
      dsimp only [Pt.U, Pt.locs, Pt.cells, Pt.slots] at X103 l103 y103 z103 st103 hQ103
      subst l103 y103 z103
      obtain ⟨rfl, rfl, e103⟩ := hQ103
      try rw [List.append_nil] at X103
      have K104 : ∀ t, Steps p.tables e below (T103.setTop (mkF m 328 #[.val (.int p0), .val (.int p1), .val (.int p2), .val (.int p3), .val (.ref b1), .val (.int (gend p0 p3)), .val (.int (gat p3)), .val (.int (1 : Int32)), .val (.ref b28), .val (.ref b79), .val (.ref e96b), .val (.int (0 : Int32))] [(.int (f4 (gat p3) (0 : Int32) (gend p0 p3) fh a 0))])) t → Steps p.tables e below (s₁.setTop (mkF m 0 #[.val (.int p0), .val (.int p1), .val (.int p2), .val (.int p3), .unset, .unset, .unset, .unset, .unset, .unset, .unset, .unset] [])) t := by
        intro t kt
        refine K94 _ ?_
        show Steps p.tables e below (T87.setTop (mkF m 280 #[.val (.int p0), .val (.int p1), .val (.int p2), .val (.int p3), .val (.ref b1), .val (.int (gend p0 p3)), .val (.int (gat p3)), .val (.int (1 : Int32)), .val (.ref b28), .val (.ref b79), .unset, .unset] [])) _
        refine XS.aload X87.here hx rfl (hb hby at_280) rfl rfl ?_
        show Steps p.tables e below (T87.setTop (mkF m 282 #[.val (.int p0), .val (.int p1), .val (.int p2), .val (.int p3), .val (.ref b1), .val (.int (gend p0 p3)), .val (.int (gat p3)), .val (.int (1 : Int32)), .val (.ref b28), .val (.ref b79), .unset, .unset] [(.ref b1)])) _
        refine XS.iload X87.here hx rfl (hb hby at_282) rfl ?_
        show Steps p.tables e below (T87.setTop (mkF m 284 #[.val (.int p0), .val (.int p1), .val (.int p2), .val (.int p3), .val (.ref b1), .val (.int (gend p0 p3)), .val (.int (gat p3)), .val (.int (1 : Int32)), .val (.ref b28), .val (.ref b79), .unset, .unset] [(.int (gat p3)), (.ref b1)])) _
        refine XS.iload X87.here hx rfl (hb hby at_284) rfl ?_
        show Steps p.tables e below (T87.setTop (mkF m 286 #[.val (.int p0), .val (.int p1), .val (.int p2), .val (.int p3), .val (.ref b1), .val (.int (gend p0 p3)), .val (.int (gat p3)), .val (.int (1 : Int32)), .val (.ref b28), .val (.ref b79), .unset, .unset] [(.int (gend p0 p3)), (.int (gat p3)), (.ref b1)])) _
        refine XS.aload X87.here hx rfl (hb hby at_286) rfl rfl ?_
        show Steps p.tables e below (T87.setTop (mkF m 288 #[.val (.int p0), .val (.int p1), .val (.int p2), .val (.int p3), .val (.ref b1), .val (.int (gend p0 p3)), .val (.int (gat p3)), .val (.int (1 : Int32)), .val (.ref b28), .val (.ref b79), .unset, .unset] [(.ref b79), (.int (gend p0 p3)), (.int (gat p3)), (.ref b1)])) _
        refine st96 _ ?_
        show Steps p.tables e below (T96.setTop (mkF m 291 #[.val (.int p0), .val (.int p1), .val (.int p2), .val (.int p3), .val (.ref b1), .val (.int (gend p0 p3)), .val (.int (gat p3)), .val (.int (1 : Int32)), .val (.ref b28), .val (.ref b79), .unset, .unset] [(.ref e96b)])) _
        refine XS.astore X96.here hx rfl (hb hby at_291) rfl rfl (l' := #[.val (.int p0), .val (.int p1), .val (.int p2), .val (.int p3), .val (.ref b1), .val (.int (gend p0 p3)), .val (.int (gat p3)), .val (.int (1 : Int32)), .val (.ref b28), .val (.ref b79), .val (.ref e96b), .unset]) rfl ?_
        show Steps p.tables e below (T96.setTop (mkF m 293 #[.val (.int p0), .val (.int p1), .val (.int p2), .val (.int p3), .val (.ref b1), .val (.int (gend p0 p3)), .val (.int (gat p3)), .val (.int (1 : Int32)), .val (.ref b28), .val (.ref b79), .val (.ref e96b), .unset] [])) _
        refine XS.aload X96.here hx rfl (hb hby at_293) rfl rfl ?_
        show Steps p.tables e below (T96.setTop (mkF m 295 #[.val (.int p0), .val (.int p1), .val (.int p2), .val (.int p3), .val (.ref b1), .val (.int (gend p0 p3)), .val (.int (gat p3)), .val (.int (1 : Int32)), .val (.ref b28), .val (.ref b79), .val (.ref e96b), .unset] [(.ref e96b)])) _
        refine XS.ifnullNo X96.here hx rfl (hb hby at_295) rfl ?_
        show Steps p.tables e below (T96.setTop (mkF m 298 #[.val (.int p0), .val (.int p1), .val (.int p2), .val (.int p3), .val (.ref b1), .val (.int (gend p0 p3)), .val (.int (gat p3)), .val (.int (1 : Int32)), .val (.ref b28), .val (.ref b79), .val (.ref e96b), .unset] [])) _
        refine XS.aload X96.here hx rfl (hb hby at_298) rfl rfl ?_
        show Steps p.tables e below (T96.setTop (mkF m 300 #[.val (.int p0), .val (.int p1), .val (.int p2), .val (.int p3), .val (.ref b1), .val (.int (gend p0 p3)), .val (.int (gat p3)), .val (.int (1 : Int32)), .val (.ref b28), .val (.ref b79), .val (.ref e96b), .unset] [(.ref e96b)])) _
        refine iaLen X96 hx hZ rfl A96q (g := (mkF m 300 #[.val (.int p0), .val (.int p1), .val (.int p2), .val (.int p3), .val (.ref b1), .val (.int (gend p0 p3)), .val (.int (gat p3)), .val (.int (1 : Int32)), .val (.ref b28), .val (.ref b79), .val (.ref e96b), .unset] [(.ref e96b)])) rfl rfl (hb hby at_300) _ ?_
        show Steps p.tables e below (T96.setTop (mkF m 301 #[.val (.int p0), .val (.int p1), .val (.int p2), .val (.int p3), .val (.ref b1), .val (.int (gend p0 p3)), .val (.int (gat p3)), .val (.int (1 : Int32)), .val (.ref b28), .val (.ref b79), .val (.ref e96b), .unset] [(.int (1 : Int32))])) _
        refine XS.iload X96.here hx rfl (hb hby at_301) rfl ?_
        show Steps p.tables e below (T96.setTop (mkF m 303 #[.val (.int p0), .val (.int p1), .val (.int p2), .val (.int p3), .val (.ref b1), .val (.int (gend p0 p3)), .val (.int (gat p3)), .val (.int (1 : Int32)), .val (.ref b28), .val (.ref b79), .val (.ref e96b), .unset] [(.int (1 : Int32)), (.int (1 : Int32))])) _
        refine XS.icmpYes X96.here hx rfl (pc0 := 303) (pc' := 308) rfl (hb hby at_303) rfl (teq (rfl : (1 : Int32) = (1 : Int32))).1 (by decide) (by decide) ?_
        show Steps p.tables e below (T96.setTop (mkF m 308 #[.val (.int p0), .val (.int p1), .val (.int p2), .val (.int p3), .val (.ref b1), .val (.int (gend p0 p3)), .val (.int (gat p3)), .val (.int (1 : Int32)), .val (.ref b28), .val (.ref b79), .val (.ref e96b), .unset] [])) _
        refine XS.iconst X96.here hx rfl (hb hby at_308) ?_
        show Steps p.tables e below (T96.setTop (mkF m 309 #[.val (.int p0), .val (.int p1), .val (.int p2), .val (.int p3), .val (.ref b1), .val (.int (gend p0 p3)), .val (.int (gat p3)), .val (.int (1 : Int32)), .val (.ref b28), .val (.ref b79), .val (.ref e96b), .unset] [(.int (0 : Int32))])) _
        refine XS.istore X96.here hx rfl (hb hby at_309) rfl (l' := #[.val (.int p0), .val (.int p1), .val (.int p2), .val (.int p3), .val (.ref b1), .val (.int (gend p0 p3)), .val (.int (gat p3)), .val (.int (1 : Int32)), .val (.ref b28), .val (.ref b79), .val (.ref e96b), .val (.int (0 : Int32))]) rfl ?_
        show Steps p.tables e below (T96.setTop (mkF m 311 #[.val (.int p0), .val (.int p1), .val (.int p2), .val (.int p3), .val (.ref b1), .val (.int (gend p0 p3)), .val (.int (gat p3)), .val (.int (1 : Int32)), .val (.ref b28), .val (.ref b79), .val (.ref e96b), .val (.int (0 : Int32))] [])) _
        refine XS.iload X96.here hx rfl (hb hby at_311) rfl ?_
        show Steps p.tables e below (T96.setTop (mkF m 313 #[.val (.int p0), .val (.int p1), .val (.int p2), .val (.int p3), .val (.ref b1), .val (.int (gend p0 p3)), .val (.int (gat p3)), .val (.int (1 : Int32)), .val (.ref b28), .val (.ref b79), .val (.ref e96b), .val (.int (0 : Int32))] [(.int (0 : Int32))])) _
        refine XS.iload X96.here hx rfl (hb hby at_313) rfl ?_
        show Steps p.tables e below (T96.setTop (mkF m 315 #[.val (.int p0), .val (.int p1), .val (.int p2), .val (.int p3), .val (.ref b1), .val (.int (gend p0 p3)), .val (.int (gat p3)), .val (.int (1 : Int32)), .val (.ref b28), .val (.ref b79), .val (.ref e96b), .val (.int (0 : Int32))] [(.int (1 : Int32)), (.int (0 : Int32))])) _
        refine XS.icmpNo X96.here hx rfl (hb hby at_315) rfl (tlt (by decide : (0 : Int32) < (1 : Int32))).2.1 ?_
        show Steps p.tables e below (T96.setTop (mkF m 318 #[.val (.int p0), .val (.int p1), .val (.int p2), .val (.int p3), .val (.ref b1), .val (.int (gend p0 p3)), .val (.int (gat p3)), .val (.int (1 : Int32)), .val (.ref b28), .val (.ref b79), .val (.ref e96b), .val (.int (0 : Int32))] [])) _
        refine XS.aload X96.here hx rfl (hb hby at_318) rfl rfl ?_
        show Steps p.tables e below (T96.setTop (mkF m 320 #[.val (.int p0), .val (.int p1), .val (.int p2), .val (.int p3), .val (.ref b1), .val (.int (gend p0 p3)), .val (.int (gat p3)), .val (.int (1 : Int32)), .val (.ref b28), .val (.ref b79), .val (.ref e96b), .val (.int (0 : Int32))] [(.ref b1)])) _
        refine XS.iload X96.here hx rfl (hb hby at_320) rfl ?_
        show Steps p.tables e below (T96.setTop (mkF m 322 #[.val (.int p0), .val (.int p1), .val (.int p2), .val (.int p3), .val (.ref b1), .val (.int (gend p0 p3)), .val (.int (gat p3)), .val (.int (1 : Int32)), .val (.ref b28), .val (.ref b79), .val (.ref e96b), .val (.int (0 : Int32))] [(.int (gat p3)), (.ref b1)])) _
        refine XS.iconst X96.here hx rfl (hb hby at_322) ?_
        show Steps p.tables e below (T96.setTop (mkF m 323 #[.val (.int p0), .val (.int p1), .val (.int p2), .val (.int p3), .val (.ref b1), .val (.int (gend p0 p3)), .val (.int (gat p3)), .val (.int (1 : Int32)), .val (.ref b28), .val (.ref b79), .val (.ref e96b), .val (.int (0 : Int32))] [(.int (0 : Int32)), (.int (gat p3)), (.ref b1)])) _
        refine XS.iload X96.here hx rfl (hb hby at_323) rfl ?_
        show Steps p.tables e below (T96.setTop (mkF m 325 #[.val (.int p0), .val (.int p1), .val (.int p2), .val (.int p3), .val (.ref b1), .val (.int (gend p0 p3)), .val (.int (gat p3)), .val (.int (1 : Int32)), .val (.ref b28), .val (.ref b79), .val (.ref e96b), .val (.int (0 : Int32))] [(.int (gend p0 p3)), (.int (0 : Int32)), (.int (gat p3)), (.ref b1)])) _
        refine st103 _ ?_
        exact kt
      by_cases hc105 : (f4 (gat p3) (0 : Int32) (gend p0 p3) fh a 0) = (0 : Int32)
      · skip
        have hok : ∀ j, j < 0 → okP fh a (gend p0 p3) j := by
          intro j hj
          exact absurd hj (Nat.not_lt_zero _)
        obtain rfl : kk = 0 := own_dd DDq (by decide) hok (Or.inr ((own_ok ha (i := 0) (by decide) ha7 (by decide)).mp hc105))
        obtain ⟨_, _, ⟨T106, L106, k106, n106⟩, -, X106, ⟨Lc106, hQ106, l106, y106, z106⟩, st106⟩ := Jvm.LawKit.callS X103 hx (y := (⟨"com/example/benchwire/benchwire/protocols/DelimitedTextDeclaredDelimitersPinLaw", "cell", "([B[B[BIII[B)Z"⟩ : MethodName)) hown (mvT hZ (hw _ (List.mem_of_getElem? (i := 18) rfl))) (mvT hZ (hw _ (List.mem_of_getElem? (i := 19) rfl))) (mvT hZ (hw _ (List.mem_of_getElem? (i := 3) rfl))) (mvT hZ (hw _ (List.mem_of_getElem? (i := 20) rfl))) (by decide) (backOf (W := 0) (rm3 l Z a0 hw [] e96b b79 b1 (gat p3) (0 : Int32) (0 : Int32) b28 (fun j => if j < 0 then fh (a + j) else fq j) fq fh fq 1 a 0 T96.heap A96q G102 G98 G100 ha (by decide) ha7 (by decide) (by decide) (fun z => absurd z (by decide))) hZ (hw _ (List.mem_of_getElem? (i := 20) rfl)) (hw _ (List.mem_of_getElem? (i := 3) rfl)) (by decide) (by decide)) (g := (mkF m 416 #[.val (.int p0), .val (.int p1), .val (.int p2), .val (.int p3), .val (.ref b1), .val (.int (gend p0 p3)), .val (.int (gat p3)), .val (.int (1 : Int32)), .val (.ref b28), .val (.ref b79), .val (.ref e96b), .val (.int (0 : Int32))] [(.ref b28), (.int (0 : Int32)), (.int (0 : Int32)), (.int (gat p3)), (.ref b1), (.ref b79), (.ref e96b)])) rfl (by rw [hml]; rfl) (argsL := [(.ref e96b), (.ref b79), (.ref b1), (.int (gat p3)), (.int (0 : Int32)), (.int (0 : Int32)), (.ref b28)]) (rest := []) (lenOf pd_2 rfl) rfl (by show 2 * 0 + _ ≤ _; exact Nat.le_of_eq rfl) (hb hby at_416) (fun _ _ => ⟨rfl, e103, (by decide : 4 + 0 ≤ _), (by decide : 15 + 0 ≤ _)⟩)
        dsimp only [Pt.U, Pt.locs, Pt.cells, Pt.slots] at X106 l106 y106 z106 st106 hQ106
        subst l106 y106 z106
        obtain ⟨rfl, rfl, e106⟩ := hQ106
        try rw [List.append_nil] at X106
        obtain ⟨_, _, ⟨T107, L107, k107, n107⟩, -, X107, ⟨Lc107, hQ107, l107, y107, z107⟩, st107⟩ := Jvm.LawKit.callS X106 hx (y := (⟨"com/example/benchwire/benchwire/protocols/DelimitedTextDeclaredDelimitersPinLaw", "cell", "([B[B[BIII[B)Z"⟩ : MethodName)) hown (mvT hZ (hw _ (List.mem_of_getElem? (i := 18) rfl))) (mvT hZ (hw _ (List.mem_of_getElem? (i := 19) rfl))) (mvT hZ (hw _ (List.mem_of_getElem? (i := 3) rfl))) (mvT hZ (hw _ (List.mem_of_getElem? (i := 20) rfl))) (by decide) (backOf (W := 0) (rm3 l Z a0 hw [] e96b b79 b1 (gat p3) (0 : Int32) (1 : Int32) b28 (fun j => if j < 0 then fh (a + j) else fq j) fq fh fq 1 a 1 T96.heap A96q G102 G98 G100 ha (by decide) ha7 (by decide) (by decide) (fun z => absurd z (by decide))) hZ (hw _ (List.mem_of_getElem? (i := 20) rfl)) (hw _ (List.mem_of_getElem? (i := 3) rfl)) (by decide) (by decide)) (g := (mkF m 435 #[.val (.int p0), .val (.int p1), .val (.int p2), .val (.int p3), .val (.ref b1), .val (.int (gend p0 p3)), .val (.int (gat p3)), .val (.int (1 : Int32)), .val (.ref b28), .val (.ref b79), .val (.ref e96b), .val (.int (0 : Int32))] [(.ref b28), (.int (1 : Int32)), (.int (0 : Int32)), (.int (gat p3)), (.ref b1), (.ref b79), (.ref e96b)])) rfl (by rw [hml]; rfl) (argsL := [(.ref e96b), (.ref b79), (.ref b1), (.int (gat p3)), (.int (0 : Int32)), (.int (1 : Int32)), (.ref b28)]) (rest := []) (lenOf pd_2 rfl) rfl (by show 2 * 0 + _ ≤ _; exact Nat.le_of_eq rfl) (hb hby at_435) (fun _ _ => ⟨rfl, e106, (by decide : 4 + 0 ≤ _), (by decide : 15 + 0 ≤ _)⟩)
        dsimp only [Pt.U, Pt.locs, Pt.cells, Pt.slots] at X107 l107 y107 z107 st107 hQ107
        subst l107 y107 z107
        obtain ⟨rfl, rfl, e107⟩ := hQ107
        try rw [List.append_nil] at X107
        obtain ⟨_, _, ⟨T108, L108, k108, n108⟩, -, X108, ⟨Lc108, hQ108, l108, y108, z108⟩, st108⟩ := Jvm.LawKit.callS X107 hx (y := (⟨"com/example/benchwire/benchwire/protocols/DelimitedTextDeclaredDelimitersPinLaw", "cell", "([B[B[BIII[B)Z"⟩ : MethodName)) hown (mvT hZ (hw _ (List.mem_of_getElem? (i := 18) rfl))) (mvT hZ (hw _ (List.mem_of_getElem? (i := 19) rfl))) (mvT hZ (hw _ (List.mem_of_getElem? (i := 3) rfl))) (mvT hZ (hw _ (List.mem_of_getElem? (i := 20) rfl))) (by decide) (backOf (W := 0) (rm3 l Z a0 hw [] e96b b79 b1 (gat p3) (0 : Int32) (2 : Int32) b28 (fun j => if j < 0 then fh (a + j) else fq j) fq fh fq 1 a 2 T96.heap A96q G102 G98 G100 ha (by decide) ha7 (by decide) (by decide) (fun z => absurd z (by decide))) hZ (hw _ (List.mem_of_getElem? (i := 20) rfl)) (hw _ (List.mem_of_getElem? (i := 3) rfl)) (by decide) (by decide)) (g := (mkF m 454 #[.val (.int p0), .val (.int p1), .val (.int p2), .val (.int p3), .val (.ref b1), .val (.int (gend p0 p3)), .val (.int (gat p3)), .val (.int (1 : Int32)), .val (.ref b28), .val (.ref b79), .val (.ref e96b), .val (.int (0 : Int32))] [(.ref b28), (.int (2 : Int32)), (.int (0 : Int32)), (.int (gat p3)), (.ref b1), (.ref b79), (.ref e96b)])) rfl (by rw [hml]; rfl) (argsL := [(.ref e96b), (.ref b79), (.ref b1), (.int (gat p3)), (.int (0 : Int32)), (.int (2 : Int32)), (.ref b28)]) (rest := []) (lenOf pd_2 rfl) rfl (by show 2 * 0 + _ ≤ _; exact Nat.le_of_eq rfl) (hb hby at_454) (fun _ _ => ⟨rfl, e107, (by decide : 4 + 0 ≤ _), (by decide : 15 + 0 ≤ _)⟩)
        dsimp only [Pt.U, Pt.locs, Pt.cells, Pt.slots] at X108 l108 y108 z108 st108 hQ108
        subst l108 y108 z108
        obtain ⟨rfl, rfl, e108⟩ := hQ108
        try rw [List.append_nil] at X108
        obtain ⟨_, _, ⟨T109, L109, k109, n109⟩, -, X109, ⟨Lc109, hQ109, l109, y109, z109⟩, st109⟩ := Jvm.LawKit.callS X108 hx (y := (⟨"com/example/benchwire/benchwire/protocols/DelimitedTextDeclaredDelimitersPinLaw", "cell", "([B[B[BIII[B)Z"⟩ : MethodName)) hown (mvT hZ (hw _ (List.mem_of_getElem? (i := 18) rfl))) (mvT hZ (hw _ (List.mem_of_getElem? (i := 19) rfl))) (mvT hZ (hw _ (List.mem_of_getElem? (i := 3) rfl))) (mvT hZ (hw _ (List.mem_of_getElem? (i := 20) rfl))) (by decide) (backOf (W := 0) (rm3 l Z a0 hw [] e96b b79 b1 (gat p3) (0 : Int32) (3 : Int32) b28 (fun j => if j < 0 then fh (a + j) else fq j) fq fh fq 1 a 3 T96.heap A96q G102 G98 G100 ha (by decide) ha7 (by decide) (by decide) (fun z => absurd z (by decide))) hZ (hw _ (List.mem_of_getElem? (i := 20) rfl)) (hw _ (List.mem_of_getElem? (i := 3) rfl)) (by decide) (by decide)) (g := (mkF m 473 #[.val (.int p0), .val (.int p1), .val (.int p2), .val (.int p3), .val (.ref b1), .val (.int (gend p0 p3)), .val (.int (gat p3)), .val (.int (1 : Int32)), .val (.ref b28), .val (.ref b79), .val (.ref e96b), .val (.int (0 : Int32))] [(.ref b28), (.int (3 : Int32)), (.int (0 : Int32)), (.int (gat p3)), (.ref b1), (.ref b79), (.ref e96b)])) rfl (by rw [hml]; rfl) (argsL := [(.ref e96b), (.ref b79), (.ref b1), (.int (gat p3)), (.int (0 : Int32)), (.int (3 : Int32)), (.ref b28)]) (rest := []) (lenOf pd_2 rfl) rfl (by show 2 * 0 + _ ≤ _; exact Nat.le_of_eq rfl) (hb hby at_473) (fun _ _ => ⟨rfl, e108, (by decide : 4 + 0 ≤ _), (by decide : 15 + 0 ≤ _)⟩)
        dsimp only [Pt.U, Pt.locs, Pt.cells, Pt.slots] at X109 l109 y109 z109 st109 hQ109
        subst l109 y109 z109
        obtain ⟨rfl, rfl, e109⟩ := hQ109
        try rw [List.append_nil] at X109
        have K110 : ∀ t, Steps p.tables e below (T109.setTop (mkF m 484 #[.val (.int p0), .val (.int p1), .val (.int p2), .val (.int p3), .val (.ref b1), .val (.int (gend p0 p3)), .val (.int (gat p3)), .val (.int (1 : Int32)), .val (.ref b28), .val (.ref b79), .val (.ref e96b), .val (.int (0 : Int32))] [(.int (1 : Int32))])) t → Steps p.tables e below (s₁.setTop (mkF m 0 #[.val (.int p0), .val (.int p1), .val (.int p2), .val (.int p3), .unset, .unset, .unset, .unset, .unset, .unset, .unset, .unset] [])) t := by
          intro t kt
          refine K104 _ ?_
          show Steps p.tables e below (T103.setTop (mkF m 328 #[.val (.int p0), .val (.int p1), .val (.int p2), .val (.int p3), .val (.ref b1), .val (.int (gend p0 p3)), .val (.int (gat p3)), .val (.int (1 : Int32)), .val (.ref b28), .val (.ref b79), .val (.ref e96b), .val (.int (0 : Int32))] [(.int (f4 (gat p3) (0 : Int32) (gend p0 p3) fh a 0))])) _
          refine XS.ifYes X103.here hx rfl (pc0 := 328) (pc' := 403) rfl (hb hby at_328) rfl ((if0 _ _).trans (teq hc105).1) (by decide) (by decide) ?_
          show Steps p.tables e below (T103.setTop (mkF m 403 #[.val (.int p0), .val (.int p1), .val (.int p2), .val (.int p3), .val (.ref b1), .val (.int (gend p0 p3)), .val (.int (gat p3)), .val (.int (1 : Int32)), .val (.ref b28), .val (.ref b79), .val (.ref e96b), .val (.int (0 : Int32))] [])) _
          refine XS.aload X103.here hx rfl (hb hby at_403) rfl rfl ?_
          show Steps p.tables e below (T103.setTop (mkF m 405 #[.val (.int p0), .val (.int p1), .val (.int p2), .val (.int p3), .val (.ref b1), .val (.int (gend p0 p3)), .val (.int (gat p3)), .val (.int (1 : Int32)), .val (.ref b28), .val (.ref b79), .val (.ref e96b), .val (.int (0 : Int32))] [(.ref e96b)])) _
          refine XS.aload X103.here hx rfl (hb hby at_405) rfl rfl ?_
          show Steps p.tables e below (T103.setTop (mkF m 407 #[.val (.int p0), .val (.int p1), .val (.int p2), .val (.int p3), .val (.ref b1), .val (.int (gend p0 p3)), .val (.int (gat p3)), .val (.int (1 : Int32)), .val (.ref b28), .val (.ref b79), .val (.ref e96b), .val (.int (0 : Int32))] [(.ref b79), (.ref e96b)])) _
          refine XS.aload X103.here hx rfl (hb hby at_407) rfl rfl ?_
          show Steps p.tables e below (T103.setTop (mkF m 409 #[.val (.int p0), .val (.int p1), .val (.int p2), .val (.int p3), .val (.ref b1), .val (.int (gend p0 p3)), .val (.int (gat p3)), .val (.int (1 : Int32)), .val (.ref b28), .val (.ref b79), .val (.ref e96b), .val (.int (0 : Int32))] [(.ref b1), (.ref b79), (.ref e96b)])) _
          refine XS.iload X103.here hx rfl (hb hby at_409) rfl ?_
          show Steps p.tables e below (T103.setTop (mkF m 411 #[.val (.int p0), .val (.int p1), .val (.int p2), .val (.int p3), .val (.ref b1), .val (.int (gend p0 p3)), .val (.int (gat p3)), .val (.int (1 : Int32)), .val (.ref b28), .val (.ref b79), .val (.ref e96b), .val (.int (0 : Int32))] [(.int (gat p3)), (.ref b1), (.ref b79), (.ref e96b)])) _
          refine XS.iload X103.here hx rfl (hb hby at_411) rfl ?_
          show Steps p.tables e below (T103.setTop (mkF m 413 #[.val (.int p0), .val (.int p1), .val (.int p2), .val (.int p3), .val (.ref b1), .val (.int (gend p0 p3)), .val (.int (gat p3)), .val (.int (1 : Int32)), .val (.ref b28), .val (.ref b79), .val (.ref e96b), .val (.int (0 : Int32))] [(.int (0 : Int32)), (.int (gat p3)), (.ref b1), (.ref b79), (.ref e96b)])) _
          refine XS.iconst X103.here hx rfl (hb hby at_413) ?_
          show Steps p.tables e below (T103.setTop (mkF m 414 #[.val (.int p0), .val (.int p1), .val (.int p2), .val (.int p3), .val (.ref b1), .val (.int (gend p0 p3)), .val (.int (gat p3)), .val (.int (1 : Int32)), .val (.ref b28), .val (.ref b79), .val (.ref e96b), .val (.int (0 : Int32))] [(.int (0 : Int32)), (.int (0 : Int32)), (.int (gat p3)), (.ref b1), (.ref b79), (.ref e96b)])) _
          refine XS.aload X103.here hx rfl (hb hby at_414) rfl rfl ?_
          show Steps p.tables e below (T103.setTop (mkF m 416 #[.val (.int p0), .val (.int p1), .val (.int p2), .val (.int p3), .val (.ref b1), .val (.int (gend p0 p3)), .val (.int (gat p3)), .val (.int (1 : Int32)), .val (.ref b28), .val (.ref b79), .val (.ref e96b), .val (.int (0 : Int32))] [(.ref b28), (.int (0 : Int32)), (.int (0 : Int32)), (.int (gat p3)), (.ref b1), (.ref b79), (.ref e96b)])) _
          refine st106 _ ?_
          show Steps p.tables e below (T106.setTop (mkF m 419 #[.val (.int p0), .val (.int p1), .val (.int p2), .val (.int p3), .val (.ref b1), .val (.int (gend p0 p3)), .val (.int (gat p3)), .val (.int (1 : Int32)), .val (.ref b28), .val (.ref b79), .val (.ref e96b), .val (.int (0 : Int32))] [(.int (f3 (gat p3) (0 : Int32) (0 : Int32) (fun j => if j < 0 then fh (a + j) else fq j) fq fh fq 1 a 0))])) _
          refine XS.ifNo X106.here hx rfl (hb hby at_419) rfl ((if0 _ _).trans (feq (show ¬ ((f3 (gat p3) (0 : Int32) (0 : Int32) (fun j => if j < 0 then fh (a + j) else fq j) fq fh fq 1 a 0) = (0 : Int32)) from (own_cell (K := 0) (i := 0) rfl rfl (by decide) (by decide) (fun j hj => rfl) (fun j hj => rfl)))).1) ?_
          show Steps p.tables e below (T106.setTop (mkF m 422 #[.val (.int p0), .val (.int p1), .val (.int p2), .val (.int p3), .val (.ref b1), .val (.int (gend p0 p3)), .val (.int (gat p3)), .val (.int (1 : Int32)), .val (.ref b28), .val (.ref b79), .val (.ref e96b), .val (.int (0 : Int32))] [])) _
          refine XS.aload X106.here hx rfl (hb hby at_422) rfl rfl ?_
          show Steps p.tables e below (T106.setTop (mkF m 424 #[.val (.int p0), .val (.int p1), .val (.int p2), .val (.int p3), .val (.ref b1), .val (.int (gend p0 p3)), .val (.int (gat p3)), .val (.int (1 : Int32)), .val (.ref b28), .val (.ref b79), .val (.ref e96b), .val (.int (0 : Int32))] [(.ref e96b)])) _
          refine XS.aload X106.here hx rfl (hb hby at_424) rfl rfl ?_
          show Steps p.tables e below (T106.setTop (mkF m 426 #[.val (.int p0), .val (.int p1), .val (.int p2), .val (.int p3), .val (.ref b1), .val (.int (gend p0 p3)), .val (.int (gat p3)), .val (.int (1 : Int32)), .val (.ref b28), .val (.ref b79), .val (.ref e96b), .val (.int (0 : Int32))] [(.ref b79), (.ref e96b)])) _
          refine XS.aload X106.here hx rfl (hb hby at_426) rfl rfl ?_
          show Steps p.tables e below (T106.setTop (mkF m 428 #[.val (.int p0), .val (.int p1), .val (.int p2), .val (.int p3), .val (.ref b1), .val (.int (gend p0 p3)), .val (.int (gat p3)), .val (.int (1 : Int32)), .val (.ref b28), .val (.ref b79), .val (.ref e96b), .val (.int (0 : Int32))] [(.ref b1), (.ref b79), (.ref e96b)])) _
          refine XS.iload X106.here hx rfl (hb hby at_428) rfl ?_
          show Steps p.tables e below (T106.setTop (mkF m 430 #[.val (.int p0), .val (.int p1), .val (.int p2), .val (.int p3), .val (.ref b1), .val (.int (gend p0 p3)), .val (.int (gat p3)), .val (.int (1 : Int32)), .val (.ref b28), .val (.ref b79), .val (.ref e96b), .val (.int (0 : Int32))] [(.int (gat p3)), (.ref b1), (.ref b79), (.ref e96b)])) _
          refine XS.iload X106.here hx rfl (hb hby at_430) rfl ?_
          show Steps p.tables e below (T106.setTop (mkF m 432 #[.val (.int p0), .val (.int p1), .val (.int p2), .val (.int p3), .val (.ref b1), .val (.int (gend p0 p3)), .val (.int (gat p3)), .val (.int (1 : Int32)), .val (.ref b28), .val (.ref b79), .val (.ref e96b), .val (.int (0 : Int32))] [(.int (0 : Int32)), (.int (gat p3)), (.ref b1), (.ref b79), (.ref e96b)])) _
          refine XS.iconst X106.here hx rfl (hb hby at_432) ?_
          show Steps p.tables e below (T106.setTop (mkF m 433 #[.val (.int p0), .val (.int p1), .val (.int p2), .val (.int p3), .val (.ref b1), .val (.int (gend p0 p3)), .val (.int (gat p3)), .val (.int (1 : Int32)), .val (.ref b28), .val (.ref b79), .val (.ref e96b), .val (.int (0 : Int32))] [(.int (1 : Int32)), (.int (0 : Int32)), (.int (gat p3)), (.ref b1), (.ref b79), (.ref e96b)])) _
          refine XS.aload X106.here hx rfl (hb hby at_433) rfl rfl ?_
          show Steps p.tables e below (T106.setTop (mkF m 435 #[.val (.int p0), .val (.int p1), .val (.int p2), .val (.int p3), .val (.ref b1), .val (.int (gend p0 p3)), .val (.int (gat p3)), .val (.int (1 : Int32)), .val (.ref b28), .val (.ref b79), .val (.ref e96b), .val (.int (0 : Int32))] [(.ref b28), (.int (1 : Int32)), (.int (0 : Int32)), (.int (gat p3)), (.ref b1), (.ref b79), (.ref e96b)])) _
          refine st107 _ ?_
          show Steps p.tables e below (T107.setTop (mkF m 438 #[.val (.int p0), .val (.int p1), .val (.int p2), .val (.int p3), .val (.ref b1), .val (.int (gend p0 p3)), .val (.int (gat p3)), .val (.int (1 : Int32)), .val (.ref b28), .val (.ref b79), .val (.ref e96b), .val (.int (0 : Int32))] [(.int (f3 (gat p3) (0 : Int32) (1 : Int32) (fun j => if j < 0 then fh (a + j) else fq j) fq fh fq 1 a 1))])) _
          refine XS.ifNo X107.here hx rfl (hb hby at_438) rfl ((if0 _ _).trans (feq (show ¬ ((f3 (gat p3) (0 : Int32) (1 : Int32) (fun j => if j < 0 then fh (a + j) else fq j) fq fh fq 1 a 1) = (0 : Int32)) from (own_cell (K := 0) (i := 1) rfl rfl (by decide) (by decide) (fun j hj => rfl) (fun j hj => rfl)))).1) ?_
          show Steps p.tables e below (T107.setTop (mkF m 441 #[.val (.int p0), .val (.int p1), .val (.int p2), .val (.int p3), .val (.ref b1), .val (.int (gend p0 p3)), .val (.int (gat p3)), .val (.int (1 : Int32)), .val (.ref b28), .val (.ref b79), .val (.ref e96b), .val (.int (0 : Int32))] [])) _
          refine XS.aload X107.here hx rfl (hb hby at_441) rfl rfl ?_
          show Steps p.tables e below (T107.setTop (mkF m 443 #[.val (.int p0), .val (.int p1), .val (.int p2), .val (.int p3), .val (.ref b1), .val (.int (gend p0 p3)), .val (.int (gat p3)), .val (.int (1 : Int32)), .val (.ref b28), .val (.ref b79), .val (.ref e96b), .val (.int (0 : Int32))] [(.ref e96b)])) _
          refine XS.aload X107.here hx rfl (hb hby at_443) rfl rfl ?_
          show Steps p.tables e below (T107.setTop (mkF m 445 #[.val (.int p0), .val (.int p1), .val (.int p2), .val (.int p3), .val (.ref b1), .val (.int (gend p0 p3)), .val (.int (gat p3)), .val (.int (1 : Int32)), .val (.ref b28), .val (.ref b79), .val (.ref e96b), .val (.int (0 : Int32))] [(.ref b79), (.ref e96b)])) _
          refine XS.aload X107.here hx rfl (hb hby at_445) rfl rfl ?_
          show Steps p.tables e below (T107.setTop (mkF m 447 #[.val (.int p0), .val (.int p1), .val (.int p2), .val (.int p3), .val (.ref b1), .val (.int (gend p0 p3)), .val (.int (gat p3)), .val (.int (1 : Int32)), .val (.ref b28), .val (.ref b79), .val (.ref e96b), .val (.int (0 : Int32))] [(.ref b1), (.ref b79), (.ref e96b)])) _
          refine XS.iload X107.here hx rfl (hb hby at_447) rfl ?_
          show Steps p.tables e below (T107.setTop (mkF m 449 #[.val (.int p0), .val (.int p1), .val (.int p2), .val (.int p3), .val (.ref b1), .val (.int (gend p0 p3)), .val (.int (gat p3)), .val (.int (1 : Int32)), .val (.ref b28), .val (.ref b79), .val (.ref e96b), .val (.int (0 : Int32))] [(.int (gat p3)), (.ref b1), (.ref b79), (.ref e96b)])) _
          refine XS.iload X107.here hx rfl (hb hby at_449) rfl ?_
          show Steps p.tables e below (T107.setTop (mkF m 451 #[.val (.int p0), .val (.int p1), .val (.int p2), .val (.int p3), .val (.ref b1), .val (.int (gend p0 p3)), .val (.int (gat p3)), .val (.int (1 : Int32)), .val (.ref b28), .val (.ref b79), .val (.ref e96b), .val (.int (0 : Int32))] [(.int (0 : Int32)), (.int (gat p3)), (.ref b1), (.ref b79), (.ref e96b)])) _
          refine XS.iconst X107.here hx rfl (hb hby at_451) ?_
          show Steps p.tables e below (T107.setTop (mkF m 452 #[.val (.int p0), .val (.int p1), .val (.int p2), .val (.int p3), .val (.ref b1), .val (.int (gend p0 p3)), .val (.int (gat p3)), .val (.int (1 : Int32)), .val (.ref b28), .val (.ref b79), .val (.ref e96b), .val (.int (0 : Int32))] [(.int (2 : Int32)), (.int (0 : Int32)), (.int (gat p3)), (.ref b1), (.ref b79), (.ref e96b)])) _
          refine XS.aload X107.here hx rfl (hb hby at_452) rfl rfl ?_
          show Steps p.tables e below (T107.setTop (mkF m 454 #[.val (.int p0), .val (.int p1), .val (.int p2), .val (.int p3), .val (.ref b1), .val (.int (gend p0 p3)), .val (.int (gat p3)), .val (.int (1 : Int32)), .val (.ref b28), .val (.ref b79), .val (.ref e96b), .val (.int (0 : Int32))] [(.ref b28), (.int (2 : Int32)), (.int (0 : Int32)), (.int (gat p3)), (.ref b1), (.ref b79), (.ref e96b)])) _
          refine st108 _ ?_
          show Steps p.tables e below (T108.setTop (mkF m 457 #[.val (.int p0), .val (.int p1), .val (.int p2), .val (.int p3), .val (.ref b1), .val (.int (gend p0 p3)), .val (.int (gat p3)), .val (.int (1 : Int32)), .val (.ref b28), .val (.ref b79), .val (.ref e96b), .val (.int (0 : Int32))] [(.int (f3 (gat p3) (0 : Int32) (2 : Int32) (fun j => if j < 0 then fh (a + j) else fq j) fq fh fq 1 a 2))])) _
          refine XS.ifNo X108.here hx rfl (hb hby at_457) rfl ((if0 _ _).trans (feq (show ¬ ((f3 (gat p3) (0 : Int32) (2 : Int32) (fun j => if j < 0 then fh (a + j) else fq j) fq fh fq 1 a 2) = (0 : Int32)) from (own_cell (K := 0) (i := 2) rfl rfl (by decide) (by decide) (fun j hj => rfl) (fun j hj => rfl)))).1) ?_
          show Steps p.tables e below (T108.setTop (mkF m 460 #[.val (.int p0), .val (.int p1), .val (.int p2), .val (.int p3), .val (.ref b1), .val (.int (gend p0 p3)), .val (.int (gat p3)), .val (.int (1 : Int32)), .val (.ref b28), .val (.ref b79), .val (.ref e96b), .val (.int (0 : Int32))] [])) _
          refine XS.aload X108.here hx rfl (hb hby at_460) rfl rfl ?_
          show Steps p.tables e below (T108.setTop (mkF m 462 #[.val (.int p0), .val (.int p1), .val (.int p2), .val (.int p3), .val (.ref b1), .val (.int (gend p0 p3)), .val (.int (gat p3)), .val (.int (1 : Int32)), .val (.ref b28), .val (.ref b79), .val (.ref e96b), .val (.int (0 : Int32))] [(.ref e96b)])) _
          refine XS.aload X108.here hx rfl (hb hby at_462) rfl rfl ?_
          show Steps p.tables e below (T108.setTop (mkF m 464 #[.val (.int p0), .val (.int p1), .val (.int p2), .val (.int p3), .val (.ref b1), .val (.int (gend p0 p3)), .val (.int (gat p3)), .val (.int (1 : Int32)), .val (.ref b28), .val (.ref b79), .val (.ref e96b), .val (.int (0 : Int32))] [(.ref b79), (.ref e96b)])) _
          refine XS.aload X108.here hx rfl (hb hby at_464) rfl rfl ?_
          show Steps p.tables e below (T108.setTop (mkF m 466 #[.val (.int p0), .val (.int p1), .val (.int p2), .val (.int p3), .val (.ref b1), .val (.int (gend p0 p3)), .val (.int (gat p3)), .val (.int (1 : Int32)), .val (.ref b28), .val (.ref b79), .val (.ref e96b), .val (.int (0 : Int32))] [(.ref b1), (.ref b79), (.ref e96b)])) _
          refine XS.iload X108.here hx rfl (hb hby at_466) rfl ?_
          show Steps p.tables e below (T108.setTop (mkF m 468 #[.val (.int p0), .val (.int p1), .val (.int p2), .val (.int p3), .val (.ref b1), .val (.int (gend p0 p3)), .val (.int (gat p3)), .val (.int (1 : Int32)), .val (.ref b28), .val (.ref b79), .val (.ref e96b), .val (.int (0 : Int32))] [(.int (gat p3)), (.ref b1), (.ref b79), (.ref e96b)])) _
          refine XS.iload X108.here hx rfl (hb hby at_468) rfl ?_
          show Steps p.tables e below (T108.setTop (mkF m 470 #[.val (.int p0), .val (.int p1), .val (.int p2), .val (.int p3), .val (.ref b1), .val (.int (gend p0 p3)), .val (.int (gat p3)), .val (.int (1 : Int32)), .val (.ref b28), .val (.ref b79), .val (.ref e96b), .val (.int (0 : Int32))] [(.int (0 : Int32)), (.int (gat p3)), (.ref b1), (.ref b79), (.ref e96b)])) _
          refine XS.iconst X108.here hx rfl (hb hby at_470) ?_
          show Steps p.tables e below (T108.setTop (mkF m 471 #[.val (.int p0), .val (.int p1), .val (.int p2), .val (.int p3), .val (.ref b1), .val (.int (gend p0 p3)), .val (.int (gat p3)), .val (.int (1 : Int32)), .val (.ref b28), .val (.ref b79), .val (.ref e96b), .val (.int (0 : Int32))] [(.int (3 : Int32)), (.int (0 : Int32)), (.int (gat p3)), (.ref b1), (.ref b79), (.ref e96b)])) _
          refine XS.aload X108.here hx rfl (hb hby at_471) rfl rfl ?_
          show Steps p.tables e below (T108.setTop (mkF m 473 #[.val (.int p0), .val (.int p1), .val (.int p2), .val (.int p3), .val (.ref b1), .val (.int (gend p0 p3)), .val (.int (gat p3)), .val (.int (1 : Int32)), .val (.ref b28), .val (.ref b79), .val (.ref e96b), .val (.int (0 : Int32))] [(.ref b28), (.int (3 : Int32)), (.int (0 : Int32)), (.int (gat p3)), (.ref b1), (.ref b79), (.ref e96b)])) _
          refine st109 _ ?_
          show Steps p.tables e below (T109.setTop (mkF m 476 #[.val (.int p0), .val (.int p1), .val (.int p2), .val (.int p3), .val (.ref b1), .val (.int (gend p0 p3)), .val (.int (gat p3)), .val (.int (1 : Int32)), .val (.ref b28), .val (.ref b79), .val (.ref e96b), .val (.int (0 : Int32))] [(.int (f3 (gat p3) (0 : Int32) (3 : Int32) (fun j => if j < 0 then fh (a + j) else fq j) fq fh fq 1 a 3))])) _
          refine XS.ifNo X109.here hx rfl (hb hby at_476) rfl ((if0 _ _).trans (feq (show ¬ ((f3 (gat p3) (0 : Int32) (3 : Int32) (fun j => if j < 0 then fh (a + j) else fq j) fq fh fq 1 a 3) = (0 : Int32)) from (own_cell (K := 0) (i := 3) rfl rfl (by decide) (by decide) (fun j hj => rfl) (fun j hj => rfl)))).1) ?_
          show Steps p.tables e below (T109.setTop (mkF m 479 #[.val (.int p0), .val (.int p1), .val (.int p2), .val (.int p3), .val (.ref b1), .val (.int (gend p0 p3)), .val (.int (gat p3)), .val (.int (1 : Int32)), .val (.ref b28), .val (.ref b79), .val (.ref e96b), .val (.int (0 : Int32))] [])) _
          refine XS.iconst X109.here hx rfl (hb hby at_479) ?_
          show Steps p.tables e below (T109.setTop (mkF m 480 #[.val (.int p0), .val (.int p1), .val (.int p2), .val (.int p3), .val (.ref b1), .val (.int (gend p0 p3)), .val (.int (gat p3)), .val (.int (1 : Int32)), .val (.ref b28), .val (.ref b79), .val (.ref e96b), .val (.int (0 : Int32))] [(.int (1 : Int32))])) _
          refine XS.goto X109.here hx rfl (pc0 := 480) (pc' := 484) rfl (hb hby at_480) (by decide) (by decide) ?_
          exact kt
        obtain ⟨fsQ, hr, hrun, hended, hW, hsame⟩ := X109.leave (v := some (.int (1 : Int32))) (fun h => by rw [Bd.returns] at h; cases h)
        refine ⟨_, _, pre0 _ (K110 _ ?_), hrun, hended, _, _, rfl, ?_, ⟨_, rfl⟩, hW, hsame.mono (by decide) (by decide)⟩
        · show Steps p.tables e below (T109.setTop (mkF m 484 #[.val (.int p0), .val (.int p1), .val (.int p2), .val (.int p3), .val (.ref b1), .val (.int (gend p0 p3)), .val (.int (gat p3)), .val (.int (1 : Int32)), .val (.ref b28), .val (.ref b79), .val (.ref e96b), .val (.int (0 : Int32))] [(.int (1 : Int32))])) _
          exact retN X109 hx (t := .boolean) Bd.returns (by simp) (hb hby at_484) hr
        · show Q0 Z p0 p1 p2 p3  h0 n0 _ T109.heap _
          rw [e109]
          exact ⟨rfl, N96⟩
      · skip
        have hok : ∀ j, j < 1 → okP fh a (gend p0 p3) j := by
          intro j hj
          rcases (by omega : j = 0) with rfl
          · exact (Classical.byContradiction fun y => hc105 ((own_ok ha (i := 0) (by decide) ha7 (by decide)).mpr y))
        obtain rfl : kk = 1 := own_dd DDq (by decide) hok (Or.inl rfl)
        obtain ⟨_, _, ⟨T111, L111, k111, n111⟩, -, X111, ⟨Lc111, hQ111, l111, y111, z111⟩, st111⟩ := Jvm.LawKit.callS X103 hx (y := (⟨"com/example/benchwire/benchwire/protocols/DelimitedTextDeclaredDelimitersPinLaw", "cell", "([B[B[BIII[B)Z"⟩ : MethodName)) hown (mvT hZ (hw _ (List.mem_of_getElem? (i := 18) rfl))) (mvT hZ (hw _ (List.mem_of_getElem? (i := 19) rfl))) (mvT hZ (hw _ (List.mem_of_getElem? (i := 3) rfl))) (mvT hZ (hw _ (List.mem_of_getElem? (i := 20) rfl))) (by decide) (backOf (W := 0) (rm3 l Z a0 hw [] e96b b79 b1 (gat p3) (1 : Int32) (0 : Int32) b28 (fun j => if j < 1 then fh (a + j) else fq j) fq fh fq 1 a 0 T96.heap A96q G102 G98 G100 ha (by decide) ha7 (by decide) (by decide) (fun _ => (hok 0 (by decide)).1)) hZ (hw _ (List.mem_of_getElem? (i := 20) rfl)) (hw _ (List.mem_of_getElem? (i := 3) rfl)) (by decide) (by decide)) (g := (mkF m 416 #[.val (.int p0), .val (.int p1), .val (.int p2), .val (.int p3), .val (.ref b1), .val (.int (gend p0 p3)), .val (.int (gat p3)), .val (.int (1 : Int32)), .val (.ref b28), .val (.ref b79), .val (.ref e96b), .val (.int (1 : Int32))] [(.ref b28), (.int (0 : Int32)), (.int (1 : Int32)), (.int (gat p3)), (.ref b1), (.ref b79), (.ref e96b)])) rfl (by rw [hml]; rfl) (argsL := [(.ref e96b), (.ref b79), (.ref b1), (.int (gat p3)), (.int (1 : Int32)), (.int (0 : Int32)), (.ref b28)]) (rest := []) (lenOf pd_2 rfl) rfl (by show 2 * 0 + _ ≤ _; exact Nat.le_of_eq rfl) (hb hby at_416) (fun _ _ => ⟨rfl, e103, (by decide : 4 + 0 ≤ _), (by decide : 15 + 0 ≤ _)⟩)
        dsimp only [Pt.U, Pt.locs, Pt.cells, Pt.slots] at X111 l111 y111 z111 st111 hQ111
        subst l111 y111 z111
        obtain ⟨rfl, rfl, e111⟩ := hQ111
        try rw [List.append_nil] at X111
        obtain ⟨_, _, ⟨T112, L112, k112, n112⟩, -, X112, ⟨Lc112, hQ112, l112, y112, z112⟩, st112⟩ := Jvm.LawKit.callS X111 hx (y := (⟨"com/example/benchwire/benchwire/protocols/DelimitedTextDeclaredDelimitersPinLaw", "cell", "([B[B[BIII[B)Z"⟩ : MethodName)) hown (mvT hZ (hw _ (List.mem_of_getElem? (i := 18) rfl))) (mvT hZ (hw _ (List.mem_of_getElem? (i := 19) rfl))) (mvT hZ (hw _ (List.mem_of_getElem? (i := 3) rfl))) (mvT hZ (hw _ (List.mem_of_getElem? (i := 20) rfl))) (by decide) (backOf (W := 0) (rm3 l Z a0 hw [] e96b b79 b1 (gat p3) (1 : Int32) (1 : Int32) b28 (fun j => if j < 1 then fh (a + j) else fq j) fq fh fq 1 a 1 T96.heap A96q G102 G98 G100 ha (by decide) ha7 (by decide) (by decide) (fun z => absurd z (by decide))) hZ (hw _ (List.mem_of_getElem? (i := 20) rfl)) (hw _ (List.mem_of_getElem? (i := 3) rfl)) (by decide) (by decide)) (g := (mkF m 435 #[.val (.int p0), .val (.int p1), .val (.int p2), .val (.int p3), .val (.ref b1), .val (.int (gend p0 p3)), .val (.int (gat p3)), .val (.int (1 : Int32)), .val (.ref b28), .val (.ref b79), .val (.ref e96b), .val (.int (1 : Int32))] [(.ref b28), (.int (1 : Int32)), (.int (1 : Int32)), (.int (gat p3)), (.ref b1), (.ref b79), (.ref e96b)])) rfl (by rw [hml]; rfl) (argsL := [(.ref e96b), (.ref b79), (.ref b1), (.int (gat p3)), (.int (1 : Int32)), (.int (1 : Int32)), (.ref b28)]) (rest := []) (lenOf pd_2 rfl) rfl (by show 2 * 0 + _ ≤ _; exact Nat.le_of_eq rfl) (hb hby at_435) (fun _ _ => ⟨rfl, e111, (by decide : 4 + 0 ≤ _), (by decide : 15 + 0 ≤ _)⟩)
        dsimp only [Pt.U, Pt.locs, Pt.cells, Pt.slots] at X112 l112 y112 z112 st112 hQ112
        subst l112 y112 z112
        obtain ⟨rfl, rfl, e112⟩ := hQ112
        try rw [List.append_nil] at X112
        obtain ⟨_, _, ⟨T113, L113, k113, n113⟩, -, X113, ⟨Lc113, hQ113, l113, y113, z113⟩, st113⟩ := Jvm.LawKit.callS X112 hx (y := (⟨"com/example/benchwire/benchwire/protocols/DelimitedTextDeclaredDelimitersPinLaw", "cell", "([B[B[BIII[B)Z"⟩ : MethodName)) hown (mvT hZ (hw _ (List.mem_of_getElem? (i := 18) rfl))) (mvT hZ (hw _ (List.mem_of_getElem? (i := 19) rfl))) (mvT hZ (hw _ (List.mem_of_getElem? (i := 3) rfl))) (mvT hZ (hw _ (List.mem_of_getElem? (i := 20) rfl))) (by decide) (backOf (W := 0) (rm3 l Z a0 hw [] e96b b79 b1 (gat p3) (1 : Int32) (2 : Int32) b28 (fun j => if j < 1 then fh (a + j) else fq j) fq fh fq 1 a 2 T96.heap A96q G102 G98 G100 ha (by decide) ha7 (by decide) (by decide) (fun z => absurd z (by decide))) hZ (hw _ (List.mem_of_getElem? (i := 20) rfl)) (hw _ (List.mem_of_getElem? (i := 3) rfl)) (by decide) (by decide)) (g := (mkF m 454 #[.val (.int p0), .val (.int p1), .val (.int p2), .val (.int p3), .val (.ref b1), .val (.int (gend p0 p3)), .val (.int (gat p3)), .val (.int (1 : Int32)), .val (.ref b28), .val (.ref b79), .val (.ref e96b), .val (.int (1 : Int32))] [(.ref b28), (.int (2 : Int32)), (.int (1 : Int32)), (.int (gat p3)), (.ref b1), (.ref b79), (.ref e96b)])) rfl (by rw [hml]; rfl) (argsL := [(.ref e96b), (.ref b79), (.ref b1), (.int (gat p3)), (.int (1 : Int32)), (.int (2 : Int32)), (.ref b28)]) (rest := []) (lenOf pd_2 rfl) rfl (by show 2 * 0 + _ ≤ _; exact Nat.le_of_eq rfl) (hb hby at_454) (fun _ _ => ⟨rfl, e112, (by decide : 4 + 0 ≤ _), (by decide : 15 + 0 ≤ _)⟩)
        dsimp only [Pt.U, Pt.locs, Pt.cells, Pt.slots] at X113 l113 y113 z113 st113 hQ113
        subst l113 y113 z113
        obtain ⟨rfl, rfl, e113⟩ := hQ113
        try rw [List.append_nil] at X113
        obtain ⟨_, _, ⟨T114, L114, k114, n114⟩, -, X114, ⟨Lc114, hQ114, l114, y114, z114⟩, st114⟩ := Jvm.LawKit.callS X113 hx (y := (⟨"com/example/benchwire/benchwire/protocols/DelimitedTextDeclaredDelimitersPinLaw", "cell", "([B[B[BIII[B)Z"⟩ : MethodName)) hown (mvT hZ (hw _ (List.mem_of_getElem? (i := 18) rfl))) (mvT hZ (hw _ (List.mem_of_getElem? (i := 19) rfl))) (mvT hZ (hw _ (List.mem_of_getElem? (i := 3) rfl))) (mvT hZ (hw _ (List.mem_of_getElem? (i := 20) rfl))) (by decide) (backOf (W := 0) (rm3 l Z a0 hw [] e96b b79 b1 (gat p3) (1 : Int32) (3 : Int32) b28 (fun j => if j < 1 then fh (a + j) else fq j) fq fh fq 1 a 3 T96.heap A96q G102 G98 G100 ha (by decide) ha7 (by decide) (by decide) (fun z => absurd z (by decide))) hZ (hw _ (List.mem_of_getElem? (i := 20) rfl)) (hw _ (List.mem_of_getElem? (i := 3) rfl)) (by decide) (by decide)) (g := (mkF m 473 #[.val (.int p0), .val (.int p1), .val (.int p2), .val (.int p3), .val (.ref b1), .val (.int (gend p0 p3)), .val (.int (gat p3)), .val (.int (1 : Int32)), .val (.ref b28), .val (.ref b79), .val (.ref e96b), .val (.int (1 : Int32))] [(.ref b28), (.int (3 : Int32)), (.int (1 : Int32)), (.int (gat p3)), (.ref b1), (.ref b79), (.ref e96b)])) rfl (by rw [hml]; rfl) (argsL := [(.ref e96b), (.ref b79), (.ref b1), (.int (gat p3)), (.int (1 : Int32)), (.int (3 : Int32)), (.ref b28)]) (rest := []) (lenOf pd_2 rfl) rfl (by show 2 * 0 + _ ≤ _; exact Nat.le_of_eq rfl) (hb hby at_473) (fun _ _ => ⟨rfl, e113, (by decide : 4 + 0 ≤ _), (by decide : 15 + 0 ≤ _)⟩)
        dsimp only [Pt.U, Pt.locs, Pt.cells, Pt.slots] at X114 l114 y114 z114 st114 hQ114
        subst l114 y114 z114
        obtain ⟨rfl, rfl, e114⟩ := hQ114
        try rw [List.append_nil] at X114
        have K115 : ∀ t, Steps p.tables e below (T114.setTop (mkF m 484 #[.val (.int p0), .val (.int p1), .val (.int p2), .val (.int p3), .val (.ref b1), .val (.int (gend p0 p3)), .val (.int (gat p3)), .val (.int (1 : Int32)), .val (.ref b28), .val (.ref b79), .val (.ref e96b), .val (.int (1 : Int32))] [(.int (1 : Int32))])) t → Steps p.tables e below (s₁.setTop (mkF m 0 #[.val (.int p0), .val (.int p1), .val (.int p2), .val (.int p3), .unset, .unset, .unset, .unset, .unset, .unset, .unset, .unset] [])) t := by
          intro t kt
          refine K104 _ ?_
          show Steps p.tables e below (T103.setTop (mkF m 328 #[.val (.int p0), .val (.int p1), .val (.int p2), .val (.int p3), .val (.ref b1), .val (.int (gend p0 p3)), .val (.int (gat p3)), .val (.int (1 : Int32)), .val (.ref b28), .val (.ref b79), .val (.ref e96b), .val (.int (0 : Int32))] [(.int (f4 (gat p3) (0 : Int32) (gend p0 p3) fh a 0))])) _
          refine XS.ifNo X103.here hx rfl (hb hby at_328) rfl ((if0 _ _).trans (feq hc105).1) ?_
          show Steps p.tables e below (T103.setTop (mkF m 331 #[.val (.int p0), .val (.int p1), .val (.int p2), .val (.int p3), .val (.ref b1), .val (.int (gend p0 p3)), .val (.int (gat p3)), .val (.int (1 : Int32)), .val (.ref b28), .val (.ref b79), .val (.ref e96b), .val (.int (0 : Int32))] [])) _
          refine XS.iconst X103.here hx rfl (hb hby at_331) ?_
          show Steps p.tables e below (T103.setTop (mkF m 332 #[.val (.int p0), .val (.int p1), .val (.int p2), .val (.int p3), .val (.ref b1), .val (.int (gend p0 p3)), .val (.int (gat p3)), .val (.int (1 : Int32)), .val (.ref b28), .val (.ref b79), .val (.ref e96b), .val (.int (0 : Int32))] [(.int (1 : Int32))])) _
          refine XS.istore X103.here hx rfl (hb hby at_332) rfl (l' := #[.val (.int p0), .val (.int p1), .val (.int p2), .val (.int p3), .val (.ref b1), .val (.int (gend p0 p3)), .val (.int (gat p3)), .val (.int (1 : Int32)), .val (.ref b28), .val (.ref b79), .val (.ref e96b), .val (.int (1 : Int32))]) rfl ?_
          show Steps p.tables e below (T103.setTop (mkF m 334 #[.val (.int p0), .val (.int p1), .val (.int p2), .val (.int p3), .val (.ref b1), .val (.int (gend p0 p3)), .val (.int (gat p3)), .val (.int (1 : Int32)), .val (.ref b28), .val (.ref b79), .val (.ref e96b), .val (.int (1 : Int32))] [])) _
          refine XS.iload X103.here hx rfl (hb hby at_334) rfl ?_
          show Steps p.tables e below (T103.setTop (mkF m 336 #[.val (.int p0), .val (.int p1), .val (.int p2), .val (.int p3), .val (.ref b1), .val (.int (gend p0 p3)), .val (.int (gat p3)), .val (.int (1 : Int32)), .val (.ref b28), .val (.ref b79), .val (.ref e96b), .val (.int (1 : Int32))] [(.int (1 : Int32))])) _
          refine XS.iload X103.here hx rfl (hb hby at_336) rfl ?_
          show Steps p.tables e below (T103.setTop (mkF m 338 #[.val (.int p0), .val (.int p1), .val (.int p2), .val (.int p3), .val (.ref b1), .val (.int (gend p0 p3)), .val (.int (gat p3)), .val (.int (1 : Int32)), .val (.ref b28), .val (.ref b79), .val (.ref e96b), .val (.int (1 : Int32))] [(.int (1 : Int32)), (.int (1 : Int32))])) _
          refine XS.icmpYes X103.here hx rfl (pc0 := 338) (pc' := 403) rfl (hb hby at_338) rfl (flt (by decide : ¬ ((1 : Int32) < (1 : Int32)))).2.1 (by decide) (by decide) ?_
          show Steps p.tables e below (T103.setTop (mkF m 403 #[.val (.int p0), .val (.int p1), .val (.int p2), .val (.int p3), .val (.ref b1), .val (.int (gend p0 p3)), .val (.int (gat p3)), .val (.int (1 : Int32)), .val (.ref b28), .val (.ref b79), .val (.ref e96b), .val (.int (1 : Int32))] [])) _
          refine XS.aload X103.here hx rfl (hb hby at_403) rfl rfl ?_
          show Steps p.tables e below (T103.setTop (mkF m 405 #[.val (.int p0), .val (.int p1), .val (.int p2), .val (.int p3), .val (.ref b1), .val (.int (gend p0 p3)), .val (.int (gat p3)), .val (.int (1 : Int32)), .val (.ref b28), .val (.ref b79), .val (.ref e96b), .val (.int (1 : Int32))] [(.ref e96b)])) _
          refine XS.aload X103.here hx rfl (hb hby at_405) rfl rfl ?_
          show Steps p.tables e below (T103.setTop (mkF m 407 #[.val (.int p0), .val (.int p1), .val (.int p2), .val (.int p3), .val (.ref b1), .val (.int (gend p0 p3)), .val (.int (gat p3)), .val (.int (1 : Int32)), .val (.ref b28), .val (.ref b79), .val (.ref e96b), .val (.int (1 : Int32))] [(.ref b79), (.ref e96b)])) _
          refine XS.aload X103.here hx rfl (hb hby at_407) rfl rfl ?_
          show Steps p.tables e below (T103.setTop (mkF m 409 #[.val (.int p0), .val (.int p1), .val (.int p2), .val (.int p3), .val (.ref b1), .val (.int (gend p0 p3)), .val (.int (gat p3)), .val (.int (1 : Int32)), .val (.ref b28), .val (.ref b79), .val (.ref e96b), .val (.int (1 : Int32))] [(.ref b1), (.ref b79), (.ref e96b)])) _
          refine XS.iload X103.here hx rfl (hb hby at_409) rfl ?_
          show Steps p.tables e below (T103.setTop (mkF m 411 #[.val (.int p0), .val (.int p1), .val (.int p2), .val (.int p3), .val (.ref b1), .val (.int (gend p0 p3)), .val (.int (gat p3)), .val (.int (1 : Int32)), .val (.ref b28), .val (.ref b79), .val (.ref e96b), .val (.int (1 : Int32))] [(.int (gat p3)), (.ref b1), (.ref b79), (.ref e96b)])) _
          refine XS.iload X103.here hx rfl (hb hby at_411) rfl ?_
          show Steps p.tables e below (T103.setTop (mkF m 413 #[.val (.int p0), .val (.int p1), .val (.int p2), .val (.int p3), .val (.ref b1), .val (.int (gend p0 p3)), .val (.int (gat p3)), .val (.int (1 : Int32)), .val (.ref b28), .val (.ref b79), .val (.ref e96b), .val (.int (1 : Int32))] [(.int (1 : Int32)), (.int (gat p3)), (.ref b1), (.ref b79), (.ref e96b)])) _
          refine XS.iconst X103.here hx rfl (hb hby at_413) ?_
          show Steps p.tables e below (T103.setTop (mkF m 414 #[.val (.int p0), .val (.int p1), .val (.int p2), .val (.int p3), .val (.ref b1), .val (.int (gend p0 p3)), .val (.int (gat p3)), .val (.int (1 : Int32)), .val (.ref b28), .val (.ref b79), .val (.ref e96b), .val (.int (1 : Int32))] [(.int (0 : Int32)), (.int (1 : Int32)), (.int (gat p3)), (.ref b1), (.ref b79), (.ref e96b)])) _
          refine XS.aload X103.here hx rfl (hb hby at_414) rfl rfl ?_
          show Steps p.tables e below (T103.setTop (mkF m 416 #[.val (.int p0), .val (.int p1), .val (.int p2), .val (.int p3), .val (.ref b1), .val (.int (gend p0 p3)), .val (.int (gat p3)), .val (.int (1 : Int32)), .val (.ref b28), .val (.ref b79), .val (.ref e96b), .val (.int (1 : Int32))] [(.ref b28), (.int (0 : Int32)), (.int (1 : Int32)), (.int (gat p3)), (.ref b1), (.ref b79), (.ref e96b)])) _
          refine st111 _ ?_
          show Steps p.tables e below (T111.setTop (mkF m 419 #[.val (.int p0), .val (.int p1), .val (.int p2), .val (.int p3), .val (.ref b1), .val (.int (gend p0 p3)), .val (.int (gat p3)), .val (.int (1 : Int32)), .val (.ref b28), .val (.ref b79), .val (.ref e96b), .val (.int (1 : Int32))] [(.int (f3 (gat p3) (1 : Int32) (0 : Int32) (fun j => if j < 1 then fh (a + j) else fq j) fq fh fq 1 a 0))])) _
          refine XS.ifNo X111.here hx rfl (hb hby at_419) rfl ((if0 _ _).trans (feq (show ¬ ((f3 (gat p3) (1 : Int32) (0 : Int32) (fun j => if j < 1 then fh (a + j) else fq j) fq fh fq 1 a 0) = (0 : Int32)) from (own_cell (K := 1) (i := 0) rfl rfl (by decide) (by decide) (fun j hj => rfl) (fun j hj => rfl)))).1) ?_
          show Steps p.tables e below (T111.setTop (mkF m 422 #[.val (.int p0), .val (.int p1), .val (.int p2), .val (.int p3), .val (.ref b1), .val (.int (gend p0 p3)), .val (.int (gat p3)), .val (.int (1 : Int32)), .val (.ref b28), .val (.ref b79), .val (.ref e96b), .val (.int (1 : Int32))] [])) _
          refine XS.aload X111.here hx rfl (hb hby at_422) rfl rfl ?_
          show Steps p.tables e below (T111.setTop (mkF m 424 #[.val (.int p0), .val (.int p1), .val (.int p2), .val (.int p3), .val (.ref b1), .val (.int (gend p0 p3)), .val (.int (gat p3)), .val (.int (1 : Int32)), .val (.ref b28), .val (.ref b79), .val (.ref e96b), .val (.int (1 : Int32))] [(.ref e96b)])) _
          refine XS.aload X111.here hx rfl (hb hby at_424) rfl rfl ?_
          show Steps p.tables e below (T111.setTop (mkF m 426 #[.val (.int p0), .val (.int p1), .val (.int p2), .val (.int p3), .val (.ref b1), .val (.int (gend p0 p3)), .val (.int (gat p3)), .val (.int (1 : Int32)), .val (.ref b28), .val (.ref b79), .val (.ref e96b), .val (.int (1 : Int32))] [(.ref b79), (.ref e96b)])) _
          refine XS.aload X111.here hx rfl (hb hby at_426) rfl rfl ?_
          show Steps p.tables e below (T111.setTop (mkF m 428 #[.val (.int p0), .val (.int p1), .val (.int p2), .val (.int p3), .val (.ref b1), .val (.int (gend p0 p3)), .val (.int (gat p3)), .val (.int (1 : Int32)), .val (.ref b28), .val (.ref b79), .val (.ref e96b), .val (.int (1 : Int32))] [(.ref b1), (.ref b79), (.ref e96b)])) _
          refine XS.iload X111.here hx rfl (hb hby at_428) rfl ?_
          show Steps p.tables e below (T111.setTop (mkF m 430 #[.val (.int p0), .val (.int p1), .val (.int p2), .val (.int p3), .val (.ref b1), .val (.int (gend p0 p3)), .val (.int (gat p3)), .val (.int (1 : Int32)), .val (.ref b28), .val (.ref b79), .val (.ref e96b), .val (.int (1 : Int32))] [(.int (gat p3)), (.ref b1), (.ref b79), (.ref e96b)])) _
          refine XS.iload X111.here hx rfl (hb hby at_430) rfl ?_
          show Steps p.tables e below (T111.setTop (mkF m 432 #[.val (.int p0), .val (.int p1), .val (.int p2), .val (.int p3), .val (.ref b1), .val (.int (gend p0 p3)), .val (.int (gat p3)), .val (.int (1 : Int32)), .val (.ref b28), .val (.ref b79), .val (.ref e96b), .val (.int (1 : Int32))] [(.int (1 : Int32)), (.int (gat p3)), (.ref b1), (.ref b79), (.ref e96b)])) _
          refine XS.iconst X111.here hx rfl (hb hby at_432) ?_
          show Steps p.tables e below (T111.setTop (mkF m 433 #[.val (.int p0), .val (.int p1), .val (.int p2), .val (.int p3), .val (.ref b1), .val (.int (gend p0 p3)), .val (.int (gat p3)), .val (.int (1 : Int32)), .val (.ref b28), .val (.ref b79), .val (.ref e96b), .val (.int (1 : Int32))] [(.int (1 : Int32)), (.int (1 : Int32)), (.int (gat p3)), (.ref b1), (.ref b79), (.ref e96b)])) _
          refine XS.aload X111.here hx rfl (hb hby at_433) rfl rfl ?_
          show Steps p.tables e below (T111.setTop (mkF m 435 #[.val (.int p0), .val (.int p1), .val (.int p2), .val (.int p3), .val (.ref b1), .val (.int (gend p0 p3)), .val (.int (gat p3)), .val (.int (1 : Int32)), .val (.ref b28), .val (.ref b79), .val (.ref e96b), .val (.int (1 : Int32))] [(.ref b28), (.int (1 : Int32)), (.int (1 : Int32)), (.int (gat p3)), (.ref b1), (.ref b79), (.ref e96b)])) _
          refine st112 _ ?_
          show Steps p.tables e below (T112.setTop (mkF m 438 #[.val (.int p0), .val (.int p1), .val (.int p2), .val (.int p3), .val (.ref b1), .val (.int (gend p0 p3)), .val (.int (gat p3)), .val (.int (1 : Int32)), .val (.ref b28), .val (.ref b79), .val (.ref e96b), .val (.int (1 : Int32))] [(.int (f3 (gat p3) (1 : Int32) (1 : Int32) (fun j => if j < 1 then fh (a + j) else fq j) fq fh fq 1 a 1))])) _
          refine XS.ifNo X112.here hx rfl (hb hby at_438) rfl ((if0 _ _).trans (feq (show ¬ ((f3 (gat p3) (1 : Int32) (1 : Int32) (fun j => if j < 1 then fh (a + j) else fq j) fq fh fq 1 a 1) = (0 : Int32)) from (own_cell (K := 1) (i := 1) rfl rfl (by decide) (by decide) (fun j hj => rfl) (fun j hj => rfl)))).1) ?_
          show Steps p.tables e below (T112.setTop (mkF m 441 #[.val (.int p0), .val (.int p1), .val (.int p2), .val (.int p3), .val (.ref b1), .val (.int (gend p0 p3)), .val (.int (gat p3)), .val (.int (1 : Int32)), .val (.ref b28), .val (.ref b79), .val (.ref e96b), .val (.int (1 : Int32))] [])) _
          refine XS.aload X112.here hx rfl (hb hby at_441) rfl rfl ?_
          show Steps p.tables e below (T112.setTop (mkF m 443 #[.val (.int p0), .val (.int p1), .val (.int p2), .val (.int p3), .val (.ref b1), .val (.int (gend p0 p3)), .val (.int (gat p3)), .val (.int (1 : Int32)), .val (.ref b28), .val (.ref b79), .val (.ref e96b), .val (.int (1 : Int32))] [(.ref e96b)])) _
          refine XS.aload X112.here hx rfl (hb hby at_443) rfl rfl ?_
          show Steps p.tables e below (T112.setTop (mkF m 445 #[.val (.int p0), .val (.int p1), .val (.int p2), .val (.int p3), .val (.ref b1), .val (.int (gend p0 p3)), .val (.int (gat p3)), .val (.int (1 : Int32)), .val (.ref b28), .val (.ref b79), .val (.ref e96b), .val (.int (1 : Int32))] [(.ref b79), (.ref e96b)])) _
          refine XS.aload X112.here hx rfl (hb hby at_445) rfl rfl ?_
          show Steps p.tables e below (T112.setTop (mkF m 447 #[.val (.int p0), .val (.int p1), .val (.int p2), .val (.int p3), .val (.ref b1), .val (.int (gend p0 p3)), .val (.int (gat p3)), .val (.int (1 : Int32)), .val (.ref b28), .val (.ref b79), .val (.ref e96b), .val (.int (1 : Int32))] [(.ref b1), (.ref b79), (.ref e96b)])) _
          refine XS.iload X112.here hx rfl (hb hby at_447) rfl ?_
          show Steps p.tables e below (T112.setTop (mkF m 449 #[.val (.int p0), .val (.int p1), .val (.int p2), .val (.int p3), .val (.ref b1), .val (.int (gend p0 p3)), .val (.int (gat p3)), .val (.int (1 : Int32)), .val (.ref b28), .val (.ref b79), .val (.ref e96b), .val (.int (1 : Int32))] [(.int (gat p3)), (.ref b1), (.ref b79), (.ref e96b)])) _
          refine XS.iload X112.here hx rfl (hb hby at_449) rfl ?_
          show Steps p.tables e below (T112.setTop (mkF m 451 #[.val (.int p0), .val (.int p1), .val (.int p2), .val (.int p3), .val (.ref b1), .val (.int (gend p0 p3)), .val (.int (gat p3)), .val (.int (1 : Int32)), .val (.ref b28), .val (.ref b79), .val (.ref e96b), .val (.int (1 : Int32))] [(.int (1 : Int32)), (.int (gat p3)), (.ref b1), (.ref b79), (.ref e96b)])) _
          refine XS.iconst X112.here hx rfl (hb hby at_451) ?_
          show Steps p.tables e below (T112.setTop (mkF m 452 #[.val (.int p0), .val (.int p1), .val (.int p2), .val (.int p3), .val (.ref b1), .val (.int (gend p0 p3)), .val (.int (gat p3)), .val (.int (1 : Int32)), .val (.ref b28), .val (.ref b79), .val (.ref e96b), .val (.int (1 : Int32))] [(.int (2 : Int32)), (.int (1 : Int32)), (.int (gat p3)), (.ref b1), (.ref b79), (.ref e96b)])) _
          refine XS.aload X112.here hx rfl (hb hby at_452) rfl rfl ?_
          show Steps p.tables e below (T112.setTop (mkF m 454 #[.val (.int p0), .val (.int p1), .val (.int p2), .val (.int p3), .val (.ref b1), .val (.int (gend p0 p3)), .val (.int (gat p3)), .val (.int (1 : Int32)), .val (.ref b28), .val (.ref b79), .val (.ref e96b), .val (.int (1 : Int32))] [(.ref b28), (.int (2 : Int32)), (.int (1 : Int32)), (.int (gat p3)), (.ref b1), (.ref b79), (.ref e96b)])) _
          refine st113 _ ?_
          show Steps p.tables e below (T113.setTop (mkF m 457 #[.val (.int p0), .val (.int p1), .val (.int p2), .val (.int p3), .val (.ref b1), .val (.int (gend p0 p3)), .val (.int (gat p3)), .val (.int (1 : Int32)), .val (.ref b28), .val (.ref b79), .val (.ref e96b), .val (.int (1 : Int32))] [(.int (f3 (gat p3) (1 : Int32) (2 : Int32) (fun j => if j < 1 then fh (a + j) else fq j) fq fh fq 1 a 2))])) _
          refine XS.ifNo X113.here hx rfl (hb hby at_457) rfl ((if0 _ _).trans (feq (show ¬ ((f3 (gat p3) (1 : Int32) (2 : Int32) (fun j => if j < 1 then fh (a + j) else fq j) fq fh fq 1 a 2) = (0 : Int32)) from (own_cell (K := 1) (i := 2) rfl rfl (by decide) (by decide) (fun j hj => rfl) (fun j hj => rfl)))).1) ?_
          show Steps p.tables e below (T113.setTop (mkF m 460 #[.val (.int p0), .val (.int p1), .val (.int p2), .val (.int p3), .val (.ref b1), .val (.int (gend p0 p3)), .val (.int (gat p3)), .val (.int (1 : Int32)), .val (.ref b28), .val (.ref b79), .val (.ref e96b), .val (.int (1 : Int32))] [])) _
          refine XS.aload X113.here hx rfl (hb hby at_460) rfl rfl ?_
          show Steps p.tables e below (T113.setTop (mkF m 462 #[.val (.int p0), .val (.int p1), .val (.int p2), .val (.int p3), .val (.ref b1), .val (.int (gend p0 p3)), .val (.int (gat p3)), .val (.int (1 : Int32)), .val (.ref b28), .val (.ref b79), .val (.ref e96b), .val (.int (1 : Int32))] [(.ref e96b)])) _
          refine XS.aload X113.here hx rfl (hb hby at_462) rfl rfl ?_
          show Steps p.tables e below (T113.setTop (mkF m 464 #[.val (.int p0), .val (.int p1), .val (.int p2), .val (.int p3), .val (.ref b1), .val (.int (gend p0 p3)), .val (.int (gat p3)), .val (.int (1 : Int32)), .val (.ref b28), .val (.ref b79), .val (.ref e96b), .val (.int (1 : Int32))] [(.ref b79), (.ref e96b)])) _
          refine XS.aload X113.here hx rfl (hb hby at_464) rfl rfl ?_
          show Steps p.tables e below (T113.setTop (mkF m 466 #[.val (.int p0), .val (.int p1), .val (.int p2), .val (.int p3), .val (.ref b1), .val (.int (gend p0 p3)), .val (.int (gat p3)), .val (.int (1 : Int32)), .val (.ref b28), .val (.ref b79), .val (.ref e96b), .val (.int (1 : Int32))] [(.ref b1), (.ref b79), (.ref e96b)])) _
          refine XS.iload X113.here hx rfl (hb hby at_466) rfl ?_
          show Steps p.tables e below (T113.setTop (mkF m 468 #[.val (.int p0), .val (.int p1), .val (.int p2), .val (.int p3), .val (.ref b1), .val (.int (gend p0 p3)), .val (.int (gat p3)), .val (.int (1 : Int32)), .val (.ref b28), .val (.ref b79), .val (.ref e96b), .val (.int (1 : Int32))] [(.int (gat p3)), (.ref b1), (.ref b79), (.ref e96b)])) _
          refine XS.iload X113.here hx rfl (hb hby at_468) rfl ?_
          show Steps p.tables e below (T113.setTop (mkF m 470 #[.val (.int p0), .val (.int p1), .val (.int p2), .val (.int p3), .val (.ref b1), .val (.int (gend p0 p3)), .val (.int (gat p3)), .val (.int (1 : Int32)), .val (.ref b28), .val (.ref b79), .val (.ref e96b), .val (.int (1 : Int32))] [(.int (1 : Int32)), (.int (gat p3)), (.ref b1), (.ref b79), (.ref e96b)])) _
          refine XS.iconst X113.here hx rfl (hb hby at_470) ?_
          show Steps p.tables e below (T113.setTop (mkF m 471 #[.val (.int p0), .val (.int p1), .val (.int p2), .val (.int p3), .val (.ref b1), .val (.int (gend p0 p3)), .val (.int (gat p3)), .val (.int (1 : Int32)), .val (.ref b28), .val (.ref b79), .val (.ref e96b), .val (.int (1 : Int32))] [(.int (3 : Int32)), (.int (1 : Int32)), (.int (gat p3)), (.ref b1), (.ref b79), (.ref e96b)])) _
          refine XS.aload X113.here hx rfl (hb hby at_471) rfl rfl ?_
          show Steps p.tables e below (T113.setTop (mkF m 473 #[.val (.int p0), .val (.int p1), .val (.int p2), .val (.int p3), .val (.ref b1), .val (.int (gend p0 p3)), .val (.int (gat p3)), .val (.int (1 : Int32)), .val (.ref b28), .val (.ref b79), .val (.ref e96b), .val (.int (1 : Int32))] [(.ref b28), (.int (3 : Int32)), (.int (1 : Int32)), (.int (gat p3)), (.ref b1), (.ref b79), (.ref e96b)])) _
          refine st114 _ ?_
          show Steps p.tables e below (T114.setTop (mkF m 476 #[.val (.int p0), .val (.int p1), .val (.int p2), .val (.int p3), .val (.ref b1), .val (.int (gend p0 p3)), .val (.int (gat p3)), .val (.int (1 : Int32)), .val (.ref b28), .val (.ref b79), .val (.ref e96b), .val (.int (1 : Int32))] [(.int (f3 (gat p3) (1 : Int32) (3 : Int32) (fun j => if j < 1 then fh (a + j) else fq j) fq fh fq 1 a 3))])) _
          refine XS.ifNo X114.here hx rfl (hb hby at_476) rfl ((if0 _ _).trans (feq (show ¬ ((f3 (gat p3) (1 : Int32) (3 : Int32) (fun j => if j < 1 then fh (a + j) else fq j) fq fh fq 1 a 3) = (0 : Int32)) from (own_cell (K := 1) (i := 3) rfl rfl (by decide) (by decide) (fun j hj => rfl) (fun j hj => rfl)))).1) ?_
          show Steps p.tables e below (T114.setTop (mkF m 479 #[.val (.int p0), .val (.int p1), .val (.int p2), .val (.int p3), .val (.ref b1), .val (.int (gend p0 p3)), .val (.int (gat p3)), .val (.int (1 : Int32)), .val (.ref b28), .val (.ref b79), .val (.ref e96b), .val (.int (1 : Int32))] [])) _
          refine XS.iconst X114.here hx rfl (hb hby at_479) ?_
          show Steps p.tables e below (T114.setTop (mkF m 480 #[.val (.int p0), .val (.int p1), .val (.int p2), .val (.int p3), .val (.ref b1), .val (.int (gend p0 p3)), .val (.int (gat p3)), .val (.int (1 : Int32)), .val (.ref b28), .val (.ref b79), .val (.ref e96b), .val (.int (1 : Int32))] [(.int (1 : Int32))])) _
          refine XS.goto X114.here hx rfl (pc0 := 480) (pc' := 484) rfl (hb hby at_480) (by decide) (by decide) ?_
          exact kt
        obtain ⟨fsQ, hr, hrun, hended, hW, hsame⟩ := X114.leave (v := some (.int (1 : Int32))) (fun h => by rw [Bd.returns] at h; cases h)
        refine ⟨_, _, pre0 _ (K115 _ ?_), hrun, hended, _, _, rfl, ?_, ⟨_, rfl⟩, hW, hsame.mono (by decide) (by decide)⟩
        · show Steps p.tables e below (T114.setTop (mkF m 484 #[.val (.int p0), .val (.int p1), .val (.int p2), .val (.int p3), .val (.ref b1), .val (.int (gend p0 p3)), .val (.int (gat p3)), .val (.int (1 : Int32)), .val (.ref b28), .val (.ref b79), .val (.ref e96b), .val (.int (1 : Int32))] [(.int (1 : Int32))])) _
          exact retN X114 hx (t := .boolean) Bd.returns (by simp) (hb hby at_484) hr
        · show Q0 Z p0 p1 p2 p3  h0 n0 _ T114.heap _
          rw [e114]
          exact ⟨rfl, N96⟩
    · skip
      have K116 : ∀ t, Steps p.tables e below (T48.setTop (mkF m 187 #[.val (.int p0), .val (.int p1), .val (.int p2), .val (.int p3), .val (.ref b1), .val (.int (gend p0 p3)), .val (.int (gat p3)), .val (.int (gul p3)), .val (.ref b28), .unset, .unset, .unset] [(.int (2 : Int32)), (.int (gul p3))])) t → Steps p.tables e below (s₁.setTop (mkF m 0 #[.val (.int p0), .val (.int p1), .val (.int p2), .val (.int p3), .unset, .unset, .unset, .unset, .unset, .unset, .unset, .unset] [])) t := by
        intro t kt
        refine K77 _ ?_
        show Steps p.tables e below (T48.setTop (mkF m 166 #[.val (.int p0), .val (.int p1), .val (.int p2), .val (.int p3), .val (.ref b1), .val (.int (gend p0 p3)), .val (.int (gat p3)), .val (.int (gul p3)), .val (.ref b28), .unset, .unset, .unset] [(.int (1 : Int32)), (.int (gul p3))])) _
        refine XS.icmpYes X48.here hx rfl (pc0 := 166) (pc' := 184) rfl (hb hby at_166) rfl (feq hc78).2 (by decide) (by decide) ?_
        show Steps p.tables e below (T48.setTop (mkF m 184 #[.val (.int p0), .val (.int p1), .val (.int p2), .val (.int p3), .val (.ref b1), .val (.int (gend p0 p3)), .val (.int (gat p3)), .val (.int (gul p3)), .val (.ref b28), .unset, .unset, .unset] [])) _
        refine XS.iload X48.here hx rfl (hb hby at_184) rfl ?_
        show Steps p.tables e below (T48.setTop (mkF m 186 #[.val (.int p0), .val (.int p1), .val (.int p2), .val (.int p3), .val (.ref b1), .val (.int (gend p0 p3)), .val (.int (gat p3)), .val (.int (gul p3)), .val (.ref b28), .unset, .unset, .unset] [(.int (gul p3))])) _
        refine XS.iconst X48.here hx rfl (hb hby at_186) ?_
        exact kt
      by_cases hc117 : (gul p3) = (2 : Int32)
      · skip
        obtain ⟨T118, h118, X118, e118, E118, A118, B118, st118⟩ := iaNewE X48 hx hZ (hw _ (List.mem_of_getElem? (i := 0) rfl)) e48 (g := (mkF m 191 #[.val (.int p0), .val (.int p1), .val (.int p2), .val (.int p3), .val (.ref b1), .val (.int (gend p0 p3)), .val (.int (gat p3)), .val (.int (gul p3)), .val (.ref b28), .unset, .unset, .unset] [(.int (2 : Int32))])) rfl (hb hby at_191) rfl 2 (by decide) 2 (Nat.le_refl _) (by decide) (by decide) (by decide) rfl (by decide) (ad := "[B") (by decide)
        obtain ⟨b118, g118⟩ : ∃ z, z = h48.size := ⟨_, rfl⟩
        rw [← g118] at A118 B118 st118
        have ne119 : b1 ≠ b118 := Nat.ne_of_lt (Nat.lt_of_lt_of_le G49.lt (Nat.le_of_eq g118.symm))
        have ne120 : b28 ≠ b118 := Nat.ne_of_lt (Nat.lt_of_lt_of_le G51.lt (Nat.le_of_eq g118.symm))
        have gn118 : n0 ≤ b118 := Nat.le_trans Z48 (Nat.le_of_eq g118.symm)
        have Z118 : n0 ≤ h118.size := Nat.le_trans Z48 E118.1
        have G121 : Exa Z h118 b1 "[B" := G49.ext E118
        have G122 : Ia Z h118 b1 .byte 6 fh := G50.ext E118
        have G123 : Exa Z h118 b28 "[B" := G51.ext E118
        have G124 : Ia Z h118 b28 .byte 4 fq := Afq.ext E118
        have G125 : Ia Z h118 b118 .byte 2 (fun _ => (0 : Int32)) := A118
        obtain ⟨T126, h126, X126, e126, W126, A126, st126⟩ := iaB X118 hx hZ e118 G125 (j := (0 : Int32)) 0 (by decide) (by decide) (g := (mkF m 199 #[.val (.int p0), .val (.int p1), .val (.int p2), .val (.int p3), .val (.ref b1), .val (.int (gend p0 p3)), .val (.int (gat p3)), .val (.int (gul p3)), .val (.ref b28), .unset, .unset, .unset] [(.int (fq 0)), (.int (0 : Int32)), (.ref b118), (.ref b118)])) rfl rfl (hb hby at_199)
        have G127 : Exa Z h126 b1 "[B" := G121.wr W126
        have G128 : Ia Z h126 b1 .byte 6 fh := G122.other W126 ne119
        have G129 : Exa Z h126 b28 "[B" := G123.wr W126
        have G130 : Ia Z h126 b28 .byte 4 fq := G124.other W126 ne120
        have G131 : Exa Z h126 b118 "[B" := B118.wr W126
        have G132 : Ia Z h126 b118 .byte 2 (up (fun _ => (0 : Int32)) 0 (nar .byte (fq 0))) := A126
        have Z126 : n0 ≤ h126.size := Nat.le_trans Z118 (Keep.of_wr W126).1
        have N126 := Fr.snoc X126 N48 gn118
        obtain ⟨T133, h133, X133, e133, W133, A133, st133⟩ := iaB X126 hx hZ e126 G132 (j := (1 : Int32)) 1 (by decide) (by decide) (g := (mkF m 206 #[.val (.int p0), .val (.int p1), .val (.int p2), .val (.int p3), .val (.ref b1), .val (.int (gend p0 p3)), .val (.int (gat p3)), .val (.int (gul p3)), .val (.ref b28), .unset, .unset, .unset] [(.int (fq 1)), (.int (1 : Int32)), (.ref b118), (.ref b118)])) rfl rfl (hb hby at_206)
        have G134 : Exa Z h133 b1 "[B" := G127.wr W133
        have G135 : Ia Z h133 b1 .byte 6 fh := G128.other W133 ne119
        have G136 : Exa Z h133 b28 "[B" := G129.wr W133
        have G137 : Ia Z h133 b28 .byte 4 fq := G130.other W133 ne120
        have G138 : Exa Z h133 b118 "[B" := G131.wr W133
        have G139 : Ia Z h133 b118 .byte 2 (up (up (fun _ => (0 : Int32)) 0 (nar .byte (fq 0))) 1 (nar .byte (fq 1))) := A133
        have Z133 : n0 ≤ h133.size := Nat.le_trans Z126 (Keep.of_wr W133).1
        have N133 := Fr.snoc X133 N126 gn118
        have K140 : ∀ t, Steps p.tables e below (T133.setTop (mkF m 280 #[.val (.int p0), .val (.int p1), .val (.int p2), .val (.int p3), .val (.ref b1), .val (.int (gend p0 p3)), .val (.int (gat p3)), .val (.int (gul p3)), .val (.ref b28), .val (.ref b118), .unset, .unset] [])) t → Steps p.tables e below (s₁.setTop (mkF m 0 #[.val (.int p0), .val (.int p1), .val (.int p2), .val (.int p3), .unset, .unset, .unset, .unset, .unset, .unset, .unset, .unset] [])) t := by
          intro t kt
          refine K116 _ ?_
          show Steps p.tables e below (T48.setTop (mkF m 187 #[.val (.int p0), .val (.int p1), .val (.int p2), .val (.int p3), .val (.ref b1), .val (.int (gend p0 p3)), .val (.int (gat p3)), .val (.int (gul p3)), .val (.ref b28), .unset, .unset, .unset] [(.int (2 : Int32)), (.int (gul p3))])) _
          refine XS.icmpNo X48.here hx rfl (hb hby at_187) rfl (teq hc117).2 ?_
          show Steps p.tables e below (T48.setTop (mkF m 190 #[.val (.int p0), .val (.int p1), .val (.int p2), .val (.int p3), .val (.ref b1), .val (.int (gend p0 p3)), .val (.int (gat p3)), .val (.int (gul p3)), .val (.ref b28), .unset, .unset, .unset] [])) _
          refine XS.iconst X48.here hx rfl (hb hby at_190) ?_
          show Steps p.tables e below (T48.setTop (mkF m 191 #[.val (.int p0), .val (.int p1), .val (.int p2), .val (.int p3), .val (.ref b1), .val (.int (gend p0 p3)), .val (.int (gat p3)), .val (.int (gul p3)), .val (.ref b28), .unset, .unset, .unset] [(.int (2 : Int32))])) _
          refine st118 _ ?_
          show Steps p.tables e below (T118.setTop (mkF m 193 #[.val (.int p0), .val (.int p1), .val (.int p2), .val (.int p3), .val (.ref b1), .val (.int (gend p0 p3)), .val (.int (gat p3)), .val (.int (gul p3)), .val (.ref b28), .unset, .unset, .unset] [(.ref b118)])) _
          refine XS.dup X118.here hx rfl (hb hby at_193) rfl rfl ?_
          show Steps p.tables e below (T118.setTop (mkF m 194 #[.val (.int p0), .val (.int p1), .val (.int p2), .val (.int p3), .val (.ref b1), .val (.int (gend p0 p3)), .val (.int (gat p3)), .val (.int (gul p3)), .val (.ref b28), .unset, .unset, .unset] [(.ref b118), (.ref b118)])) _
          refine XS.iconst X118.here hx rfl (hb hby at_194) ?_
          show Steps p.tables e below (T118.setTop (mkF m 195 #[.val (.int p0), .val (.int p1), .val (.int p2), .val (.int p3), .val (.ref b1), .val (.int (gend p0 p3)), .val (.int (gat p3)), .val (.int (gul p3)), .val (.ref b28), .unset, .unset, .unset] [(.int (0 : Int32)), (.ref b118), (.ref b118)])) _
          refine XS.aload X118.here hx rfl (hb hby at_195) rfl rfl ?_
          show Steps p.tables e below (T118.setTop (mkF m 197 #[.val (.int p0), .val (.int p1), .val (.int p2), .val (.int p3), .val (.ref b1), .val (.int (gend p0 p3)), .val (.int (gat p3)), .val (.int (gul p3)), .val (.ref b28), .unset, .unset, .unset] [(.ref b28), (.int (0 : Int32)), (.ref b118), (.ref b118)])) _
          refine XS.iconst X118.here hx rfl (hb hby at_197) ?_
          show Steps p.tables e below (T118.setTop (mkF m 198 #[.val (.int p0), .val (.int p1), .val (.int p2), .val (.int p3), .val (.ref b1), .val (.int (gend p0 p3)), .val (.int (gat p3)), .val (.int (gul p3)), .val (.ref b28), .unset, .unset, .unset] [(.int (0 : Int32)), (.ref b28), (.int (0 : Int32)), (.ref b118), (.ref b118)])) _
          refine iaLB X118 hx hZ e118 G124 (j := (0 : Int32)) 0 (by decide) (by decide) (g := (mkF m 198 #[.val (.int p0), .val (.int p1), .val (.int p2), .val (.int p3), .val (.ref b1), .val (.int (gend p0 p3)), .val (.int (gat p3)), .val (.int (gul p3)), .val (.ref b28), .unset, .unset, .unset] [(.int (0 : Int32)), (.ref b28), (.int (0 : Int32)), (.ref b118), (.ref b118)])) rfl rfl (hb hby at_198) _ ?_
          show Steps p.tables e below (T118.setTop (mkF m 199 #[.val (.int p0), .val (.int p1), .val (.int p2), .val (.int p3), .val (.ref b1), .val (.int (gend p0 p3)), .val (.int (gat p3)), .val (.int (gul p3)), .val (.ref b28), .unset, .unset, .unset] [(.int (fq 0)), (.int (0 : Int32)), (.ref b118), (.ref b118)])) _
          refine st126 _ ?_
          show Steps p.tables e below (T126.setTop (mkF m 200 #[.val (.int p0), .val (.int p1), .val (.int p2), .val (.int p3), .val (.ref b1), .val (.int (gend p0 p3)), .val (.int (gat p3)), .val (.int (gul p3)), .val (.ref b28), .unset, .unset, .unset] [(.ref b118)])) _
          refine XS.dup X126.here hx rfl (hb hby at_200) rfl rfl ?_
          show Steps p.tables e below (T126.setTop (mkF m 201 #[.val (.int p0), .val (.int p1), .val (.int p2), .val (.int p3), .val (.ref b1), .val (.int (gend p0 p3)), .val (.int (gat p3)), .val (.int (gul p3)), .val (.ref b28), .unset, .unset, .unset] [(.ref b118), (.ref b118)])) _
          refine XS.iconst X126.here hx rfl (hb hby at_201) ?_
          show Steps p.tables e below (T126.setTop (mkF m 202 #[.val (.int p0), .val (.int p1), .val (.int p2), .val (.int p3), .val (.ref b1), .val (.int (gend p0 p3)), .val (.int (gat p3)), .val (.int (gul p3)), .val (.ref b28), .unset, .unset, .unset] [(.int (1 : Int32)), (.ref b118), (.ref b118)])) _
          refine XS.aload X126.here hx rfl (hb hby at_202) rfl rfl ?_
          show Steps p.tables e below (T126.setTop (mkF m 204 #[.val (.int p0), .val (.int p1), .val (.int p2), .val (.int p3), .val (.ref b1), .val (.int (gend p0 p3)), .val (.int (gat p3)), .val (.int (gul p3)), .val (.ref b28), .unset, .unset, .unset] [(.ref b28), (.int (1 : Int32)), (.ref b118), (.ref b118)])) _
          refine XS.iconst X126.here hx rfl (hb hby at_204) ?_
          show Steps p.tables e below (T126.setTop (mkF m 205 #[.val (.int p0), .val (.int p1), .val (.int p2), .val (.int p3), .val (.ref b1), .val (.int (gend p0 p3)), .val (.int (gat p3)), .val (.int (gul p3)), .val (.ref b28), .unset, .unset, .unset] [(.int (1 : Int32)), (.ref b28), (.int (1 : Int32)), (.ref b118), (.ref b118)])) _
          refine iaLB X126 hx hZ e126 G130 (j := (1 : Int32)) 1 (by decide) (by decide) (g := (mkF m 205 #[.val (.int p0), .val (.int p1), .val (.int p2), .val (.int p3), .val (.ref b1), .val (.int (gend p0 p3)), .val (.int (gat p3)), .val (.int (gul p3)), .val (.ref b28), .unset, .unset, .unset] [(.int (1 : Int32)), (.ref b28), (.int (1 : Int32)), (.ref b118), (.ref b118)])) rfl rfl (hb hby at_205) _ ?_
          show Steps p.tables e below (T126.setTop (mkF m 206 #[.val (.int p0), .val (.int p1), .val (.int p2), .val (.int p3), .val (.ref b1), .val (.int (gend p0 p3)), .val (.int (gat p3)), .val (.int (gul p3)), .val (.ref b28), .unset, .unset, .unset] [(.int (fq 1)), (.int (1 : Int32)), (.ref b118), (.ref b118)])) _
          refine st133 _ ?_
          show Steps p.tables e below (T133.setTop (mkF m 207 #[.val (.int p0), .val (.int p1), .val (.int p2), .val (.int p3), .val (.ref b1), .val (.int (gend p0 p3)), .val (.int (gat p3)), .val (.int (gul p3)), .val (.ref b28), .unset, .unset, .unset] [(.ref b118)])) _
          refine XS.astore X133.here hx rfl (hb hby at_207) rfl rfl (l' := #[.val (.int p0), .val (.int p1), .val (.int p2), .val (.int p3), .val (.ref b1), .val (.int (gend p0 p3)), .val (.int (gat p3)), .val (.int (gul p3)), .val (.ref b28), .val (.ref b118), .unset, .unset]) rfl ?_
          show Steps p.tables e below (T133.setTop (mkF m 209 #[.val (.int p0), .val (.int p1), .val (.int p2), .val (.int p3), .val (.ref b1), .val (.int (gend p0 p3)), .val (.int (gat p3)), .val (.int (gul p3)), .val (.ref b28), .val (.ref b118), .unset, .unset] [])) _
          refine XS.goto X133.here hx rfl (pc0 := 209) (pc' := 280) rfl (hb hby at_209) (by decide) (by decide) ?_
          exact kt
        rw [hc117] at K140
        have G141 : Ia Z h133 b118 .byte 2 fq := G139.fun (by intro j hj; rcases (by omega : j = 0 ∨ j = 1) with rfl | rfl <;> exact own_narb (G137.fit (by decide)))
        obtain ⟨_, _, ⟨T142, L142, k142, n142⟩, -, X142, ⟨Lc142, hQ142, l142, y142, z142⟩, st142⟩ := Jvm.LawKit.callS X133 hx (y := (⟨"com/example/benchwire/benchwire/protocols/DelimitedText", "declaredDelimiters", "([BIB[B)[B"⟩ : MethodName)) hown (mvT hZ (hw _ (List.mem_of_getElem? (i := 5) rfl))) (mvT hZ (hw _ (List.mem_of_getElem? (i := 6) rfl))) (mvT hZ (hw _ (List.mem_of_getElem? (i := 7) rfl))) (mvT hZ (hw _ (List.mem_of_getElem? (i := 8) rfl))) (by decide) (backOf (W := 0) (rm2 l Z a0 hw [] b1 (gat p3) (gend p0 p3) b118 fh fq 2 a h133 n0 Z133 G135 G141 G138 (by decide) ha ha7) hZ (hw _ (List.mem_of_getElem? (i := 8) rfl)) (hw _ (List.mem_of_getElem? (i := 7) rfl)) (by decide) (by decide)) (g := (mkF m 288 #[.val (.int p0), .val (.int p1), .val (.int p2), .val (.int p3), .val (.ref b1), .val (.int (gend p0 p3)), .val (.int (gat p3)), .val (.int (2 : Int32)), .val (.ref b28), .val (.ref b118), .unset, .unset] [(.ref b118), (.int (gend p0 p3)), (.int (gat p3)), (.ref b1)])) rfl (by rw [hml]; rfl) (argsL := [(.ref b1), (.int (gat p3)), (.int (gend p0 p3)), (.ref b118)]) (rest := []) (lenOf pd_1 rfl) rfl (by show 2 * 0 + _ ≤ _; exact Nat.le_of_eq rfl) (hb hby at_288) (fun _ _ => ⟨rfl, e133, (by decide : 3 + 1 ≤ _), (by decide : 12 + 4 ≤ _)⟩)
        dsimp only [Pt.U, Pt.locs, Pt.cells, Pt.slots] at X142 l142 y142 z142 st142 hQ142
        subst l142 y142 z142
        obtain ⟨e142b, kk, rfl, N142q, K142q, S142q, DDq, A142q⟩ := hQ142
        have N142 := Fr.app N133 N142q
        have Z142 : n0 ≤ T142.heap.size := Nat.le_trans Z133 K142q.1
        have G143 : Exa Z T142.heap b1 "[B" := G134.keep K142q
        have G144 : Ia Z T142.heap b1 .byte 6 fh := G135.keep K142q nin0
        have G145 : Exa Z T142.heap b28 "[B" := G136.keep K142q
        have G146 : Ia Z T142.heap b28 .byte 4 fq := G137.keep K142q nin0
        have G147 : Exa Z T142.heap b118 "[B" := G138.keep K142q
        have G148 : Ia Z T142.heap b118 .byte 2 fq := G141.keep K142q nin0
        obtain ⟨_, _, ⟨T149, L149, k149, n149⟩, -, X149, ⟨Lc149, hQ149, l149, y149, z149⟩, st149⟩ := Jvm.LawKit.callS X142 hx (y := (⟨"com/example/benchwire/benchwire/protocols/DelimitedTextDeclaredDelimitersPinLaw", "ok", "([BIIB)Z"⟩ : MethodName)) hown (mvT hZ (hw _ (List.mem_of_getElem? (i := 21) rfl))) (mvT hZ (hw _ (List.mem_of_getElem? (i := 22) rfl))) (mvT hZ (hw _ (List.mem_of_getElem? (i := 3) rfl))) (mvT hZ (hw _ (List.mem_of_getElem? (i := 23) rfl))) (by decide) (backOf (W := 0) (rm4 l Z a0 hw [] b1 (gat p3) (0 : Int32) (gend p0 p3) fh a 0 T142.heap G144 ha (by decide) ha7 (by decide)) hZ (hw _ (List.mem_of_getElem? (i := 23) rfl)) (hw _ (List.mem_of_getElem? (i := 3) rfl)) (by decide) (by decide)) (g := (mkF m 325 #[.val (.int p0), .val (.int p1), .val (.int p2), .val (.int p3), .val (.ref b1), .val (.int (gend p0 p3)), .val (.int (gat p3)), .val (.int (2 : Int32)), .val (.ref b28), .val (.ref b118), .val (.ref e142b), .val (.int (0 : Int32))] [(.int (gend p0 p3)), (.int (0 : Int32)), (.int (gat p3)), (.ref b1)])) rfl (by rw [hml]; rfl) (argsL := [(.ref b1), (.int (gat p3)), (.int (0 : Int32)), (.int (gend p0 p3))]) (rest := []) (lenOf pd_3 rfl) rfl (by show 2 * 0 + _ ≤ _; exact Nat.le_of_eq rfl) (hb hby at_325) (fun _ _ => ⟨rfl, rfl, (by decide : 4 + 0 ≤ _), (by decide : 16 + 0 ≤ _)⟩)
        dsimp only [Pt.U, Pt.locs, Pt.cells, Pt.slots] at X149 l149 y149 z149 st149 hQ149
        subst l149 y149 z149
        obtain ⟨rfl, rfl, e149⟩ := hQ149
        try rw [List.append_nil] at X149
        have K150 : ∀ t, Steps p.tables e below (T149.setTop (mkF m 328 #[.val (.int p0), .val (.int p1), .val (.int p2), .val (.int p3), .val (.ref b1), .val (.int (gend p0 p3)), .val (.int (gat p3)), .val (.int (2 : Int32)), .val (.ref b28), .val (.ref b118), .val (.ref e142b), .val (.int (0 : Int32))] [(.int (f4 (gat p3) (0 : Int32) (gend p0 p3) fh a 0))])) t → Steps p.tables e below (s₁.setTop (mkF m 0 #[.val (.int p0), .val (.int p1), .val (.int p2), .val (.int p3), .unset, .unset, .unset, .unset, .unset, .unset, .unset, .unset] [])) t := by
          intro t kt
          refine K140 _ ?_
          show Steps p.tables e below (T133.setTop (mkF m 280 #[.val (.int p0), .val (.int p1), .val (.int p2), .val (.int p3), .val (.ref b1), .val (.int (gend p0 p3)), .val (.int (gat p3)), .val (.int (2 : Int32)), .val (.ref b28), .val (.ref b118), .unset, .unset] [])) _
          refine XS.aload X133.here hx rfl (hb hby at_280) rfl rfl ?_
          show Steps p.tables e below (T133.setTop (mkF m 282 #[.val (.int p0), .val (.int p1), .val (.int p2), .val (.int p3), .val (.ref b1), .val (.int (gend p0 p3)), .val (.int (gat p3)), .val (.int (2 : Int32)), .val (.ref b28), .val (.ref b118), .unset, .unset] [(.ref b1)])) _
          refine XS.iload X133.here hx rfl (hb hby at_282) rfl ?_
          show Steps p.tables e below (T133.setTop (mkF m 284 #[.val (.int p0), .val (.int p1), .val (.int p2), .val (.int p3), .val (.ref b1), .val (.int (gend p0 p3)), .val (.int (gat p3)), .val (.int (2 : Int32)), .val (.ref b28), .val (.ref b118), .unset, .unset] [(.int (gat p3)), (.ref b1)])) _
          refine XS.iload X133.here hx rfl (hb hby at_284) rfl ?_
          show Steps p.tables e below (T133.setTop (mkF m 286 #[.val (.int p0), .val (.int p1), .val (.int p2), .val (.int p3), .val (.ref b1), .val (.int (gend p0 p3)), .val (.int (gat p3)), .val (.int (2 : Int32)), .val (.ref b28), .val (.ref b118), .unset, .unset] [(.int (gend p0 p3)), (.int (gat p3)), (.ref b1)])) _
          refine XS.aload X133.here hx rfl (hb hby at_286) rfl rfl ?_
          show Steps p.tables e below (T133.setTop (mkF m 288 #[.val (.int p0), .val (.int p1), .val (.int p2), .val (.int p3), .val (.ref b1), .val (.int (gend p0 p3)), .val (.int (gat p3)), .val (.int (2 : Int32)), .val (.ref b28), .val (.ref b118), .unset, .unset] [(.ref b118), (.int (gend p0 p3)), (.int (gat p3)), (.ref b1)])) _
          refine st142 _ ?_
          show Steps p.tables e below (T142.setTop (mkF m 291 #[.val (.int p0), .val (.int p1), .val (.int p2), .val (.int p3), .val (.ref b1), .val (.int (gend p0 p3)), .val (.int (gat p3)), .val (.int (2 : Int32)), .val (.ref b28), .val (.ref b118), .unset, .unset] [(.ref e142b)])) _
          refine XS.astore X142.here hx rfl (hb hby at_291) rfl rfl (l' := #[.val (.int p0), .val (.int p1), .val (.int p2), .val (.int p3), .val (.ref b1), .val (.int (gend p0 p3)), .val (.int (gat p3)), .val (.int (2 : Int32)), .val (.ref b28), .val (.ref b118), .val (.ref e142b), .unset]) rfl ?_
          show Steps p.tables e below (T142.setTop (mkF m 293 #[.val (.int p0), .val (.int p1), .val (.int p2), .val (.int p3), .val (.ref b1), .val (.int (gend p0 p3)), .val (.int (gat p3)), .val (.int (2 : Int32)), .val (.ref b28), .val (.ref b118), .val (.ref e142b), .unset] [])) _
          refine XS.aload X142.here hx rfl (hb hby at_293) rfl rfl ?_
          show Steps p.tables e below (T142.setTop (mkF m 295 #[.val (.int p0), .val (.int p1), .val (.int p2), .val (.int p3), .val (.ref b1), .val (.int (gend p0 p3)), .val (.int (gat p3)), .val (.int (2 : Int32)), .val (.ref b28), .val (.ref b118), .val (.ref e142b), .unset] [(.ref e142b)])) _
          refine XS.ifnullNo X142.here hx rfl (hb hby at_295) rfl ?_
          show Steps p.tables e below (T142.setTop (mkF m 298 #[.val (.int p0), .val (.int p1), .val (.int p2), .val (.int p3), .val (.ref b1), .val (.int (gend p0 p3)), .val (.int (gat p3)), .val (.int (2 : Int32)), .val (.ref b28), .val (.ref b118), .val (.ref e142b), .unset] [])) _
          refine XS.aload X142.here hx rfl (hb hby at_298) rfl rfl ?_
          show Steps p.tables e below (T142.setTop (mkF m 300 #[.val (.int p0), .val (.int p1), .val (.int p2), .val (.int p3), .val (.ref b1), .val (.int (gend p0 p3)), .val (.int (gat p3)), .val (.int (2 : Int32)), .val (.ref b28), .val (.ref b118), .val (.ref e142b), .unset] [(.ref e142b)])) _
          refine iaLen X142 hx hZ rfl A142q (g := (mkF m 300 #[.val (.int p0), .val (.int p1), .val (.int p2), .val (.int p3), .val (.ref b1), .val (.int (gend p0 p3)), .val (.int (gat p3)), .val (.int (2 : Int32)), .val (.ref b28), .val (.ref b118), .val (.ref e142b), .unset] [(.ref e142b)])) rfl rfl (hb hby at_300) _ ?_
          show Steps p.tables e below (T142.setTop (mkF m 301 #[.val (.int p0), .val (.int p1), .val (.int p2), .val (.int p3), .val (.ref b1), .val (.int (gend p0 p3)), .val (.int (gat p3)), .val (.int (2 : Int32)), .val (.ref b28), .val (.ref b118), .val (.ref e142b), .unset] [(.int (2 : Int32))])) _
          refine XS.iload X142.here hx rfl (hb hby at_301) rfl ?_
          show Steps p.tables e below (T142.setTop (mkF m 303 #[.val (.int p0), .val (.int p1), .val (.int p2), .val (.int p3), .val (.ref b1), .val (.int (gend p0 p3)), .val (.int (gat p3)), .val (.int (2 : Int32)), .val (.ref b28), .val (.ref b118), .val (.ref e142b), .unset] [(.int (2 : Int32)), (.int (2 : Int32))])) _
          refine XS.icmpYes X142.here hx rfl (pc0 := 303) (pc' := 308) rfl (hb hby at_303) rfl (teq (rfl : (2 : Int32) = (2 : Int32))).1 (by decide) (by decide) ?_
          show Steps p.tables e below (T142.setTop (mkF m 308 #[.val (.int p0), .val (.int p1), .val (.int p2), .val (.int p3), .val (.ref b1), .val (.int (gend p0 p3)), .val (.int (gat p3)), .val (.int (2 : Int32)), .val (.ref b28), .val (.ref b118), .val (.ref e142b), .unset] [])) _
          refine XS.iconst X142.here hx rfl (hb hby at_308) ?_
          show Steps p.tables e below (T142.setTop (mkF m 309 #[.val (.int p0), .val (.int p1), .val (.int p2), .val (.int p3), .val (.ref b1), .val (.int (gend p0 p3)), .val (.int (gat p3)), .val (.int (2 : Int32)), .val (.ref b28), .val (.ref b118), .val (.ref e142b), .unset] [(.int (0 : Int32))])) _
          refine XS.istore X142.here hx rfl (hb hby at_309) rfl (l' := #[.val (.int p0), .val (.int p1), .val (.int p2), .val (.int p3), .val (.ref b1), .val (.int (gend p0 p3)), .val (.int (gat p3)), .val (.int (2 : Int32)), .val (.ref b28), .val (.ref b118), .val (.ref e142b), .val (.int (0 : Int32))]) rfl ?_
          show Steps p.tables e below (T142.setTop (mkF m 311 #[.val (.int p0), .val (.int p1), .val (.int p2), .val (.int p3), .val (.ref b1), .val (.int (gend p0 p3)), .val (.int (gat p3)), .val (.int (2 : Int32)), .val (.ref b28), .val (.ref b118), .val (.ref e142b), .val (.int (0 : Int32))] [])) _
          refine XS.iload X142.here hx rfl (hb hby at_311) rfl ?_
          show Steps p.tables e below (T142.setTop (mkF m 313 #[.val (.int p0), .val (.int p1), .val (.int p2), .val (.int p3), .val (.ref b1), .val (.int (gend p0 p3)), .val (.int (gat p3)), .val (.int (2 : Int32)), .val (.ref b28), .val (.ref b118), .val (.ref e142b), .val (.int (0 : Int32))] [(.int (0 : Int32))])) _
          refine XS.iload X142.here hx rfl (hb hby at_313) rfl ?_
          show Steps p.tables e below (T142.setTop (mkF m 315 #[.val (.int p0), .val (.int p1), .val (.int p2), .val (.int p3), .val (.ref b1), .val (.int (gend p0 p3)), .val (.int (gat p3)), .val (.int (2 : Int32)), .val (.ref b28), .val (.ref b118), .val (.ref e142b), .val (.int (0 : Int32))] [(.int (2 : Int32)), (.int (0 : Int32))])) _
          refine XS.icmpNo X142.here hx rfl (hb hby at_315) rfl (tlt (by decide : (0 : Int32) < (2 : Int32))).2.1 ?_
          show Steps p.tables e below (T142.setTop (mkF m 318 #[.val (.int p0), .val (.int p1), .val (.int p2), .val (.int p3), .val (.ref b1), .val (.int (gend p0 p3)), .val (.int (gat p3)), .val (.int (2 : Int32)), .val (.ref b28), .val (.ref b118), .val (.ref e142b), .val (.int (0 : Int32))] [])) _
          refine XS.aload X142.here hx rfl (hb hby at_318) rfl rfl ?_
          show Steps p.tables e below (T142.setTop (mkF m 320 #[.val (.int p0), .val (.int p1), .val (.int p2), .val (.int p3), .val (.ref b1), .val (.int (gend p0 p3)), .val (.int (gat p3)), .val (.int (2 : Int32)), .val (.ref b28), .val (.ref b118), .val (.ref e142b), .val (.int (0 : Int32))] [(.ref b1)])) _
          refine XS.iload X142.here hx rfl (hb hby at_320) rfl ?_
          show Steps p.tables e below (T142.setTop (mkF m 322 #[.val (.int p0), .val (.int p1), .val (.int p2), .val (.int p3), .val (.ref b1), .val (.int (gend p0 p3)), .val (.int (gat p3)), .val (.int (2 : Int32)), .val (.ref b28), .val (.ref b118), .val (.ref e142b), .val (.int (0 : Int32))] [(.int (gat p3)), (.ref b1)])) _
          refine XS.iconst X142.here hx rfl (hb hby at_322) ?_
          show Steps p.tables e below (T142.setTop (mkF m 323 #[.val (.int p0), .val (.int p1), .val (.int p2), .val (.int p3), .val (.ref b1), .val (.int (gend p0 p3)), .val (.int (gat p3)), .val (.int (2 : Int32)), .val (.ref b28), .val (.ref b118), .val (.ref e142b), .val (.int (0 : Int32))] [(.int (0 : Int32)), (.int (gat p3)), (.ref b1)])) _
          refine XS.iload X142.here hx rfl (hb hby at_323) rfl ?_
          show Steps p.tables e below (T142.setTop (mkF m 325 #[.val (.int p0), .val (.int p1), .val (.int p2), .val (.int p3), .val (.ref b1), .val (.int (gend p0 p3)), .val (.int (gat p3)), .val (.int (2 : Int32)), .val (.ref b28), .val (.ref b118), .val (.ref e142b), .val (.int (0 : Int32))] [(.int (gend p0 p3)), (.int (0 : Int32)), (.int (gat p3)), (.ref b1)])) _
          refine st149 _ ?_
          exact kt
        by_cases hc151 : (f4 (gat p3) (0 : Int32) (gend p0 p3) fh a 0) = (0 : Int32)
        · skip
          have hok : ∀ j, j < 0 → okP fh a (gend p0 p3) j := by
            intro j hj
            exact absurd hj (Nat.not_lt_zero _)
          obtain rfl : kk = 0 := own_dd DDq (by decide) hok (Or.inr ((own_ok ha (i := 0) (by decide) ha7 (by decide)).mp hc151))
          obtain ⟨_, _, ⟨T152, L152, k152, n152⟩, -, X152, ⟨Lc152, hQ152, l152, y152, z152⟩, st152⟩ := Jvm.LawKit.callS X149 hx (y := (⟨"com/example/benchwire/benchwire/protocols/DelimitedTextDeclaredDelimitersPinLaw", "cell", "([B[B[BIII[B)Z"⟩ : MethodName)) hown (mvT hZ (hw _ (List.mem_of_getElem? (i := 18) rfl))) (mvT hZ (hw _ (List.mem_of_getElem? (i := 19) rfl))) (mvT hZ (hw _ (List.mem_of_getElem? (i := 3) rfl))) (mvT hZ (hw _ (List.mem_of_getElem? (i := 20) rfl))) (by decide) (backOf (W := 0) (rm3 l Z a0 hw [] e142b b118 b1 (gat p3) (0 : Int32) (0 : Int32) b28 (fun j => if j < 0 then fh (a + j) else fq j) fq fh fq 2 a 0 T142.heap A142q G148 G144 G146 ha (by decide) ha7 (by decide) (by decide) (fun z => absurd z (by decide))) hZ (hw _ (List.mem_of_getElem? (i := 20) rfl)) (hw _ (List.mem_of_getElem? (i := 3) rfl)) (by decide) (by decide)) (g := (mkF m 416 #[.val (.int p0), .val (.int p1), .val (.int p2), .val (.int p3), .val (.ref b1), .val (.int (gend p0 p3)), .val (.int (gat p3)), .val (.int (2 : Int32)), .val (.ref b28), .val (.ref b118), .val (.ref e142b), .val (.int (0 : Int32))] [(.ref b28), (.int (0 : Int32)), (.int (0 : Int32)), (.int (gat p3)), (.ref b1), (.ref b118), (.ref e142b)])) rfl (by rw [hml]; rfl) (argsL := [(.ref e142b), (.ref b118), (.ref b1), (.int (gat p3)), (.int (0 : Int32)), (.int (0 : Int32)), (.ref b28)]) (rest := []) (lenOf pd_2 rfl) rfl (by show 2 * 0 + _ ≤ _; exact Nat.le_of_eq rfl) (hb hby at_416) (fun _ _ => ⟨rfl, e149, (by decide : 4 + 0 ≤ _), (by decide : 16 + 0 ≤ _)⟩)
          dsimp only [Pt.U, Pt.locs, Pt.cells, Pt.slots] at X152 l152 y152 z152 st152 hQ152
          subst l152 y152 z152
          obtain ⟨rfl, rfl, e152⟩ := hQ152
          try rw [List.append_nil] at X152
          obtain ⟨_, _, ⟨T153, L153, k153, n153⟩, -, X153, ⟨Lc153, hQ153, l153, y153, z153⟩, st153⟩ := Jvm.LawKit.callS X152 hx (y := (⟨"com/example/benchwire/benchwire/protocols/DelimitedTextDeclaredDelimitersPinLaw", "cell", "([B[B[BIII[B)Z"⟩ : MethodName)) hown (mvT hZ (hw _ (List.mem_of_getElem? (i := 18) rfl))) (mvT hZ (hw _ (List.mem_of_getElem? (i := 19) rfl))) (mvT hZ (hw _ (List.mem_of_getElem? (i := 3) rfl))) (mvT hZ (hw _ (List.mem_of_getElem? (i := 20) rfl))) (by decide) (backOf (W := 0) (rm3 l Z a0 hw [] e142b b118 b1 (gat p3) (0 : Int32) (1 : Int32) b28 (fun j => if j < 0 then fh (a + j) else fq j) fq fh fq 2 a 1 T142.heap A142q G148 G144 G146 ha (by decide) ha7 (by decide) (by decide) (fun z => absurd z (by decide))) hZ (hw _ (List.mem_of_getElem? (i := 20) rfl)) (hw _ (List.mem_of_getElem? (i := 3) rfl)) (by decide) (by decide)) (g := (mkF m 435 #[.val (.int p0), .val (.int p1), .val (.int p2), .val (.int p3), .val (.ref b1), .val (.int (gend p0 p3)), .val (.int (gat p3)), .val (.int (2 : Int32)), .val (.ref b28), .val (.ref b118), .val (.ref e142b), .val (.int (0 : Int32))] [(.ref b28), (.int (1 : Int32)), (.int (0 : Int32)), (.int (gat p3)), (.ref b1), (.ref b118), (.ref e142b)])) rfl (by rw [hml]; rfl) (argsL := [(.ref e142b), (.ref b118), (.ref b1), (.int (gat p3)), (.int (0 : Int32)), (.int (1 : Int32)), (.ref b28)]) (rest := []) (lenOf pd_2 rfl) rfl (by show 2 * 0 + _ ≤ _; exact Nat.le_of_eq rfl) (hb hby at_435) (fun _ _ => ⟨rfl, e152, (by decide : 4 + 0 ≤ _), (by decide : 16 + 0 ≤ _)⟩)
          dsimp only [Pt.U, Pt.locs, Pt.cells, Pt.slots] at X153 l153 y153 z153 st153 hQ153
          subst l153 y153 z153
          obtain ⟨rfl, rfl, e153⟩ := hQ153
          try rw [List.append_nil] at X153
          obtain ⟨_, _, ⟨T154, L154, k154, n154⟩, -, X154, ⟨Lc154, hQ154, l154, y154, z154⟩, st154⟩ := Jvm.LawKit.callS X153 hx (y := (⟨"com/example/benchwire/benchwire/protocols/DelimitedTextDeclaredDelimitersPinLaw", "cell", "([B[B[BIII[B)Z"⟩ : MethodName)) hown (mvT hZ (hw _ (List.mem_of_getElem? (i := 18) rfl))) (mvT hZ (hw _ (List.mem_of_getElem? (i := 19) rfl))) (mvT hZ (hw _ (List.mem_of_getElem? (i := 3) rfl))) (mvT hZ (hw _ (List.mem_of_getElem? (i := 20) rfl))) (by decide) (backOf (W := 0) (rm3 l Z a0 hw [] e142b b118 b1 (gat p3) (0 : Int32) (2 : Int32) b28 (fun j => if j < 0 then fh (a + j) else fq j) fq fh fq 2 a 2 T142.heap A142q G148 G144 G146 ha (by decide) ha7 (by decide) (by decide) (fun z => absurd z (by decide))) hZ (hw _ (List.mem_of_getElem? (i := 20) rfl)) (hw _ (List.mem_of_getElem? (i := 3) rfl)) (by decide) (by decide)) (g := (mkF m 454 #[.val (.int p0), .val (.int p1), .val (.int p2), .val (.int p3), .val (.ref b1), .val (.int (gend p0 p3)), .val (.int (gat p3)), .val (.int (2 : Int32)), .val (.ref b28), .val (.ref b118), .val (.ref e142b), .val (.int (0 : Int32))] [(.ref b28), (.int (2 : Int32)), (.int (0 : Int32)), (.int (gat p3)), (.ref b1), (.ref b118), (.ref e142b)])) rfl (by rw [hml]; rfl) (argsL := [(.ref e142b), (.ref b118), (.ref b1), (.int (gat p3)), (.int (0 : Int32)), (.int (2 : Int32)), (.ref b28)]) (rest := []) (lenOf pd_2 rfl) rfl (by show 2 * 0 + _ ≤ _; exact Nat.le_of_eq rfl) (hb hby at_454) (fun _ _ => ⟨rfl, e153, (by decide : 4 + 0 ≤ _), (by decide : 16 + 0 ≤ _)⟩)
          dsimp only [Pt.U, Pt.locs, Pt.cells, Pt.slots] at X154 l154 y154 z154 st154 hQ154
          subst l154 y154 z154
          obtain ⟨rfl, rfl, e154⟩ := hQ154
          try rw [List.append_nil] at X154
          obtain ⟨_, _, ⟨T155, L155, k155, n155⟩, -, X155, ⟨Lc155, hQ155, l155, y155, z155⟩, st155⟩ := Jvm.LawKit.callS X154 hx (y := (⟨"com/example/benchwire/benchwire/protocols/DelimitedTextDeclaredDelimitersPinLaw", "cell", "([B[B[BIII[B)Z"⟩ : MethodName)) hown (mvT hZ (hw _ (List.mem_of_getElem? (i := 18) rfl))) (mvT hZ (hw _ (List.mem_of_getElem? (i := 19) rfl))) (mvT hZ (hw _ (List.mem_of_getElem? (i := 3) rfl))) (mvT hZ (hw _ (List.mem_of_getElem? (i := 20) rfl))) (by decide) (backOf (W := 0) (rm3 l Z a0 hw [] e142b b118 b1 (gat p3) (0 : Int32) (3 : Int32) b28 (fun j => if j < 0 then fh (a + j) else fq j) fq fh fq 2 a 3 T142.heap A142q G148 G144 G146 ha (by decide) ha7 (by decide) (by decide) (fun z => absurd z (by decide))) hZ (hw _ (List.mem_of_getElem? (i := 20) rfl)) (hw _ (List.mem_of_getElem? (i := 3) rfl)) (by decide) (by decide)) (g := (mkF m 473 #[.val (.int p0), .val (.int p1), .val (.int p2), .val (.int p3), .val (.ref b1), .val (.int (gend p0 p3)), .val (.int (gat p3)), .val (.int (2 : Int32)), .val (.ref b28), .val (.ref b118), .val (.ref e142b), .val (.int (0 : Int32))] [(.ref b28), (.int (3 : Int32)), (.int (0 : Int32)), (.int (gat p3)), (.ref b1), (.ref b118), (.ref e142b)])) rfl (by rw [hml]; rfl) (argsL := [(.ref e142b), (.ref b118), (.ref b1), (.int (gat p3)), (.int (0 : Int32)), (.int (3 : Int32)), (.ref b28)]) (rest := []) (lenOf pd_2 rfl) rfl (by show 2 * 0 + _ ≤ _; exact Nat.le_of_eq rfl) (hb hby at_473) (fun _ _ => ⟨rfl, e154, (by decide : 4 + 0 ≤ _), (by decide : 16 + 0 ≤ _)⟩)
          dsimp only [Pt.U, Pt.locs, Pt.cells, Pt.slots] at X155 l155 y155 z155 st155 hQ155
          subst l155 y155 z155
          obtain ⟨rfl, rfl, e155⟩ := hQ155
          try rw [List.append_nil] at X155
          have K156 : ∀ t, Steps p.tables e below (T155.setTop (mkF m 484 #[.val (.int p0), .val (.int p1), .val (.int p2), .val (.int p3), .val (.ref b1), .val (.int (gend p0 p3)), .val (.int (gat p3)), .val (.int (2 : Int32)), .val (.ref b28), .val (.ref b118), .val (.ref e142b), .val (.int (0 : Int32))] [(.int (1 : Int32))])) t → Steps p.tables e below (s₁.setTop (mkF m 0 #[.val (.int p0), .val (.int p1), .val (.int p2), .val (.int p3), .unset, .unset, .unset, .unset, .unset, .unset, .unset, .unset] [])) t := by
            intro t kt
            refine K150 _ ?_
            show Steps p.tables e below (T149.setTop (mkF m 328 #[.val (.int p0), .val (.int p1), .val (.int p2), .val (.int p3), .val (.ref b1), .val (.int (gend p0 p3)), .val (.int (gat p3)), .val (.int (2 : Int32)), .val (.ref b28), .val (.ref b118), .val (.ref e142b), .val (.int (0 : Int32))] [(.int (f4 (gat p3) (0 : Int32) (gend p0 p3) fh a 0))])) _
            refine XS.ifYes X149.here hx rfl (pc0 := 328) (pc' := 403) rfl (hb hby at_328) rfl ((if0 _ _).trans (teq hc151).1) (by decide) (by decide) ?_
            show Steps p.tables e below (T149.setTop (mkF m 403 #[.val (.int p0), .val (.int p1), .val (.int p2), .val (.int p3), .val (.ref b1), .val (.int (gend p0 p3)), .val (.int (gat p3)), .val (.int (2 : Int32)), .val (.ref b28), .val (.ref b118), .val (.ref e142b), .val (.int (0 : Int32))] [])) _
            refine XS.aload X149.here hx rfl (hb hby at_403) rfl rfl ?_
            show Steps p.tables e below (T149.setTop (mkF m 405 #[.val (.int p0), .val (.int p1), .val (.int p2), .val (.int p3), .val (.ref b1), .val (.int (gend p0 p3)), .val (.int (gat p3)), .val (.int (2 : Int32)), .val (.ref b28), .val (.ref b118), .val (.ref e142b), .val (.int (0 : Int32))] [(.ref e142b)])) _
            refine XS.aload X149.here hx rfl (hb hby at_405) rfl rfl ?_
            show Steps p.tables e below (T149.setTop (mkF m 407 #[.val (.int p0), .val (.int p1), .val (.int p2), .val (.int p3), .val (.ref b1), .val (.int (gend p0 p3)), .val (.int (gat p3)), .val (.int (2 : Int32)), .val (.ref b28), .val (.ref b118), .val (.ref e142b), .val (.int (0 : Int32))] [(.ref b118), (.ref e142b)])) _
            refine XS.aload X149.here hx rfl (hb hby at_407) rfl rfl ?_
            show Steps p.tables e below (T149.setTop (mkF m 409 #[.val (.int p0), .val (.int p1), .val (.int p2), .val (.int p3), .val (.ref b1), .val (.int (gend p0 p3)), .val (.int (gat p3)), .val (.int (2 : Int32)), .val (.ref b28), .val (.ref b118), .val (.ref e142b), .val (.int (0 : Int32))] [(.ref b1), (.ref b118), (.ref e142b)])) _
            refine XS.iload X149.here hx rfl (hb hby at_409) rfl ?_
            show Steps p.tables e below (T149.setTop (mkF m 411 #[.val (.int p0), .val (.int p1), .val (.int p2), .val (.int p3), .val (.ref b1), .val (.int (gend p0 p3)), .val (.int (gat p3)), .val (.int (2 : Int32)), .val (.ref b28), .val (.ref b118), .val (.ref e142b), .val (.int (0 : Int32))] [(.int (gat p3)), (.ref b1), (.ref b118), (.ref e142b)])) _
            refine XS.iload X149.here hx rfl (hb hby at_411) rfl ?_
            show Steps p.tables e below (T149.setTop (mkF m 413 #[.val (.int p0), .val (.int p1), .val (.int p2), .val (.int p3), .val (.ref b1), .val (.int (gend p0 p3)), .val (.int (gat p3)), .val (.int (2 : Int32)), .val (.ref b28), .val (.ref b118), .val (.ref e142b), .val (.int (0 : Int32))] [(.int (0 : Int32)), (.int (gat p3)), (.ref b1), (.ref b118), (.ref e142b)])) _
            refine XS.iconst X149.here hx rfl (hb hby at_413) ?_
            show Steps p.tables e below (T149.setTop (mkF m 414 #[.val (.int p0), .val (.int p1), .val (.int p2), .val (.int p3), .val (.ref b1), .val (.int (gend p0 p3)), .val (.int (gat p3)), .val (.int (2 : Int32)), .val (.ref b28), .val (.ref b118), .val (.ref e142b), .val (.int (0 : Int32))] [(.int (0 : Int32)), (.int (0 : Int32)), (.int (gat p3)), (.ref b1), (.ref b118), (.ref e142b)])) _
            refine XS.aload X149.here hx rfl (hb hby at_414) rfl rfl ?_
            show Steps p.tables e below (T149.setTop (mkF m 416 #[.val (.int p0), .val (.int p1), .val (.int p2), .val (.int p3), .val (.ref b1), .val (.int (gend p0 p3)), .val (.int (gat p3)), .val (.int (2 : Int32)), .val (.ref b28), .val (.ref b118), .val (.ref e142b), .val (.int (0 : Int32))] [(.ref b28), (.int (0 : Int32)), (.int (0 : Int32)), (.int (gat p3)), (.ref b1), (.ref b118), (.ref e142b)])) _
            refine st152 _ ?_
            show Steps p.tables e below (T152.setTop (mkF m 419 #[.val (.int p0), .val (.int p1), .val (.int p2), .val (.int p3), .val (.ref b1), .val (.int (gend p0 p3)), .val (.int (gat p3)), .val (.int (2 : Int32)), .val (.ref b28), .val (.ref b118), .val (.ref e142b), .val (.int (0 : Int32))] [(.int (f3 (gat p3) (0 : Int32) (0 : Int32) (fun j => if j < 0 then fh (a + j) else fq j) fq fh fq 2 a 0))])) _
            refine XS.ifNo X152.here hx rfl (hb hby at_419) rfl ((if0 _ _).trans (feq (show ¬ ((f3 (gat p3) (0 : Int32) (0 : Int32) (fun j => if j < 0 then fh (a + j) else fq j) fq fh fq 2 a 0) = (0 : Int32)) from (own_cell (K := 0) (i := 0) rfl rfl (by decide) (by decide) (fun j hj => rfl) (fun j hj => rfl)))).1) ?_
            show Steps p.tables e below (T152.setTop (mkF m 422 #[.val (.int p0), .val (.int p1), .val (.int p2), .val (.int p3), .val (.ref b1), .val (.int (gend p0 p3)), .val (.int (gat p3)), .val (.int (2 : Int32)), .val (.ref b28), .val (.ref b118), .val (.ref e142b), .val (.int (0 : Int32))] [])) _
            refine XS.aload X152.here hx rfl (hb hby at_422) rfl rfl ?_
            show Steps p.tables e below (T152.setTop (mkF m 424 #[.val (.int p0), .val (.int p1), .val (.int p2), .val (.int p3), .val (.ref b1), .val (.int (gend p0 p3)), .val (.int (gat p3)), .val (.int (2 : Int32)), .val (.ref b28), .val (.ref b118), .val (.ref e142b), .val (.int (0 : Int32))] [(.ref e142b)])) _
            refine XS.aload X152.here hx rfl (hb hby at_424) rfl rfl ?_
            show Steps p.tables e below (T152.setTop (mkF m 426 #[.val (.int p0), .val (.int p1), .val (.int p2), .val (.int p3), .val (.ref b1), .val (.int (gend p0 p3)), .val (.int (gat p3)), .val (.int (2 : Int32)), .val (.ref b28), .val (.ref b118), .val (.ref e142b), .val (.int (0 : Int32))] [(.ref b118), (.ref e142b)])) _
            refine XS.aload X152.here hx rfl (hb hby at_426) rfl rfl ?_
            show Steps p.tables e below (T152.setTop (mkF m 428 #[.val (.int p0), .val (.int p1), .val (.int p2), .val (.int p3), .val (.ref b1), .val (.int (gend p0 p3)), .val (.int (gat p3)), .val (.int (2 : Int32)), .val (.ref b28), .val (.ref b118), .val (.ref e142b), .val (.int (0 : Int32))] [(.ref b1), (.ref b118), (.ref e142b)])) _
            refine XS.iload X152.here hx rfl (hb hby at_428) rfl ?_
            show Steps p.tables e below (T152.setTop (mkF m 430 #[.val (.int p0), .val (.int p1), .val (.int p2), .val (.int p3), .val (.ref b1), .val (.int (gend p0 p3)), .val (.int (gat p3)), .val (.int (2 : Int32)), .val (.ref b28), .val (.ref b118), .val (.ref e142b), .val (.int (0 : Int32))] [(.int (gat p3)), (.ref b1), (.ref b118), (.ref e142b)])) _
            refine XS.iload X152.here hx rfl (hb hby at_430) rfl ?_
            show Steps p.tables e below (T152.setTop (mkF m 432 #[.val (.int p0), .val (.int p1), .val (.int p2), .val (.int p3), .val (.ref b1), .val (.int (gend p0 p3)), .val (.int (gat p3)), .val (.int (2 : Int32)), .val (.ref b28), .val (.ref b118), .val (.ref e142b), .val (.int (0 : Int32))] [(.int (0 : Int32)), (.int (gat p3)), (.ref b1), (.ref b118), (.ref e142b)])) _
            refine XS.iconst X152.here hx rfl (hb hby at_432) ?_
            show Steps p.tables e below (T152.setTop (mkF m 433 #[.val (.int p0), .val (.int p1), .val (.int p2), .val (.int p3), .val (.ref b1), .val (.int (gend p0 p3)), .val (.int (gat p3)), .val (.int (2 : Int32)), .val (.ref b28), .val (.ref b118), .val (.ref e142b), .val (.int (0 : Int32))] [(.int (1 : Int32)), (.int (0 : Int32)), (.int (gat p3)), (.ref b1), (.ref b118), (.ref e142b)])) _
            refine XS.aload X152.here hx rfl (hb hby at_433) rfl rfl ?_
            show Steps p.tables e below (T152.setTop (mkF m 435 #[.val (.int p0), .val (.int p1), .val (.int p2), .val (.int p3), .val (.ref b1), .val (.int (gend p0 p3)), .val (.int (gat p3)), .val (.int (2 : Int32)), .val (.ref b28), .val (.ref b118), .val (.ref e142b), .val (.int (0 : Int32))] [(.ref b28), (.int (1 : Int32)), (.int (0 : Int32)), (.int (gat p3)), (.ref b1), (.ref b118), (.ref e142b)])) _
            refine st153 _ ?_
            show Steps p.tables e below (T153.setTop (mkF m 438 #[.val (.int p0), .val (.int p1), .val (.int p2), .val (.int p3), .val (.ref b1), .val (.int (gend p0 p3)), .val (.int (gat p3)), .val (.int (2 : Int32)), .val (.ref b28), .val (.ref b118), .val (.ref e142b), .val (.int (0 : Int32))] [(.int (f3 (gat p3) (0 : Int32) (1 : Int32) (fun j => if j < 0 then fh (a + j) else fq j) fq fh fq 2 a 1))])) _
            refine XS.ifNo X153.here hx rfl (hb hby at_438) rfl ((if0 _ _).trans (feq (show ¬ ((f3 (gat p3) (0 : Int32) (1 : Int32) (fun j => if j < 0 then fh (a + j) else fq j) fq fh fq 2 a 1) = (0 : Int32)) from (own_cell (K := 0) (i := 1) rfl rfl (by decide) (by decide) (fun j hj => rfl) (fun j hj => rfl)))).1) ?_
            show Steps p.tables e below (T153.setTop (mkF m 441 #[.val (.int p0), .val (.int p1), .val (.int p2), .val (.int p3), .val (.ref b1), .val (.int (gend p0 p3)), .val (.int (gat p3)), .val (.int (2 : Int32)), .val (.ref b28), .val (.ref b118), .val (.ref e142b), .val (.int (0 : Int32))] [])) _
            refine XS.aload X153.here hx rfl (hb hby at_441) rfl rfl ?_
            show Steps p.tables e below (T153.setTop (mkF m 443 #[.val (.int p0), .val (.int p1), .val (.int p2), .val (.int p3), .val (.ref b1), .val (.int (gend p0 p3)), .val (.int (gat p3)), .val (.int (2 : Int32)), .val (.ref b28), .val (.ref b118), .val (.ref e142b), .val (.int (0 : Int32))] [(.ref e142b)])) _
            refine XS.aload X153.here hx rfl (hb hby at_443) rfl rfl ?_
            show Steps p.tables e below (T153.setTop (mkF m 445 #[.val (.int p0), .val (.int p1), .val (.int p2), .val (.int p3), .val (.ref b1), .val (.int (gend p0 p3)), .val (.int (gat p3)), .val (.int (2 : Int32)), .val (.ref b28), .val (.ref b118), .val (.ref e142b), .val (.int (0 : Int32))] [(.ref b118), (.ref e142b)])) _
            refine XS.aload X153.here hx rfl (hb hby at_445) rfl rfl ?_
            show Steps p.tables e below (T153.setTop (mkF m 447 #[.val (.int p0), .val (.int p1), .val (.int p2), .val (.int p3), .val (.ref b1), .val (.int (gend p0 p3)), .val (.int (gat p3)), .val (.int (2 : Int32)), .val (.ref b28), .val (.ref b118), .val (.ref e142b), .val (.int (0 : Int32))] [(.ref b1), (.ref b118), (.ref e142b)])) _
            refine XS.iload X153.here hx rfl (hb hby at_447) rfl ?_
            show Steps p.tables e below (T153.setTop (mkF m 449 #[.val (.int p0), .val (.int p1), .val (.int p2), .val (.int p3), .val (.ref b1), .val (.int (gend p0 p3)), .val (.int (gat p3)), .val (.int (2 : Int32)), .val (.ref b28), .val (.ref b118), .val (.ref e142b), .val (.int (0 : Int32))] [(.int (gat p3)), (.ref b1), (.ref b118), (.ref e142b)])) _
            refine XS.iload X153.here hx rfl (hb hby at_449) rfl ?_
            show Steps p.tables e below (T153.setTop (mkF m 451 #[.val (.int p0), .val (.int p1), .val (.int p2), .val (.int p3), .val (.ref b1), .val (.int (gend p0 p3)), .val (.int (gat p3)), .val (.int (2 : Int32)), .val (.ref b28), .val (.ref b118), .val (.ref e142b), .val (.int (0 : Int32))] [(.int (0 : Int32)), (.int (gat p3)), (.ref b1), (.ref b118), (.ref e142b)])) _
            refine XS.iconst X153.here hx rfl (hb hby at_451) ?_
            show Steps p.tables e below (T153.setTop (mkF m 452 #[.val (.int p0), .val (.int p1), .val (.int p2), .val (.int p3), .val (.ref b1), .val (.int (gend p0 p3)), .val (.int (gat p3)), .val (.int (2 : Int32)), .val (.ref b28), .val (.ref b118), .val (.ref e142b), .val (.int (0 : Int32))] [(.int (2 : Int32)), (.int (0 : Int32)), (.int (gat p3)), (.ref b1), (.ref b118), (.ref e142b)])) _
            refine XS.aload X153.here hx rfl (hb hby at_452) rfl rfl ?_
            show Steps p.tables e below (T153.setTop (mkF m 454 #[.val (.int p0), .val (.int p1), .val (.int p2), .val (.int p3), .val (.ref b1), .val (.int (gend p0 p3)), .val (.int (gat p3)), .val (.int (2 : Int32)), .val (.ref b28), .val (.ref b118), .val (.ref e142b), .val (.int (0 : Int32))] [(.ref b28), (.int (2 : Int32)), (.int (0 : Int32)), (.int (gat p3)), (.ref b1), (.ref b118), (.ref e142b)])) _
            refine st154 _ ?_
            show Steps p.tables e below (T154.setTop (mkF m 457 #[.val (.int p0), .val (.int p1), .val (.int p2), .val (.int p3), .val (.ref b1), .val (.int (gend p0 p3)), .val (.int (gat p3)), .val (.int (2 : Int32)), .val (.ref b28), .val (.ref b118), .val (.ref e142b), .val (.int (0 : Int32))] [(.int (f3 (gat p3) (0 : Int32) (2 : Int32) (fun j => if j < 0 then fh (a + j) else fq j) fq fh fq 2 a 2))])) _
            refine XS.ifNo X154.here hx rfl (hb hby at_457) rfl ((if0 _ _).trans (feq (show ¬ ((f3 (gat p3) (0 : Int32) (2 : Int32) (fun j => if j < 0 then fh (a + j) else fq j) fq fh fq 2 a 2) = (0 : Int32)) from (own_cell (K := 0) (i := 2) rfl rfl (by decide) (by decide) (fun j hj => rfl) (fun j hj => rfl)))).1) ?_
            show Steps p.tables e below (T154.setTop (mkF m 460 #[.val (.int p0), .val (.int p1), .val (.int p2), .val (.int p3), .val (.ref b1), .val (.int (gend p0 p3)), .val (.int (gat p3)), .val (.int (2 : Int32)), .val (.ref b28), .val (.ref b118), .val (.ref e142b), .val (.int (0 : Int32))] [])) _
            refine XS.aload X154.here hx rfl (hb hby at_460) rfl rfl ?_
            show Steps p.tables e below (T154.setTop (mkF m 462 #[.val (.int p0), .val (.int p1), .val (.int p2), .val (.int p3), .val (.ref b1), .val (.int (gend p0 p3)), .val (.int (gat p3)), .val (.int (2 : Int32)), .val (.ref b28), .val (.ref b118), .val (.ref e142b), .val (.int (0 : Int32))] [(.ref e142b)])) _
            refine XS.aload X154.here hx rfl (hb hby at_462) rfl rfl ?_
            show Steps p.tables e below (T154.setTop (mkF m 464 #[.val (.int p0), .val (.int p1), .val (.int p2), .val (.int p3), .val (.ref b1), .val (.int (gend p0 p3)), .val (.int (gat p3)), .val (.int (2 : Int32)), .val (.ref b28), .val (.ref b118), .val (.ref e142b), .val (.int (0 : Int32))] [(.ref b118), (.ref e142b)])) _
            refine XS.aload X154.here hx rfl (hb hby at_464) rfl rfl ?_
            show Steps p.tables e below (T154.setTop (mkF m 466 #[.val (.int p0), .val (.int p1), .val (.int p2), .val (.int p3), .val (.ref b1), .val (.int (gend p0 p3)), .val (.int (gat p3)), .val (.int (2 : Int32)), .val (.ref b28), .val (.ref b118), .val (.ref e142b), .val (.int (0 : Int32))] [(.ref b1), (.ref b118), (.ref e142b)])) _
            refine XS.iload X154.here hx rfl (hb hby at_466) rfl ?_
            show Steps p.tables e below (T154.setTop (mkF m 468 #[.val (.int p0), .val (.int p1), .val (.int p2), .val (.int p3), .val (.ref b1), .val (.int (gend p0 p3)), .val (.int (gat p3)), .val (.int (2 : Int32)), .val (.ref b28), .val (.ref b118), .val (.ref e142b), .val (.int (0 : Int32))] [(.int (gat p3)), (.ref b1), (.ref b118), (.ref e142b)])) _
            refine XS.iload X154.here hx rfl (hb hby at_468) rfl ?_
            show Steps p.tables e below (T154.setTop (mkF m 470 #[.val (.int p0), .val (.int p1), .val (.int p2), .val (.int p3), .val (.ref b1), .val (.int (gend p0 p3)), .val (.int (gat p3)), .val (.int (2 : Int32)), .val (.ref b28), .val (.ref b118), .val (.ref e142b), .val (.int (0 : Int32))] [(.int (0 : Int32)), (.int (gat p3)), (.ref b1), (.ref b118), (.ref e142b)])) _
            refine XS.iconst X154.here hx rfl (hb hby at_470) ?_
            show Steps p.tables e below (T154.setTop (mkF m 471 #[.val (.int p0), .val (.int p1), .val (.int p2), .val (.int p3), .val (.ref b1), .val (.int (gend p0 p3)), .val (.int (gat p3)), .val (.int (2 : Int32)), .val (.ref b28), .val (.ref b118), .val (.ref e142b), .val (.int (0 : Int32))] [(.int (3 : Int32)), (.int (0 : Int32)), (.int (gat p3)), (.ref b1), (.ref b118), (.ref e142b)])) _
            refine XS.aload X154.here hx rfl (hb hby at_471) rfl rfl ?_
            show Steps p.tables e below (T154.setTop (mkF m 473 #[.val (.int p0), .val (.int p1), .val (.int p2), .val (.int p3), .val (.ref b1), .val (.int (gend p0 p3)), .val (.int (gat p3)), .val (.int (2 : Int32)), .val (.ref b28), .val (.ref b118), .val (.ref e142b), .val (.int (0 : Int32))] [(.ref b28), (.int (3 : Int32)), (.int (0 : Int32)), (.int (gat p3)), (.ref b1), (.ref b118), (.ref e142b)])) _
            refine st155 _ ?_
            show Steps p.tables e below (T155.setTop (mkF m 476 #[.val (.int p0), .val (.int p1), .val (.int p2), .val (.int p3), .val (.ref b1), .val (.int (gend p0 p3)), .val (.int (gat p3)), .val (.int (2 : Int32)), .val (.ref b28), .val (.ref b118), .val (.ref e142b), .val (.int (0 : Int32))] [(.int (f3 (gat p3) (0 : Int32) (3 : Int32) (fun j => if j < 0 then fh (a + j) else fq j) fq fh fq 2 a 3))])) _
            refine XS.ifNo X155.here hx rfl (hb hby at_476) rfl ((if0 _ _).trans (feq (show ¬ ((f3 (gat p3) (0 : Int32) (3 : Int32) (fun j => if j < 0 then fh (a + j) else fq j) fq fh fq 2 a 3) = (0 : Int32)) from (own_cell (K := 0) (i := 3) rfl rfl (by decide) (by decide) (fun j hj => rfl) (fun j hj => rfl)))).1) ?_
            show Steps p.tables e below (T155.setTop (mkF m 479 #[.val (.int p0), .val (.int p1), .val (.int p2), .val (.int p3), .val (.ref b1), .val (.int (gend p0 p3)), .val (.int (gat p3)), .val (.int (2 : Int32)), .val (.ref b28), .val (.ref b118), .val (.ref e142b), .val (.int (0 : Int32))] [])) _
            refine XS.iconst X155.here hx rfl (hb hby at_479) ?_
            show Steps p.tables e below (T155.setTop (mkF m 480 #[.val (.int p0), .val (.int p1), .val (.int p2), .val (.int p3), .val (.ref b1), .val (.int (gend p0 p3)), .val (.int (gat p3)), .val (.int (2 : Int32)), .val (.ref b28), .val (.ref b118), .val (.ref e142b), .val (.int (0 : Int32))] [(.int (1 : Int32))])) _
            refine XS.goto X155.here hx rfl (pc0 := 480) (pc' := 484) rfl (hb hby at_480) (by decide) (by decide) ?_
            exact kt
          obtain ⟨fsQ, hr, hrun, hended, hW, hsame⟩ := X155.leave (v := some (.int (1 : Int32))) (fun h => by rw [Bd.returns] at h; cases h)
          refine ⟨_, _, pre0 _ (K156 _ ?_), hrun, hended, _, _, rfl, ?_, ⟨_, rfl⟩, hW, hsame.mono (by decide) (by decide)⟩
          · show Steps p.tables e below (T155.setTop (mkF m 484 #[.val (.int p0), .val (.int p1), .val (.int p2), .val (.int p3), .val (.ref b1), .val (.int (gend p0 p3)), .val (.int (gat p3)), .val (.int (2 : Int32)), .val (.ref b28), .val (.ref b118), .val (.ref e142b), .val (.int (0 : Int32))] [(.int (1 : Int32))])) _
            exact retN X155 hx (t := .boolean) Bd.returns (by simp) (hb hby at_484) hr
          · show Q0 Z p0 p1 p2 p3  h0 n0 _ T155.heap _
            rw [e155]
            exact ⟨rfl, N142⟩
        · skip
          obtain ⟨_, _, ⟨T157, L157, k157, n157⟩, -, X157, ⟨Lc157, hQ157, l157, y157, z157⟩, st157⟩ := Jvm.LawKit.callS X149 hx (y := (⟨"com/example/benchwire/benchwire/protocols/DelimitedTextDeclaredDelimitersPinLaw", "ok", "([BIIB)Z"⟩ : MethodName)) hown (mvT hZ (hw _ (List.mem_of_getElem? (i := 21) rfl))) (mvT hZ (hw _ (List.mem_of_getElem? (i := 22) rfl))) (mvT hZ (hw _ (List.mem_of_getElem? (i := 3) rfl))) (mvT hZ (hw _ (List.mem_of_getElem? (i := 23) rfl))) (by decide) (backOf (W := 0) (rm4 l Z a0 hw [] b1 (gat p3) (1 : Int32) (gend p0 p3) fh a 1 T142.heap G144 ha (by decide) ha7 (by decide)) hZ (hw _ (List.mem_of_getElem? (i := 23) rfl)) (hw _ (List.mem_of_getElem? (i := 3) rfl)) (by decide) (by decide)) (g := (mkF m 348 #[.val (.int p0), .val (.int p1), .val (.int p2), .val (.int p3), .val (.ref b1), .val (.int (gend p0 p3)), .val (.int (gat p3)), .val (.int (2 : Int32)), .val (.ref b28), .val (.ref b118), .val (.ref e142b), .val (.int (1 : Int32))] [(.int (gend p0 p3)), (.int (1 : Int32)), (.int (gat p3)), (.ref b1)])) rfl (by rw [hml]; rfl) (argsL := [(.ref b1), (.int (gat p3)), (.int (1 : Int32)), (.int (gend p0 p3))]) (rest := []) (lenOf pd_3 rfl) rfl (by show 2 * 0 + _ ≤ _; exact Nat.le_of_eq rfl) (hb hby at_348) (fun _ _ => ⟨rfl, e149, (by decide : 4 + 0 ≤ _), (by decide : 16 + 0 ≤ _)⟩)
          dsimp only [Pt.U, Pt.locs, Pt.cells, Pt.slots] at X157 l157 y157 z157 st157 hQ157
          subst l157 y157 z157
          obtain ⟨rfl, rfl, e157⟩ := hQ157
          try rw [List.append_nil] at X157
          have K158 : ∀ t, Steps p.tables e below (T157.setTop (mkF m 351 #[.val (.int p0), .val (.int p1), .val (.int p2), .val (.int p3), .val (.ref b1), .val (.int (gend p0 p3)), .val (.int (gat p3)), .val (.int (2 : Int32)), .val (.ref b28), .val (.ref b118), .val (.ref e142b), .val (.int (1 : Int32))] [(.int (f4 (gat p3) (1 : Int32) (gend p0 p3) fh a 1))])) t → Steps p.tables e below (s₁.setTop (mkF m 0 #[.val (.int p0), .val (.int p1), .val (.int p2), .val (.int p3), .unset, .unset, .unset, .unset, .unset, .unset, .unset, .unset] [])) t := by
            intro t kt
            refine K150 _ ?_
            show Steps p.tables e below (T149.setTop (mkF m 328 #[.val (.int p0), .val (.int p1), .val (.int p2), .val (.int p3), .val (.ref b1), .val (.int (gend p0 p3)), .val (.int (gat p3)), .val (.int (2 : Int32)), .val (.ref b28), .val (.ref b118), .val (.ref e142b), .val (.int (0 : Int32))] [(.int (f4 (gat p3) (0 : Int32) (gend p0 p3) fh a 0))])) _
            refine XS.ifNo X149.here hx rfl (hb hby at_328) rfl ((if0 _ _).trans (feq hc151).1) ?_
            show Steps p.tables e below (T149.setTop (mkF m 331 #[.val (.int p0), .val (.int p1), .val (.int p2), .val (.int p3), .val (.ref b1), .val (.int (gend p0 p3)), .val (.int (gat p3)), .val (.int (2 : Int32)), .val (.ref b28), .val (.ref b118), .val (.ref e142b), .val (.int (0 : Int32))] [])) _
            refine XS.iconst X149.here hx rfl (hb hby at_331) ?_
            show Steps p.tables e below (T149.setTop (mkF m 332 #[.val (.int p0), .val (.int p1), .val (.int p2), .val (.int p3), .val (.ref b1), .val (.int (gend p0 p3)), .val (.int (gat p3)), .val (.int (2 : Int32)), .val (.ref b28), .val (.ref b118), .val (.ref e142b), .val (.int (0 : Int32))] [(.int (1 : Int32))])) _
            refine XS.istore X149.here hx rfl (hb hby at_332) rfl (l' := #[.val (.int p0), .val (.int p1), .val (.int p2), .val (.int p3), .val (.ref b1), .val (.int (gend p0 p3)), .val (.int (gat p3)), .val (.int (2 : Int32)), .val (.ref b28), .val (.ref b118), .val (.ref e142b), .val (.int (1 : Int32))]) rfl ?_
            show Steps p.tables e below (T149.setTop (mkF m 334 #[.val (.int p0), .val (.int p1), .val (.int p2), .val (.int p3), .val (.ref b1), .val (.int (gend p0 p3)), .val (.int (gat p3)), .val (.int (2 : Int32)), .val (.ref b28), .val (.ref b118), .val (.ref e142b), .val (.int (1 : Int32))] [])) _
            refine XS.iload X149.here hx rfl (hb hby at_334) rfl ?_
            show Steps p.tables e below (T149.setTop (mkF m 336 #[.val (.int p0), .val (.int p1), .val (.int p2), .val (.int p3), .val (.ref b1), .val (.int (gend p0 p3)), .val (.int (gat p3)), .val (.int (2 : Int32)), .val (.ref b28), .val (.ref b118), .val (.ref e142b), .val (.int (1 : Int32))] [(.int (1 : Int32))])) _
            refine XS.iload X149.here hx rfl (hb hby at_336) rfl ?_
            show Steps p.tables e below (T149.setTop (mkF m 338 #[.val (.int p0), .val (.int p1), .val (.int p2), .val (.int p3), .val (.ref b1), .val (.int (gend p0 p3)), .val (.int (gat p3)), .val (.int (2 : Int32)), .val (.ref b28), .val (.ref b118), .val (.ref e142b), .val (.int (1 : Int32))] [(.int (2 : Int32)), (.int (1 : Int32))])) _
            refine XS.icmpNo X149.here hx rfl (hb hby at_338) rfl (tlt (by decide : (1 : Int32) < (2 : Int32))).2.1 ?_
            show Steps p.tables e below (T149.setTop (mkF m 341 #[.val (.int p0), .val (.int p1), .val (.int p2), .val (.int p3), .val (.ref b1), .val (.int (gend p0 p3)), .val (.int (gat p3)), .val (.int (2 : Int32)), .val (.ref b28), .val (.ref b118), .val (.ref e142b), .val (.int (1 : Int32))] [])) _
            refine XS.aload X149.here hx rfl (hb hby at_341) rfl rfl ?_
            show Steps p.tables e below (T149.setTop (mkF m 343 #[.val (.int p0), .val (.int p1), .val (.int p2), .val (.int p3), .val (.ref b1), .val (.int (gend p0 p3)), .val (.int (gat p3)), .val (.int (2 : Int32)), .val (.ref b28), .val (.ref b118), .val (.ref e142b), .val (.int (1 : Int32))] [(.ref b1)])) _
            refine XS.iload X149.here hx rfl (hb hby at_343) rfl ?_
            show Steps p.tables e below (T149.setTop (mkF m 345 #[.val (.int p0), .val (.int p1), .val (.int p2), .val (.int p3), .val (.ref b1), .val (.int (gend p0 p3)), .val (.int (gat p3)), .val (.int (2 : Int32)), .val (.ref b28), .val (.ref b118), .val (.ref e142b), .val (.int (1 : Int32))] [(.int (gat p3)), (.ref b1)])) _
            refine XS.iconst X149.here hx rfl (hb hby at_345) ?_
            show Steps p.tables e below (T149.setTop (mkF m 346 #[.val (.int p0), .val (.int p1), .val (.int p2), .val (.int p3), .val (.ref b1), .val (.int (gend p0 p3)), .val (.int (gat p3)), .val (.int (2 : Int32)), .val (.ref b28), .val (.ref b118), .val (.ref e142b), .val (.int (1 : Int32))] [(.int (1 : Int32)), (.int (gat p3)), (.ref b1)])) _
            refine XS.iload X149.here hx rfl (hb hby at_346) rfl ?_
            show Steps p.tables e below (T149.setTop (mkF m 348 #[.val (.int p0), .val (.int p1), .val (.int p2), .val (.int p3), .val (.ref b1), .val (.int (gend p0 p3)), .val (.int (gat p3)), .val (.int (2 : Int32)), .val (.ref b28), .val (.ref b118), .val (.ref e142b), .val (.int (1 : Int32))] [(.int (gend p0 p3)), (.int (1 : Int32)), (.int (gat p3)), (.ref b1)])) _
            refine st157 _ ?_
            exact kt
          by_cases hc159 : (f4 (gat p3) (1 : Int32) (gend p0 p3) fh a 1) = (0 : Int32)
          · skip
            have hok : ∀ j, j < 1 → okP fh a (gend p0 p3) j := by
              intro j hj
              rcases (by omega : j = 0) with rfl
              · exact (Classical.byContradiction fun y => hc151 ((own_ok ha (i := 0) (by decide) ha7 (by decide)).mpr y))
            obtain rfl : kk = 1 := own_dd DDq (by decide) hok (Or.inr ((own_ok ha (i := 1) (by decide) ha7 (by decide)).mp hc159))
            obtain ⟨_, _, ⟨T160, L160, k160, n160⟩, -, X160, ⟨Lc160, hQ160, l160, y160, z160⟩, st160⟩ := Jvm.LawKit.callS X157 hx (y := (⟨"com/example/benchwire/benchwire/protocols/DelimitedTextDeclaredDelimitersPinLaw", "cell", "([B[B[BIII[B)Z"⟩ : MethodName)) hown (mvT hZ (hw _ (List.mem_of_getElem? (i := 18) rfl))) (mvT hZ (hw _ (List.mem_of_getElem? (i := 19) rfl))) (mvT hZ (hw _ (List.mem_of_getElem? (i := 3) rfl))) (mvT hZ (hw _ (List.mem_of_getElem? (i := 20) rfl))) (by decide) (backOf (W := 0) (rm3 l Z a0 hw [] e142b b118 b1 (gat p3) (1 : Int32) (0 : Int32) b28 (fun j => if j < 1 then fh (a + j) else fq j) fq fh fq 2 a 0 T142.heap A142q G148 G144 G146 ha (by decide) ha7 (by decide) (by decide) (fun _ => (hok 0 (by decide)).1)) hZ (hw _ (List.mem_of_getElem? (i := 20) rfl)) (hw _ (List.mem_of_getElem? (i := 3) rfl)) (by decide) (by decide)) (g := (mkF m 416 #[.val (.int p0), .val (.int p1), .val (.int p2), .val (.int p3), .val (.ref b1), .val (.int (gend p0 p3)), .val (.int (gat p3)), .val (.int (2 : Int32)), .val (.ref b28), .val (.ref b118), .val (.ref e142b), .val (.int (1 : Int32))] [(.ref b28), (.int (0 : Int32)), (.int (1 : Int32)), (.int (gat p3)), (.ref b1), (.ref b118), (.ref e142b)])) rfl (by rw [hml]; rfl) (argsL := [(.ref e142b), (.ref b118), (.ref b1), (.int (gat p3)), (.int (1 : Int32)), (.int (0 : Int32)), (.ref b28)]) (rest := []) (lenOf pd_2 rfl) rfl (by show 2 * 0 + _ ≤ _; exact Nat.le_of_eq rfl) (hb hby at_416) (fun _ _ => ⟨rfl, e157, (by decide : 4 + 0 ≤ _), (by decide : 16 + 0 ≤ _)⟩)
            dsimp only [Pt.U, Pt.locs, Pt.cells, Pt.slots] at X160 l160 y160 z160 st160 hQ160
            subst l160 y160 z160
            obtain ⟨rfl, rfl, e160⟩ := hQ160
            try rw [List.append_nil] at X160
            obtain ⟨_, _, ⟨T161, L161, k161, n161⟩, -, X161, ⟨Lc161, hQ161, l161, y161, z161⟩, st161⟩ := Jvm.LawKit.callS X160 hx (y := (⟨"com/example/benchwire/benchwire/protocols/DelimitedTextDeclaredDelimitersPinLaw", "cell", "([B[B[BIII[B)Z"⟩ : MethodName)) hown (mvT hZ (hw _ (List.mem_of_getElem? (i := 18) rfl))) (mvT hZ (hw _ (List.mem_of_getElem? (i := 19) rfl))) (mvT hZ (hw _ (List.mem_of_getElem? (i := 3) rfl))) (mvT hZ (hw _ (List.mem_of_getElem? (i := 20) rfl))) (by decide) (backOf (W := 0) (rm3 l Z a0 hw [] e142b b118 b1 (gat p3) (1 : Int32) (1 : Int32) b28 (fun j => if j < 1 then fh (a + j) else fq j) fq fh fq 2 a 1 T142.heap A142q G148 G144 G146 ha (by decide) ha7 (by decide) (by decide) (fun z => absurd z (by decide))) hZ (hw _ (List.mem_of_getElem? (i := 20) rfl)) (hw _ (List.mem_of_getElem? (i := 3) rfl)) (by decide) (by decide)) (g := (mkF m 435 #[.val (.int p0), .val (.int p1), .val (.int p2), .val (.int p3), .val (.ref b1), .val (.int (gend p0 p3)), .val (.int (gat p3)), .val (.int (2 : Int32)), .val (.ref b28), .val (.ref b118), .val (.ref e142b), .val (.int (1 : Int32))] [(.ref b28), (.int (1 : Int32)), (.int (1 : Int32)), (.int (gat p3)), (.ref b1), (.ref b118), (.ref e142b)])) rfl (by rw [hml]; rfl) (argsL := [(.ref e142b), (.ref b118), (.ref b1), (.int (gat p3)), (.int (1 : Int32)), (.int (1 : Int32)), (.ref b28)]) (rest := []) (lenOf pd_2 rfl) rfl (by show 2 * 0 + _ ≤ _; exact Nat.le_of_eq rfl) (hb hby at_435) (fun _ _ => ⟨rfl, e160, (by decide : 4 + 0 ≤ _), (by decide : 16 + 0 ≤ _)⟩)
            dsimp only [Pt.U, Pt.locs, Pt.cells, Pt.slots] at X161 l161 y161 z161 st161 hQ161
            subst l161 y161 z161
            obtain ⟨rfl, rfl, e161⟩ := hQ161
            try rw [List.append_nil] at X161
            obtain ⟨_, _, ⟨T162, L162, k162, n162⟩, -, X162, ⟨Lc162, hQ162, l162, y162, z162⟩, st162⟩ := Jvm.LawKit.callS X161 hx (y := (⟨"com/example/benchwire/benchwire/protocols/DelimitedTextDeclaredDelimitersPinLaw", "cell", "([B[B[BIII[B)Z"⟩ : MethodName)) hown (mvT hZ (hw _ (List.mem_of_getElem? (i := 18) rfl))) (mvT hZ (hw _ (List.mem_of_getElem? (i := 19) rfl))) (mvT hZ (hw _ (List.mem_of_getElem? (i := 3) rfl))) (mvT hZ (hw _ (List.mem_of_getElem? (i := 20) rfl))) (by decide) (backOf (W := 0) (rm3 l Z a0 hw [] e142b b118 b1 (gat p3) (1 : Int32) (2 : Int32) b28 (fun j => if j < 1 then fh (a + j) else fq j) fq fh fq 2 a 2 T142.heap A142q G148 G144 G146 ha (by decide) ha7 (by decide) (by decide) (fun z => absurd z (by decide))) hZ (hw _ (List.mem_of_getElem? (i := 20) rfl)) (hw _ (List.mem_of_getElem? (i := 3) rfl)) (by decide) (by decide)) (g := (mkF m 454 #[.val (.int p0), .val (.int p1), .val (.int p2), .val (.int p3), .val (.ref b1), .val (.int (gend p0 p3)), .val (.int (gat p3)), .val (.int (2 : Int32)), .val (.ref b28), .val (.ref b118), .val (.ref e142b), .val (.int (1 : Int32))] [(.ref b28), (.int (2 : Int32)), (.int (1 : Int32)), (.int (gat p3)), (.ref b1), (.ref b118), (.ref e142b)])) rfl (by rw [hml]; rfl) (argsL := [(.ref e142b), (.ref b118), (.ref b1), (.int (gat p3)), (.int (1 : Int32)), (.int (2 : Int32)), (.ref b28)]) (rest := []) (lenOf pd_2 rfl) rfl (by show 2 * 0 + _ ≤ _; exact Nat.le_of_eq rfl) (hb hby at_454) (fun _ _ => ⟨rfl, e161, (by decide : 4 + 0 ≤ _), (by decide : 16 + 0 ≤ _)⟩)
            dsimp only [Pt.U, Pt.locs, Pt.cells, Pt.slots] at X162 l162 y162 z162 st162 hQ162
            subst l162 y162 z162
            obtain ⟨rfl, rfl, e162⟩ := hQ162
            try rw [List.append_nil] at X162
            obtain ⟨_, _, ⟨T163, L163, k163, n163⟩, -, X163, ⟨Lc163, hQ163, l163, y163, z163⟩, st163⟩ := Jvm.LawKit.callS X162 hx (y := (⟨"com/example/benchwire/benchwire/protocols/DelimitedTextDeclaredDelimitersPinLaw", "cell", "([B[B[BIII[B)Z"⟩ : MethodName)) hown (mvT hZ (hw _ (List.mem_of_getElem? (i := 18) rfl))) (mvT hZ (hw _ (List.mem_of_getElem? (i := 19) rfl))) (mvT hZ (hw _ (List.mem_of_getElem? (i := 3) rfl))) (mvT hZ (hw _ (List.mem_of_getElem? (i := 20) rfl))) (by decide) (backOf (W := 0) (rm3 l Z a0 hw [] e142b b118 b1 (gat p3) (1 : Int32) (3 : Int32) b28 (fun j => if j < 1 then fh (a + j) else fq j) fq fh fq 2 a 3 T142.heap A142q G148 G144 G146 ha (by decide) ha7 (by decide) (by decide) (fun z => absurd z (by decide))) hZ (hw _ (List.mem_of_getElem? (i := 20) rfl)) (hw _ (List.mem_of_getElem? (i := 3) rfl)) (by decide) (by decide)) (g := (mkF m 473 #[.val (.int p0), .val (.int p1), .val (.int p2), .val (.int p3), .val (.ref b1), .val (.int (gend p0 p3)), .val (.int (gat p3)), .val (.int (2 : Int32)), .val (.ref b28), .val (.ref b118), .val (.ref e142b), .val (.int (1 : Int32))] [(.ref b28), (.int (3 : Int32)), (.int (1 : Int32)), (.int (gat p3)), (.ref b1), (.ref b118), (.ref e142b)])) rfl (by rw [hml]; rfl) (argsL := [(.ref e142b), (.ref b118), (.ref b1), (.int (gat p3)), (.int (1 : Int32)), (.int (3 : Int32)), (.ref b28)]) (rest := []) (lenOf pd_2 rfl) rfl (by show 2 * 0 + _ ≤ _; exact Nat.le_of_eq rfl) (hb hby at_473) (fun _ _ => ⟨rfl, e162, (by decide : 4 + 0 ≤ _), (by decide : 16 + 0 ≤ _)⟩)
            dsimp only [Pt.U, Pt.locs, Pt.cells, Pt.slots] at X163 l163 y163 z163 st163 hQ163
            subst l163 y163 z163
            obtain ⟨rfl, rfl, e163⟩ := hQ163
            try rw [List.append_nil] at X163
            have K164 : ∀ t, Steps p.tables e below (T163.setTop (mkF m 484 #[.val (.int p0), .val (.int p1), .val (.int p2), .val (.int p3), .val (.ref b1), .val (.int (gend p0 p3)), .val (.int (gat p3)), .val (.int (2 : Int32)), .val (.ref b28), .val (.ref b118), .val (.ref e142b), .val (.int (1 : Int32))] [(.int (1 : Int32))])) t → Steps p.tables e below (s₁.setTop (mkF m 0 #[.val (.int p0), .val (.int p1), .val (.int p2), .val (.int p3), .unset, .unset, .unset, .unset, .unset, .unset, .unset, .unset] [])) t := by
              intro t kt
              refine K158 _ ?_
              show Steps p.tables e below (T157.setTop (mkF m 351 #[.val (.int p0), .val (.int p1), .val (.int p2), .val (.int p3), .val (.ref b1), .val (.int (gend p0 p3)), .val (.int (gat p3)), .val (.int (2 : Int32)), .val (.ref b28), .val (.ref b118), .val (.ref e142b), .val (.int (1 : Int32))] [(.int (f4 (gat p3) (1 : Int32) (gend p0 p3) fh a 1))])) _
              refine XS.ifYes X157.here hx rfl (pc0 := 351) (pc' := 403) rfl (hb hby at_351) rfl ((if0 _ _).trans (teq hc159).1) (by decide) (by decide) ?_
              show Steps p.tables e below (T157.setTop (mkF m 403 #[.val (.int p0), .val (.int p1), .val (.int p2), .val (.int p3), .val (.ref b1), .val (.int (gend p0 p3)), .val (.int (gat p3)), .val (.int (2 : Int32)), .val (.ref b28), .val (.ref b118), .val (.ref e142b), .val (.int (1 : Int32))] [])) _
              refine XS.aload X157.here hx rfl (hb hby at_403) rfl rfl ?_
              show Steps p.tables e below (T157.setTop (mkF m 405 #[.val (.int p0), .val (.int p1), .val (.int p2), .val (.int p3), .val (.ref b1), .val (.int (gend p0 p3)), .val (.int (gat p3)), .val (.int (2 : Int32)), .val (.ref b28), .val (.ref b118), .val (.ref e142b), .val (.int (1 : Int32))] [(.ref e142b)])) _
              refine XS.aload X157.here hx rfl (hb hby at_405) rfl rfl ?_
              show Steps p.tables e below (T157.setTop (mkF m 407 #[.val (.int p0), .val (.int p1), .val (.int p2), .val (.int p3), .val (.ref b1), .val (.int (gend p0 p3)), .val (.int (gat p3)), .val (.int (2 : Int32)), .val (.ref b28), .val (.ref b118), .val (.ref e142b), .val (.int (1 : Int32))] [(.ref b118), (.ref e142b)])) _
              refine XS.aload X157.here hx rfl (hb hby at_407) rfl rfl ?_
              show Steps p.tables e below (T157.setTop (mkF m 409 #[.val (.int p0), .val (.int p1), .val (.int p2), .val (.int p3), .val (.ref b1), .val (.int (gend p0 p3)), .val (.int (gat p3)), .val (.int (2 : Int32)), .val (.ref b28), .val (.ref b118), .val (.ref e142b), .val (.int (1 : Int32))] [(.ref b1), (.ref b118), (.ref e142b)])) _
              refine XS.iload X157.here hx rfl (hb hby at_409) rfl ?_
              show Steps p.tables e below (T157.setTop (mkF m 411 #[.val (.int p0), .val (.int p1), .val (.int p2), .val (.int p3), .val (.ref b1), .val (.int (gend p0 p3)), .val (.int (gat p3)), .val (.int (2 : Int32)), .val (.ref b28), .val (.ref b118), .val (.ref e142b), .val (.int (1 : Int32))] [(.int (gat p3)), (.ref b1), (.ref b118), (.ref e142b)])) _
              refine XS.iload X157.here hx rfl (hb hby at_411) rfl ?_
              show Steps p.tables e below (T157.setTop (mkF m 413 #[.val (.int p0), .val (.int p1), .val (.int p2), .val (.int p3), .val (.ref b1), .val (.int (gend p0 p3)), .val (.int (gat p3)), .val (.int (2 : Int32)), .val (.ref b28), .val (.ref b118), .val (.ref e142b), .val (.int (1 : Int32))] [(.int (1 : Int32)), (.int (gat p3)), (.ref b1), (.ref b118), (.ref e142b)])) _
              refine XS.iconst X157.here hx rfl (hb hby at_413) ?_
              show Steps p.tables e below (T157.setTop (mkF m 414 #[.val (.int p0), .val (.int p1), .val (.int p2), .val (.int p3), .val (.ref b1), .val (.int (gend p0 p3)), .val (.int (gat p3)), .val (.int (2 : Int32)), .val (.ref b28), .val (.ref b118), .val (.ref e142b), .val (.int (1 : Int32))] [(.int (0 : Int32)), (.int (1 : Int32)), (.int (gat p3)), (.ref b1), (.ref b118), (.ref e142b)])) _
              refine XS.aload X157.here hx rfl (hb hby at_414) rfl rfl ?_
              show Steps p.tables e below (T157.setTop (mkF m 416 #[.val (.int p0), .val (.int p1), .val (.int p2), .val (.int p3), .val (.ref b1), .val (.int (gend p0 p3)), .val (.int (gat p3)), .val (.int (2 : Int32)), .val (.ref b28), .val (.ref b118), .val (.ref e142b), .val (.int (1 : Int32))] [(.ref b28), (.int (0 : Int32)), (.int (1 : Int32)), (.int (gat p3)), (.ref b1), (.ref b118), (.ref e142b)])) _
              refine st160 _ ?_
              show Steps p.tables e below (T160.setTop (mkF m 419 #[.val (.int p0), .val (.int p1), .val (.int p2), .val (.int p3), .val (.ref b1), .val (.int (gend p0 p3)), .val (.int (gat p3)), .val (.int (2 : Int32)), .val (.ref b28), .val (.ref b118), .val (.ref e142b), .val (.int (1 : Int32))] [(.int (f3 (gat p3) (1 : Int32) (0 : Int32) (fun j => if j < 1 then fh (a + j) else fq j) fq fh fq 2 a 0))])) _
              refine XS.ifNo X160.here hx rfl (hb hby at_419) rfl ((if0 _ _).trans (feq (show ¬ ((f3 (gat p3) (1 : Int32) (0 : Int32) (fun j => if j < 1 then fh (a + j) else fq j) fq fh fq 2 a 0) = (0 : Int32)) from (own_cell (K := 1) (i := 0) rfl rfl (by decide) (by decide) (fun j hj => rfl) (fun j hj => rfl)))).1) ?_
              show Steps p.tables e below (T160.setTop (mkF m 422 #[.val (.int p0), .val (.int p1), .val (.int p2), .val (.int p3), .val (.ref b1), .val (.int (gend p0 p3)), .val (.int (gat p3)), .val (.int (2 : Int32)), .val (.ref b28), .val (.ref b118), .val (.ref e142b), .val (.int (1 : Int32))] [])) _
              refine XS.aload X160.here hx rfl (hb hby at_422) rfl rfl ?_
              show Steps p.tables e below (T160.setTop (mkF m 424 #[.val (.int p0), .val (.int p1), .val (.int p2), .val (.int p3), .val (.ref b1), .val (.int (gend p0 p3)), .val (.int (gat p3)), .val (.int (2 : Int32)), .val (.ref b28), .val (.ref b118), .val (.ref e142b), .val (.int (1 : Int32))] [(.ref e142b)])) _
              refine XS.aload X160.here hx rfl (hb hby at_424) rfl rfl ?_
              show Steps p.tables e below (T160.setTop (mkF m 426 #[.val (.int p0), .val (.int p1), .val (.int p2), .val (.int p3), .val (.ref b1), .val (.int (gend p0 p3)), .val (.int (gat p3)), .val (.int (2 : Int32)), .val (.ref b28), .val (.ref b118), .val (.ref e142b), .val (.int (1 : Int32))] [(.ref b118), (.ref e142b)])) _
              refine XS.aload X160.here hx rfl (hb hby at_426) rfl rfl ?_
              show Steps p.tables e below (T160.setTop (mkF m 428 #[.val (.int p0), .val (.int p1), .val (.int p2), .val (.int p3), .val (.ref b1), .val (.int (gend p0 p3)), .val (.int (gat p3)), .val (.int (2 : Int32)), .val (.ref b28), .val (.ref b118), .val (.ref e142b), .val (.int (1 : Int32))] [(.ref b1), (.ref b118), (.ref e142b)])) _
              refine XS.iload X160.here hx rfl (hb hby at_428) rfl ?_
              show Steps p.tables e below (T160.setTop (mkF m 430 #[.val (.int p0), .val (.int p1), .val (.int p2), .val (.int p3), .val (.ref b1), .val (.int (gend p0 p3)), .val (.int (gat p3)), .val (.int (2 : Int32)), .val (.ref b28), .val (.ref b118), .val (.ref e142b), .val (.int (1 : Int32))] [(.int (gat p3)), (.ref b1), (.ref b118), (.ref e142b)])) _
              refine XS.iload X160.here hx rfl (hb hby at_430) rfl ?_
              show Steps p.tables e below (T160.setTop (mkF m 432 #[.val (.int p0), .val (.int p1), .val (.int p2), .val (.int p3), .val (.ref b1), .val (.int (gend p0 p3)), .val (.int (gat p3)), .val (.int (2 : Int32)), .val (.ref b28), .val (.ref b118), .val (.ref e142b), .val (.int (1 : Int32))] [(.int (1 : Int32)), (.int (gat p3)), (.ref b1), (.ref b118), (.ref e142b)])) _
              refine XS.iconst X160.here hx rfl (hb hby at_432) ?_
              show Steps p.tables e below (T160.setTop (mkF m 433 #[.val (.int p0), .val (.int p1), .val (.int p2), .val (.int p3), .val (.ref b1), .val (.int (gend p0 p3)), .val (.int (gat p3)), .val (.int (2 : Int32)), .val (.ref b28), .val (.ref b118), .val (.ref e142b), .val (.int (1 : Int32))] [(.int (1 : Int32)), (.int (1 : Int32)), (.int (gat p3)), (.ref b1), (.ref b118), (.ref e142b)])) _
              refine XS.aload X160.here hx rfl (hb hby at_433) rfl rfl ?_
              show Steps p.tables e below (T160.setTop (mkF m 435 #[.val (.int p0), .val (.int p1), .val (.int p2), .val (.int p3), .val (.ref b1), .val (.int (gend p0 p3)), .val (.int (gat p3)), .val (.int (2 : Int32)), .val (.ref b28), .val (.ref b118), .val (.ref e142b), .val (.int (1 : Int32))] [(.ref b28), (.int (1 : Int32)), (.int (1 : Int32)), (.int (gat p3)), (.ref b1), (.ref b118), (.ref e142b)])) _
              refine st161 _ ?_
              show Steps p.tables e below (T161.setTop (mkF m 438 #[.val (.int p0), .val (.int p1), .val (.int p2), .val (.int p3), .val (.ref b1), .val (.int (gend p0 p3)), .val (.int (gat p3)), .val (.int (2 : Int32)), .val (.ref b28), .val (.ref b118), .val (.ref e142b), .val (.int (1 : Int32))] [(.int (f3 (gat p3) (1 : Int32) (1 : Int32) (fun j => if j < 1 then fh (a + j) else fq j) fq fh fq 2 a 1))])) _
              refine XS.ifNo X161.here hx rfl (hb hby at_438) rfl ((if0 _ _).trans (feq (show ¬ ((f3 (gat p3) (1 : Int32) (1 : Int32) (fun j => if j < 1 then fh (a + j) else fq j) fq fh fq 2 a 1) = (0 : Int32)) from (own_cell (K := 1) (i := 1) rfl rfl (by decide) (by decide) (fun j hj => rfl) (fun j hj => rfl)))).1) ?_
              show Steps p.tables e below (T161.setTop (mkF m 441 #[.val (.int p0), .val (.int p1), .val (.int p2), .val (.int p3), .val (.ref b1), .val (.int (gend p0 p3)), .val (.int (gat p3)), .val (.int (2 : Int32)), .val (.ref b28), .val (.ref b118), .val (.ref e142b), .val (.int (1 : Int32))] [])) _
              refine XS.aload X161.here hx rfl (hb hby at_441) rfl rfl ?_
              show Steps p.tables e below (T161.setTop (mkF m 443 #[.val (.int p0), .val (.int p1), .val (.int p2), .val (.int p3), .val (.ref b1), .val (.int (gend p0 p3)), .val (.int (gat p3)), .val (.int (2 : Int32)), .val (.ref b28), .val (.ref b118), .val (.ref e142b), .val (.int (1 : Int32))] [(.ref e142b)])) _
              refine XS.aload X161.here hx rfl (hb hby at_443) rfl rfl ?_
              show Steps p.tables e below (T161.setTop (mkF m 445 #[.val (.int p0), .val (.int p1), .val (.int p2), .val (.int p3), .val (.ref b1), .val (.int (gend p0 p3)), .val (.int (gat p3)), .val (.int (2 : Int32)), .val (.ref b28), .val (.ref b118), .val (.ref e142b), .val (.int (1 : Int32))] [(.ref b118), (.ref e142b)])) _
              refine XS.aload X161.here hx rfl (hb hby at_445) rfl rfl ?_
              show Steps p.tables e below (T161.setTop (mkF m 447 #[.val (.int p0), .val (.int p1), .val (.int p2), .val (.int p3), .val (.ref b1), .val (.int (gend p0 p3)), .val (.int (gat p3)), .val (.int (2 : Int32)), .val (.ref b28), .val (.ref b118), .val (.ref e142b), .val (.int (1 : Int32))] [(.ref b1), (.ref b118), (.ref e142b)])) _
              refine XS.iload X161.here hx rfl (hb hby at_447) rfl ?_
              show Steps p.tables e below (T161.setTop (mkF m 449 #[.val (.int p0), .val (.int p1), .val (.int p2), .val (.int p3), .val (.ref b1), .val (.int (gend p0 p3)), .val (.int (gat p3)), .val (.int (2 : Int32)), .val (.ref b28), .val (.ref b118), .val (.ref e142b), .val (.int (1 : Int32))] [(.int (gat p3)), (.ref b1), (.ref b118), (.ref e142b)])) _
              refine XS.iload X161.here hx rfl (hb hby at_449) rfl ?_
              show Steps p.tables e below (T161.setTop (mkF m 451 #[.val (.int p0), .val (.int p1), .val (.int p2), .val (.int p3), .val (.ref b1), .val (.int (gend p0 p3)), .val (.int (gat p3)), .val (.int (2 : Int32)), .val (.ref b28), .val (.ref b118), .val (.ref e142b), .val (.int (1 : Int32))] [(.int (1 : Int32)), (.int (gat p3)), (.ref b1), (.ref b118), (.ref e142b)])) _
              refine XS.iconst X161.here hx rfl (hb hby at_451) ?_
              show Steps p.tables e below (T161.setTop (mkF m 452 #[.val (.int p0), .val (.int p1), .val (.int p2), .val (.int p3), .val (.ref b1), .val (.int (gend p0 p3)), .val (.int (gat p3)), .val (.int (2 : Int32)), .val (.ref b28), .val (.ref b118), .val (.ref e142b), .val (.int (1 : Int32))] [(.int (2 : Int32)), (.int (1 : Int32)), (.int (gat p3)), (.ref b1), (.ref b118), (.ref e142b)])) _
              refine XS.aload X161.here hx rfl (hb hby at_452) rfl rfl ?_
              show Steps p.tables e below (T161.setTop (mkF m 454 #[.val (.int p0), .val (.int p1), .val (.int p2), .val (.int p3), .val (.ref b1), .val (.int (gend p0 p3)), .val (.int (gat p3)), .val (.int (2 : Int32)), .val (.ref b28), .val (.ref b118), .val (.ref e142b), .val (.int (1 : Int32))] [(.ref b28), (.int (2 : Int32)), (.int (1 : Int32)), (.int (gat p3)), (.ref b1), (.ref b118), (.ref e142b)])) _
              refine st162 _ ?_
              show Steps p.tables e below (T162.setTop (mkF m 457 #[.val (.int p0), .val (.int p1), .val (.int p2), .val (.int p3), .val (.ref b1), .val (.int (gend p0 p3)), .val (.int (gat p3)), .val (.int (2 : Int32)), .val (.ref b28), .val (.ref b118), .val (.ref e142b), .val (.int (1 : Int32))] [(.int (f3 (gat p3) (1 : Int32) (2 : Int32) (fun j => if j < 1 then fh (a + j) else fq j) fq fh fq 2 a 2))])) _
              refine XS.ifNo X162.here hx rfl (hb hby at_457) rfl ((if0 _ _).trans (feq (show ¬ ((f3 (gat p3) (1 : Int32) (2 : Int32) (fun j => if j < 1 then fh (a + j) else fq j) fq fh fq 2 a 2) = (0 : Int32)) from (own_cell (K := 1) (i := 2) rfl rfl (by decide) (by decide) (fun j hj => rfl) (fun j hj => rfl)))).1) ?_
              show Steps p.tables e below (T162.setTop (mkF m 460 #[.val (.int p0), .val (.int p1), .val (.int p2), .val (.int p3), .val (.ref b1), .val (.int (gend p0 p3)), .val (.int (gat p3)), .val (.int (2 : Int32)), .val (.ref b28), .val (.ref b118), .val (.ref e142b), .val (.int (1 : Int32))] [])) _
              refine XS.aload X162.here hx rfl (hb hby at_460) rfl rfl ?_
              show Steps p.tables e below (T162.setTop (mkF m 462 #[.val (.int p0), .val (.int p1), .val (.int p2), .val (.int p3), .val (.ref b1), .val (.int (gend p0 p3)), .val (.int (gat p3)), .val (.int (2 : Int32)), .val (.ref b28), .val (.ref b118), .val (.ref e142b), .val (.int (1 : Int32))] [(.ref e142b)])) _
              refine XS.aload X162.here hx rfl (hb hby at_462) rfl rfl ?_
              show Steps p.tables e below (T162.setTop (mkF m 464 #[.val (.int p0), .val (.int p1), .val (.int p2), .val (.int p3), .val (.ref b1), .val (.int (gend p0 p3)), .val (.int (gat p3)), .val (.int (2 : Int32)), .val (.ref b28), .val (.ref b118), .val (.ref e142b), .val (.int (1 : Int32))] [(.ref b118), (.ref e142b)])) _
              refine XS.aload X162.here hx rfl (hb hby at_464) rfl rfl ?_
              show Steps p.tables e below (T162.setTop (mkF m 466 #[.val (.int p0), .val (.int p1), .val (.int p2), .val (.int p3), .val (.ref b1), .val (.int (gend p0 p3)), .val (.int (gat p3)), .val (.int (2 : Int32)), .val (.ref b28), .val (.ref b118), .val (.ref e142b), .val (.int (1 : Int32))] [(.ref b1), (.ref b118), (.ref e142b)])) _
              refine XS.iload X162.here hx rfl (hb hby at_466) rfl ?_
              show Steps p.tables e below (T162.setTop (mkF m 468 #[.val (.int p0), .val (.int p1), .val (.int p2), .val (.int p3), .val (.ref b1), .val (.int (gend p0 p3)), .val (.int (gat p3)), .val (.int (2 : Int32)), .val (.ref b28), .val (.ref b118), .val (.ref e142b), .val (.int (1 : Int32))] [(.int (gat p3)), (.ref b1), (.ref b118), (.ref e142b)])) _
              refine XS.iload X162.here hx rfl (hb hby at_468) rfl ?_
              show Steps p.tables e below (T162.setTop (mkF m 470 #[.val (.int p0), .val (.int p1), .val (.int p2), .val (.int p3), .val (.ref b1), .val (.int (gend p0 p3)), .val (.int (gat p3)), .val (.int (2 : Int32)), .val (.ref b28), .val (.ref b118), .val (.ref e142b), .val (.int (1 : Int32))] [(.int (1 : Int32)), (.int (gat p3)), (.ref b1), (.ref b118), (.ref e142b)])) _
              refine XS.iconst X162.here hx rfl (hb hby at_470) ?_
              show Steps p.tables e below (T162.setTop (mkF m 471 #[.val (.int p0), .val (.int p1), .val (.int p2), .val (.int p3), .val (.ref b1), .val (.int (gend p0 p3)), .val (.int (gat p3)), .val (.int (2 : Int32)), .val (.ref b28), .val (.ref b118), .val (.ref e142b), .val (.int (1 : Int32))] [(.int (3 : Int32)), (.int (1 : Int32)), (.int (gat p3)), (.ref b1), (.ref b118), (.ref e142b)])) _
              refine XS.aload X162.here hx rfl (hb hby at_471) rfl rfl ?_
              show Steps p.tables e below (T162.setTop (mkF m 473 #[.val (.int p0), .val (.int p1), .val (.int p2), .val (.int p3), .val (.ref b1), .val (.int (gend p0 p3)), .val (.int (gat p3)), .val (.int (2 : Int32)), .val (.ref b28), .val (.ref b118), .val (.ref e142b), .val (.int (1 : Int32))] [(.ref b28), (.int (3 : Int32)), (.int (1 : Int32)), (.int (gat p3)), (.ref b1), (.ref b118), (.ref e142b)])) _
              refine st163 _ ?_
              show Steps p.tables e below (T163.setTop (mkF m 476 #[.val (.int p0), .val (.int p1), .val (.int p2), .val (.int p3), .val (.ref b1), .val (.int (gend p0 p3)), .val (.int (gat p3)), .val (.int (2 : Int32)), .val (.ref b28), .val (.ref b118), .val (.ref e142b), .val (.int (1 : Int32))] [(.int (f3 (gat p3) (1 : Int32) (3 : Int32) (fun j => if j < 1 then fh (a + j) else fq j) fq fh fq 2 a 3))])) _
              refine XS.ifNo X163.here hx rfl (hb hby at_476) rfl ((if0 _ _).trans (feq (show ¬ ((f3 (gat p3) (1 : Int32) (3 : Int32) (fun j => if j < 1 then fh (a + j) else fq j) fq fh fq 2 a 3) = (0 : Int32)) from (own_cell (K := 1) (i := 3) rfl rfl (by decide) (by decide) (fun j hj => rfl) (fun j hj => rfl)))).1) ?_
              show Steps p.tables e below (T163.setTop (mkF m 479 #[.val (.int p0), .val (.int p1), .val (.int p2), .val (.int p3), .val (.ref b1), .val (.int (gend p0 p3)), .val (.int (gat p3)), .val (.int (2 : Int32)), .val (.ref b28), .val (.ref b118), .val (.ref e142b), .val (.int (1 : Int32))] [])) _
              refine XS.iconst X163.here hx rfl (hb hby at_479) ?_
              show Steps p.tables e below (T163.setTop (mkF m 480 #[.val (.int p0), .val (.int p1), .val (.int p2), .val (.int p3), .val (.ref b1), .val (.int (gend p0 p3)), .val (.int (gat p3)), .val (.int (2 : Int32)), .val (.ref b28), .val (.ref b118), .val (.ref e142b), .val (.int (1 : Int32))] [(.int (1 : Int32))])) _
              refine XS.goto X163.here hx rfl (pc0 := 480) (pc' := 484) rfl (hb hby at_480) (by decide) (by decide) ?_
              exact kt
            obtain ⟨fsQ, hr, hrun, hended, hW, hsame⟩ := X163.leave (v := some (.int (1 : Int32))) (fun h => by rw [Bd.returns] at h; cases h)
            refine ⟨_, _, pre0 _ (K164 _ ?_), hrun, hended, _, _, rfl, ?_, ⟨_, rfl⟩, hW, hsame.mono (by decide) (by decide)⟩
            · show Steps p.tables e below (T163.setTop (mkF m 484 #[.val (.int p0), .val (.int p1), .val (.int p2), .val (.int p3), .val (.ref b1), .val (.int (gend p0 p3)), .val (.int (gat p3)), .val (.int (2 : Int32)), .val (.ref b28), .val (.ref b118), .val (.ref e142b), .val (.int (1 : Int32))] [(.int (1 : Int32))])) _
              exact retN X163 hx (t := .boolean) Bd.returns (by simp) (hb hby at_484) hr
            · show Q0 Z p0 p1 p2 p3  h0 n0 _ T163.heap _
              rw [e163]
              exact ⟨rfl, N142⟩
          · skip
            have hok : ∀ j, j < 2 → okP fh a (gend p0 p3) j := by
              intro j hj
              rcases (by omega : j = 0 ∨ j = 1) with rfl | rfl
              · exact (Classical.byContradiction fun y => hc151 ((own_ok ha (i := 0) (by decide) ha7 (by decide)).mpr y))
              · exact (Classical.byContradiction fun y => hc159 ((own_ok ha (i := 1) (by decide) ha7 (by decide)).mpr y))
            obtain rfl : kk = 2 := own_dd DDq (by decide) hok (Or.inl rfl)
            obtain ⟨_, _, ⟨T165, L165, k165, n165⟩, -, X165, ⟨Lc165, hQ165, l165, y165, z165⟩, st165⟩ := Jvm.LawKit.callS X157 hx (y := (⟨"com/example/benchwire/benchwire/protocols/DelimitedTextDeclaredDelimitersPinLaw", "cell", "([B[B[BIII[B)Z"⟩ : MethodName)) hown (mvT hZ (hw _ (List.mem_of_getElem? (i := 18) rfl))) (mvT hZ (hw _ (List.mem_of_getElem? (i := 19) rfl))) (mvT hZ (hw _ (List.mem_of_getElem? (i := 3) rfl))) (mvT hZ (hw _ (List.mem_of_getElem? (i := 20) rfl))) (by decide) (backOf (W := 0) (rm3 l Z a0 hw [] e142b b118 b1 (gat p3) (2 : Int32) (0 : Int32) b28 (fun j => if j < 2 then fh (a + j) else fq j) fq fh fq 2 a 0 T142.heap A142q G148 G144 G146 ha (by decide) ha7 (by decide) (by decide) (fun _ => (hok 0 (by decide)).1)) hZ (hw _ (List.mem_of_getElem? (i := 20) rfl)) (hw _ (List.mem_of_getElem? (i := 3) rfl)) (by decide) (by decide)) (g := (mkF m 416 #[.val (.int p0), .val (.int p1), .val (.int p2), .val (.int p3), .val (.ref b1), .val (.int (gend p0 p3)), .val (.int (gat p3)), .val (.int (2 : Int32)), .val (.ref b28), .val (.ref b118), .val (.ref e142b), .val (.int (2 : Int32))] [(.ref b28), (.int (0 : Int32)), (.int (2 : Int32)), (.int (gat p3)), (.ref b1), (.ref b118), (.ref e142b)])) rfl (by rw [hml]; rfl) (argsL := [(.ref e142b), (.ref b118), (.ref b1), (.int (gat p3)), (.int (2 : Int32)), (.int (0 : Int32)), (.ref b28)]) (rest := []) (lenOf pd_2 rfl) rfl (by show 2 * 0 + _ ≤ _; exact Nat.le_of_eq rfl) (hb hby at_416) (fun _ _ => ⟨rfl, e157, (by decide : 4 + 0 ≤ _), (by decide : 16 + 0 ≤ _)⟩)
            dsimp only [Pt.U, Pt.locs, Pt.cells, Pt.slots] at X165 l165 y165 z165 st165 hQ165
            subst l165 y165 z165
            obtain ⟨rfl, rfl, e165⟩ := hQ165
            try rw [List.append_nil] at X165
            obtain ⟨_, _, ⟨T166, L166, k166, n166⟩, -, X166, ⟨Lc166, hQ166, l166, y166, z166⟩, st166⟩ := Jvm.LawKit.callS X165 hx (y := (⟨"com/example/benchwire/benchwire/protocols/DelimitedTextDeclaredDelimitersPinLaw", "cell", "([B[B[BIII[B)Z"⟩ : MethodName)) hown (mvT hZ (hw _ (List.mem_of_getElem? (i := 18) rfl))) (mvT hZ (hw _ (List.mem_of_getElem? (i := 19) rfl))) (mvT hZ (hw _ (List.mem_of_getElem? (i := 3) rfl))) (mvT hZ (hw _ (List.mem_of_getElem? (i := 20) rfl))) (by decide) (backOf (W := 0) (rm3 l Z a0 hw [] e142b b118 b1 (gat p3) (2 : Int32) (1 : Int32) b28 (fun j => if j < 2 then fh (a + j) else fq j) fq fh fq 2 a 1 T142.heap A142q G148 G144 G146 ha (by decide) ha7 (by decide) (by decide) (fun _ => (hok 1 (by decide)).1)) hZ (hw _ (List.mem_of_getElem? (i := 20) rfl)) (hw _ (List.mem_of_getElem? (i := 3) rfl)) (by decide) (by decide)) (g := (mkF m 435 #[.val (.int p0), .val (.int p1), .val (.int p2), .val (.int p3), .val (.ref b1), .val (.int (gend p0 p3)), .val (.int (gat p3)), .val (.int (2 : Int32)), .val (.ref b28), .val (.ref b118), .val (.ref e142b), .val (.int (2 : Int32))] [(.ref b28), (.int (1 : Int32)), (.int (2 : Int32)), (.int (gat p3)), (.ref b1), (.ref b118), (.ref e142b)])) rfl (by rw [hml]; rfl) (argsL := [(.ref e142b), (.ref b118), (.ref b1), (.int (gat p3)), (.int (2 : Int32)), (.int (1 : Int32)), (.ref b28)]) (rest := []) (lenOf pd_2 rfl) rfl (by show 2 * 0 + _ ≤ _; exact Nat.le_of_eq rfl) (hb hby at_435) (fun _ _ => ⟨rfl, e165, (by decide : 4 + 0 ≤ _), (by decide : 16 + 0 ≤ _)⟩)
            dsimp only [Pt.U, Pt.locs, Pt.cells, Pt.slots] at X166 l166 y166 z166 st166 hQ166
            subst l166 y166 z166
            obtain ⟨rfl, rfl, e166⟩ := hQ166
            try rw [List.append_nil] at X166
            obtain ⟨_, _, ⟨T167, L167, k167, n167⟩, -, X167, ⟨Lc167, hQ167, l167, y167, z167⟩, st167⟩ := Jvm.LawKit.callS X166 hx (y := (⟨"com/example/benchwire/benchwire/protocols/DelimitedTextDeclaredDelimitersPinLaw", "cell", "([B[B[BIII[B)Z"⟩ : MethodName)) hown (mvT hZ (hw _ (List.mem_of_getElem? (i := 18) rfl))) (mvT hZ (hw _ (List.mem_of_getElem? (i := 19) rfl))) (mvT hZ (hw _ (List.mem_of_getElem? (i := 3) rfl))) (mvT hZ (hw _ (List.mem_of_getElem? (i := 20) rfl))) (by decide) (backOf (W := 0) (rm3 l Z a0 hw [] e142b b118 b1 (gat p3) (2 : Int32) (2 : Int32) b28 (fun j => if j < 2 then fh (a + j) else fq j) fq fh fq 2 a 2 T142.heap A142q G148 G144 G146 ha (by decide) ha7 (by decide) (by decide) (fun z => absurd z (by decide))) hZ (hw _ (List.mem_of_getElem? (i := 20) rfl)) (hw _ (List.mem_of_getElem? (i := 3) rfl)) (by decide) (by decide)) (g := (mkF m 454 #[.val (.int p0), .val (.int p1), .val (.int p2), .val (.int p3), .val (.ref b1), .val (.int (gend p0 p3)), .val (.int (gat p3)), .val (.int (2 : Int32)), .val (.ref b28), .val (.ref b118), .val (.ref e142b), .val (.int (2 : Int32))] [(.ref b28), (.int (2 : Int32)), (.int (2 : Int32)), (.int (gat p3)), (.ref b1), (.ref b118), (.ref e142b)])) rfl (by rw [hml]; rfl) (argsL := [(.ref e142b), (.ref b118), (.ref b1), (.int (gat p3)), (.int (2 : Int32)), (.int (2 : Int32)), (.ref b28)]) (rest := []) (lenOf pd_2 rfl) rfl (by show 2 * 0 + _ ≤ _; exact Nat.le_of_eq rfl) (hb hby at_454) (fun _ _ => ⟨rfl, e166, (by decide : 4 + 0 ≤ _), (by decide : 16 + 0 ≤ _)⟩)
            dsimp only [Pt.U, Pt.locs, Pt.cells, Pt.slots] at X167 l167 y167 z167 st167 hQ167
            subst l167 y167 z167
            obtain ⟨rfl, rfl, e167⟩ := hQ167
            try rw [List.append_nil] at X167
            obtain ⟨_, _, ⟨T168, L168, k168, n168⟩, -, X168, ⟨Lc168, hQ168, l168, y168, z168⟩, st168⟩ := Jvm.LawKit.callS X167 hx (y := (⟨"com/example/benchwire/benchwire/protocols/DelimitedTextDeclaredDelimitersPinLaw", "cell", "([B[B[BIII[B)Z"⟩ : MethodName)) hown (mvT hZ (hw _ (List.mem_of_getElem? (i := 18) rfl))) (mvT hZ (hw _ (List.mem_of_getElem? (i := 19) rfl))) (mvT hZ (hw _ (List.mem_of_getElem? (i := 3) rfl))) (mvT hZ (hw _ (List.mem_of_getElem? (i := 20) rfl))) (by decide) (backOf (W := 0) (rm3 l Z a0 hw [] e142b b118 b1 (gat p3) (2 : Int32) (3 : Int32) b28 (fun j => if j < 2 then fh (a + j) else fq j) fq fh fq 2 a 3 T142.heap A142q G148 G144 G146 ha (by decide) ha7 (by decide) (by decide) (fun z => absurd z (by decide))) hZ (hw _ (List.mem_of_getElem? (i := 20) rfl)) (hw _ (List.mem_of_getElem? (i := 3) rfl)) (by decide) (by decide)) (g := (mkF m 473 #[.val (.int p0), .val (.int p1), .val (.int p2), .val (.int p3), .val (.ref b1), .val (.int (gend p0 p3)), .val (.int (gat p3)), .val (.int (2 : Int32)), .val (.ref b28), .val (.ref b118), .val (.ref e142b), .val (.int (2 : Int32))] [(.ref b28), (.int (3 : Int32)), (.int (2 : Int32)), (.int (gat p3)), (.ref b1), (.ref b118), (.ref e142b)])) rfl (by rw [hml]; rfl) (argsL := [(.ref e142b), (.ref b118), (.ref b1), (.int (gat p3)), (.int (2 : Int32)), (.int (3 : Int32)), (.ref b28)]) (rest := []) (lenOf pd_2 rfl) rfl (by show 2 * 0 + _ ≤ _; exact Nat.le_of_eq rfl) (hb hby at_473) (fun _ _ => ⟨rfl, e167, (by decide : 4 + 0 ≤ _), (by decide : 16 + 0 ≤ _)⟩)
            dsimp only [Pt.U, Pt.locs, Pt.cells, Pt.slots] at X168 l168 y168 z168 st168 hQ168
            subst l168 y168 z168
            obtain ⟨rfl, rfl, e168⟩ := hQ168
            try rw [List.append_nil] at X168
            have K169 : ∀ t, Steps p.tables e below (T168.setTop (mkF m 484 #[.val (.int p0), .val (.int p1), .val (.int p2), .val (.int p3), .val (.ref b1), .val (.int (gend p0 p3)), .val (.int (gat p3)), .val (.int (2 : Int32)), .val (.ref b28), .val (.ref b118), .val (.ref e142b), .val (.int (2 : Int32))] [(.int (1 : Int32))])) t → Steps p.tables e below (s₁.setTop (mkF m 0 #[.val (.int p0), .val (.int p1), .val (.int p2), .val (.int p3), .unset, .unset, .unset, .unset, .unset, .unset, .unset, .unset] [])) t := by
              intro t kt
              refine K158 _ ?_
              show Steps p.tables e below (T157.setTop (mkF m 351 #[.val (.int p0), .val (.int p1), .val (.int p2), .val (.int p3), .val (.ref b1), .val (.int (gend p0 p3)), .val (.int (gat p3)), .val (.int (2 : Int32)), .val (.ref b28), .val (.ref b118), .val (.ref e142b), .val (.int (1 : Int32))] [(.int (f4 (gat p3) (1 : Int32) (gend p0 p3) fh a 1))])) _
              refine XS.ifNo X157.here hx rfl (hb hby at_351) rfl ((if0 _ _).trans (feq hc159).1) ?_
              show Steps p.tables e below (T157.setTop (mkF m 354 #[.val (.int p0), .val (.int p1), .val (.int p2), .val (.int p3), .val (.ref b1), .val (.int (gend p0 p3)), .val (.int (gat p3)), .val (.int (2 : Int32)), .val (.ref b28), .val (.ref b118), .val (.ref e142b), .val (.int (1 : Int32))] [])) _
              refine XS.iconst X157.here hx rfl (hb hby at_354) ?_
              show Steps p.tables e below (T157.setTop (mkF m 355 #[.val (.int p0), .val (.int p1), .val (.int p2), .val (.int p3), .val (.ref b1), .val (.int (gend p0 p3)), .val (.int (gat p3)), .val (.int (2 : Int32)), .val (.ref b28), .val (.ref b118), .val (.ref e142b), .val (.int (1 : Int32))] [(.int (2 : Int32))])) _
              refine XS.istore X157.here hx rfl (hb hby at_355) rfl (l' := #[.val (.int p0), .val (.int p1), .val (.int p2), .val (.int p3), .val (.ref b1), .val (.int (gend p0 p3)), .val (.int (gat p3)), .val (.int (2 : Int32)), .val (.ref b28), .val (.ref b118), .val (.ref e142b), .val (.int (2 : Int32))]) rfl ?_
              show Steps p.tables e below (T157.setTop (mkF m 357 #[.val (.int p0), .val (.int p1), .val (.int p2), .val (.int p3), .val (.ref b1), .val (.int (gend p0 p3)), .val (.int (gat p3)), .val (.int (2 : Int32)), .val (.ref b28), .val (.ref b118), .val (.ref e142b), .val (.int (2 : Int32))] [])) _
              refine XS.iload X157.here hx rfl (hb hby at_357) rfl ?_
              show Steps p.tables e below (T157.setTop (mkF m 359 #[.val (.int p0), .val (.int p1), .val (.int p2), .val (.int p3), .val (.ref b1), .val (.int (gend p0 p3)), .val (.int (gat p3)), .val (.int (2 : Int32)), .val (.ref b28), .val (.ref b118), .val (.ref e142b), .val (.int (2 : Int32))] [(.int (2 : Int32))])) _
              refine XS.iload X157.here hx rfl (hb hby at_359) rfl ?_
              show Steps p.tables e below (T157.setTop (mkF m 361 #[.val (.int p0), .val (.int p1), .val (.int p2), .val (.int p3), .val (.ref b1), .val (.int (gend p0 p3)), .val (.int (gat p3)), .val (.int (2 : Int32)), .val (.ref b28), .val (.ref b118), .val (.ref e142b), .val (.int (2 : Int32))] [(.int (2 : Int32)), (.int (2 : Int32))])) _
              refine XS.icmpYes X157.here hx rfl (pc0 := 361) (pc' := 403) rfl (hb hby at_361) rfl (flt (by decide : ¬ ((2 : Int32) < (2 : Int32)))).2.1 (by decide) (by decide) ?_
              show Steps p.tables e below (T157.setTop (mkF m 403 #[.val (.int p0), .val (.int p1), .val (.int p2), .val (.int p3), .val (.ref b1), .val (.int (gend p0 p3)), .val (.int (gat p3)), .val (.int (2 : Int32)), .val (.ref b28), .val (.ref b118), .val (.ref e142b), .val (.int (2 : Int32))] [])) _
              refine XS.aload X157.here hx rfl (hb hby at_403) rfl rfl ?_
              show Steps p.tables e below (T157.setTop (mkF m 405 #[.val (.int p0), .val (.int p1), .val (.int p2), .val (.int p3), .val (.ref b1), .val (.int (gend p0 p3)), .val (.int (gat p3)), .val (.int (2 : Int32)), .val (.ref b28), .val (.ref b118), .val (.ref e142b), .val (.int (2 : Int32))] [(.ref e142b)])) _
              refine XS.aload X157.here hx rfl (hb hby at_405) rfl rfl ?_
              show Steps p.tables e below (T157.setTop (mkF m 407 #[.val (.int p0), .val (.int p1), .val (.int p2), .val (.int p3), .val (.ref b1), .val (.int (gend p0 p3)), .val (.int (gat p3)), .val (.int (2 : Int32)), .val (.ref b28), .val (.ref b118), .val (.ref e142b), .val (.int (2 : Int32))] [(.ref b118), (.ref e142b)])) _
              refine XS.aload X157.here hx rfl (hb hby at_407) rfl rfl ?_
              show Steps p.tables e below (T157.setTop (mkF m 409 #[.val (.int p0), .val (.int p1), .val (.int p2), .val (.int p3), .val (.ref b1), .val (.int (gend p0 p3)), .val (.int (gat p3)), .val (.int (2 : Int32)), .val (.ref b28), .val (.ref b118), .val (.ref e142b), .val (.int (2 : Int32))] [(.ref b1), (.ref b118), (.ref e142b)])) _
              refine XS.iload X157.here hx rfl (hb hby at_409) rfl ?_
              show Steps p.tables e below (T157.setTop (mkF m 411 #[.val (.int p0), .val (.int p1), .val (.int p2), .val (.int p3), .val (.ref b1), .val (.int (gend p0 p3)), .val (.int (gat p3)), .val (.int (2 : Int32)), .val (.ref b28), .val (.ref b118), .val (.ref e142b), .val (.int (2 : Int32))] [(.int (gat p3)), (.ref b1), (.ref b118), (.ref e142b)])) _
              refine XS.iload X157.here hx rfl (hb hby at_411) rfl ?_
              show Steps p.tables e below (T157.setTop (mkF m 413 #[.val (.int p0), .val (.int p1), .val (.int p2), .val (.int p3), .val (.ref b1), .val (.int (gend p0 p3)), .val (.int (gat p3)), .val (.int (2 : Int32)), .val (.ref b28), .val (.ref b118), .val (.ref e142b), .val (.int (2 : Int32))] [(.int (2 : Int32)), (.int (gat p3)), (.ref b1), (.ref b118), (.ref e142b)])) _
              refine XS.iconst X157.here hx rfl (hb hby at_413) ?_
              show Steps p.tables e below (T157.setTop (mkF m 414 #[.val (.int p0), .val (.int p1), .val (.int p2), .val (.int p3), .val (.ref b1), .val (.int (gend p0 p3)), .val (.int (gat p3)), .val (.int (2 : Int32)), .val (.ref b28), .val (.ref b118), .val (.ref e142b), .val (.int (2 : Int32))] [(.int (0 : Int32)), (.int (2 : Int32)), (.int (gat p3)), (.ref b1), (.ref b118), (.ref e142b)])) _
              refine XS.aload X157.here hx rfl (hb hby at_414) rfl rfl ?_
              show Steps p.tables e below (T157.setTop (mkF m 416 #[.val (.int p0), .val (.int p1), .val (.int p2), .val (.int p3), .val (.ref b1), .val (.int (gend p0 p3)), .val (.int (gat p3)), .val (.int (2 : Int32)), .val (.ref b28), .val (.ref b118), .val (.ref e142b), .val (.int (2 : Int32))] [(.ref b28), (.int (0 : Int32)), (.int (2 : Int32)), (.int (gat p3)), (.ref b1), (.ref b118), (.ref e142b)])) _
              refine st165 _ ?_
              show Steps p.tables e below (T165.setTop (mkF m 419 #[.val (.int p0), .val (.int p1), .val (.int p2), .val (.int p3), .val (.ref b1), .val (.int (gend p0 p3)), .val (.int (gat p3)), .val (.int (2 : Int32)), .val (.ref b28), .val (.ref b118), .val (.ref e142b), .val (.int (2 : Int32))] [(.int (f3 (gat p3) (2 : Int32) (0 : Int32) (fun j => if j < 2 then fh (a + j) else fq j) fq fh fq 2 a 0))])) _
              refine XS.ifNo X165.here hx rfl (hb hby at_419) rfl ((if0 _ _).trans (feq (show ¬ ((f3 (gat p3) (2 : Int32) (0 : Int32) (fun j => if j < 2 then fh (a + j) else fq j) fq fh fq 2 a 0) = (0 : Int32)) from (own_cell (K := 2) (i := 0) rfl rfl (by decide) (by decide) (fun j hj => rfl) (fun j hj => rfl)))).1) ?_
              show Steps p.tables e below (T165.setTop (mkF m 422 #[.val (.int p0), .val (.int p1), .val (.int p2), .val (.int p3), .val (.ref b1), .val (.int (gend p0 p3)), .val (.int (gat p3)), .val (.int (2 : Int32)), .val (.ref b28), .val (.ref b118), .val (.ref e142b), .val (.int (2 : Int32))] [])) _
              refine XS.aload X165.here hx rfl (hb hby at_422) rfl rfl ?_
              show Steps p.tables e below (T165.setTop (mkF m 424 #[.val (.int p0), .val (.int p1), .val (.int p2), .val (.int p3), .val (.ref b1), .val (.int (gend p0 p3)), .val (.int (gat p3)), .val (.int (2 : Int32)), .val (.ref b28), .val (.ref b118), .val (.ref e142b), .val (.int (2 : Int32))] [(.ref e142b)])) _
              refine XS.aload X165.here hx rfl (hb hby at_424) rfl rfl ?_
              show Steps p.tables e below (T165.setTop (mkF m 426 #[.val (.int p0), .val (.int p1), .val (.int p2), .val (.int p3), .val (.ref b1), .val (.int (gend p0 p3)), .val (.int (gat p3)), .val (.int (2 : Int32)), .val (.ref b28), .val (.ref b118), .val (.ref e142b), .val (.int (2 : Int32))] [(.ref b118), (.ref e142b)])) _
              refine XS.aload X165.here hx rfl (hb hby at_426) rfl rfl ?_
              show Steps p.tables e below (T165.setTop (mkF m 428 #[.val (.int p0), .val (.int p1), .val (.int p2), .val (.int p3), .val (.ref b1), .val (.int (gend p0 p3)), .val (.int (gat p3)), .val (.int (2 : Int32)), .val (.ref b28), .val (.ref b118), .val (.ref e142b), .val (.int (2 : Int32))] [(.ref b1), (.ref b118), (.ref e142b)])) _
              refine XS.iload X165.here hx rfl (hb hby at_428) rfl ?_
              show Steps p.tables e below (T165.setTop (mkF m 430 #[.val (.int p0), .val (.int p1), .val (.int p2), .val (.int p3), .val (.ref b1), .val (.int (gend p0 p3)), .val (.int (gat p3)), .val (.int (2 : Int32)), .val (.ref b28), .val (.ref b118), .val (.ref e142b), .val (.int (2 : Int32))] [(.int (gat p3)), (.ref b1), (.ref b118), (.ref e142b)])) _
              refine XS.iload X165.here hx rfl (hb hby at_430) rfl ?_
              show Steps p.tables e below (T165.setTop (mkF m 432 #[.val (.int p0), .val (.int p1), .val (.int p2), .val (.int p3), .val (.ref b1), .val (.int (gend p0 p3)), .val (.int (gat p3)), .val (.int (2 : Int32)), .val (.ref b28), .val (.ref b118), .val (.ref e142b), .val (.int (2 : Int32))] [(.int (2 : Int32)), (.int (gat p3)), (.ref b1), (.ref b118), (.ref e142b)])) _
              refine XS.iconst X165.here hx rfl (hb hby at_432) ?_
              show Steps p.tables e below (T165.setTop (mkF m 433 #[.val (.int p0), .val (.int p1), .val (.int p2), .val (.int p3), .val (.ref b1), .val (.int (gend p0 p3)), .val (.int (gat p3)), .val (.int (2 : Int32)), .val (.ref b28), .val (.ref b118), .val (.ref e142b), .val (.int (2 : Int32))] [(.int (1 : Int32)), (.int (2 : Int32)), (.int (gat p3)), (.ref b1), (.ref b118), (.ref e142b)])) _
              refine XS.aload X165.here hx rfl (hb hby at_433) rfl rfl ?_
              show Steps p.tables e below (T165.setTop (mkF m 435 #[.val (.int p0), .val (.int p1), .val (.int p2), .val (.int p3), .val (.ref b1), .val (.int (gend p0 p3)), .val (.int (gat p3)), .val (.int (2 : Int32)), .val (.ref b28), .val (.ref b118), .val (.ref e142b), .val (.int (2 : Int32))] [(.ref b28), (.int (1 : Int32)), (.int (2 : Int32)), (.int (gat p3)), (.ref b1), (.ref b118), (.ref e142b)])) _
              refine st166 _ ?_
              show Steps p.tables e below (T166.setTop (mkF m 438 #[.val (.int p0), .val (.int p1), .val (.int p2), .val (.int p3), .val (.ref b1), .val (.int (gend p0 p3)), .val (.int (gat p3)), .val (.int (2 : Int32)), .val (.ref b28), .val (.ref b118), .val (.ref e142b), .val (.int (2 : Int32))] [(.int (f3 (gat p3) (2 : Int32) (1 : Int32) (fun j => if j < 2 then fh (a + j) else fq j) fq fh fq 2 a 1))])) _
              refine XS.ifNo X166.here hx rfl (hb hby at_438) rfl ((if0 _ _).trans (feq (show ¬ ((f3 (gat p3) (2 : Int32) (1 : Int32) (fun j => if j < 2 then fh (a + j) else fq j) fq fh fq 2 a 1) = (0 : Int32)) from (own_cell (K := 2) (i := 1) rfl rfl (by decide) (by decide) (fun j hj => rfl) (fun j hj => rfl)))).1) ?_
              show Steps p.tables e below (T166.setTop (mkF m 441 #[.val (.int p0), .val (.int p1), .val (.int p2), .val (.int p3), .val (.ref b1), .val (.int (gend p0 p3)), .val (.int (gat p3)), .val (.int (2 : Int32)), .val (.ref b28), .val (.ref b118), .val (.ref e142b), .val (.int (2 : Int32))] [])) _
              refine XS.aload X166.here hx rfl (hb hby at_441) rfl rfl ?_
              show Steps p.tables e below (T166.setTop (mkF m 443 #[.val (.int p0), .val (.int p1), .val (.int p2), .val (.int p3), .val (.ref b1), .val (.int (gend p0 p3)), .val (.int (gat p3)), .val (.int (2 : Int32)), .val (.ref b28), .val (.ref b118), .val (.ref e142b), .val (.int (2 : Int32))] [(.ref e142b)])) _
              refine XS.aload X166.here hx rfl (hb hby at_443) rfl rfl ?_
              show Steps p.tables e below (T166.setTop (mkF m 445 #[.val (.int p0), .val (.int p1), .val (.int p2), .val (.int p3), .val (.ref b1), .val (.int (gend p0 p3)), .val (.int (gat p3)), .val (.int (2 : Int32)), .val (.ref b28), .val (.ref b118), .val (.ref e142b), .val (.int (2 : Int32))] [(.ref b118), (.ref e142b)])) _
              refine XS.aload X166.here hx rfl (hb hby at_445) rfl rfl ?_
              show Steps p.tables e below (T166.setTop (mkF m 447 #[.val (.int p0), .val (.int p1), .val (.int p2), .val (.int p3), .val (.ref b1), .val (.int (gend p0 p3)), .val (.int (gat p3)), .val (.int (2 : Int32)), .val (.ref b28), .val (.ref b118), .val (.ref e142b), .val (.int (2 : Int32))] [(.ref b1), (.ref b118), (.ref e142b)])) _
              refine XS.iload X166.here hx rfl (hb hby at_447) rfl ?_
              show Steps p.tables e below (T166.setTop (mkF m 449 #[.val (.int p0), .val (.int p1), .val (.int p2), .val (.int p3), .val (.ref b1), .val (.int (gend p0 p3)), .val (.int (gat p3)), .val (.int (2 : Int32)), .val (.ref b28), .val (.ref b118), .val (.ref e142b), .val (.int (2 : Int32))] [(.int (gat p3)), (.ref b1), (.ref b118), (.ref e142b)])) _
              refine XS.iload X166.here hx rfl (hb hby at_449) rfl ?_
              show Steps p.tables e below (T166.setTop (mkF m 451 #[.val (.int p0), .val (.int p1), .val (.int p2), .val (.int p3), .val (.ref b1), .val (.int (gend p0 p3)), .val (.int (gat p3)), .val (.int (2 : Int32)), .val (.ref b28), .val (.ref b118), .val (.ref e142b), .val (.int (2 : Int32))] [(.int (2 : Int32)), (.int (gat p3)), (.ref b1), (.ref b118), (.ref e142b)])) _
              refine XS.iconst X166.here hx rfl (hb hby at_451) ?_
              show Steps p.tables e below (T166.setTop (mkF m 452 #[.val (.int p0), .val (.int p1), .val (.int p2), .val (.int p3), .val (.ref b1), .val (.int (gend p0 p3)), .val (.int (gat p3)), .val (.int (2 : Int32)), .val (.ref b28), .val (.ref b118), .val (.ref e142b), .val (.int (2 : Int32))] [(.int (2 : Int32)), (.int (2 : Int32)), (.int (gat p3)), (.ref b1), (.ref b118), (.ref e142b)])) _
              refine XS.aload X166.here hx rfl (hb hby at_452) rfl rfl ?_
              show Steps p.tables e below (T166.setTop (mkF m 454 #[.val (.int p0), .val (.int p1), .val (.int p2), .val (.int p3), .val (.ref b1), .val (.int (gend p0 p3)), .val (.int (gat p3)), .val (.int (2 : Int32)), .val (.ref b28), .val (.ref b118), .val (.ref e142b), .val (.int (2 : Int32))] [(.ref b28), (.int (2 : Int32)), (.int (2 : Int32)), (.int (gat p3)), (.ref b1), (.ref b118), (.ref e142b)])) _
              refine st167 _ ?_
              show Steps p.tables e below (T167.setTop (mkF m 457 #[.val (.int p0), .val (.int p1), .val (.int p2), .val (.int p3), .val (.ref b1), .val (.int (gend p0 p3)), .val (.int (gat p3)), .val (.int (2 : Int32)), .val (.ref b28), .val (.ref b118), .val (.ref e142b), .val (.int (2 : Int32))] [(.int (f3 (gat p3) (2 : Int32) (2 : Int32) (fun j => if j < 2 then fh (a + j) else fq j) fq fh fq 2 a 2))])) _
              refine XS.ifNo X167.here hx rfl (hb hby at_457) rfl ((if0 _ _).trans (feq (show ¬ ((f3 (gat p3) (2 : Int32) (2 : Int32) (fun j => if j < 2 then fh (a + j) else fq j) fq fh fq 2 a 2) = (0 : Int32)) from (own_cell (K := 2) (i := 2) rfl rfl (by decide) (by decide) (fun j hj => rfl) (fun j hj => rfl)))).1) ?_
              show Steps p.tables e below (T167.setTop (mkF m 460 #[.val (.int p0), .val (.int p1), .val (.int p2), .val (.int p3), .val (.ref b1), .val (.int (gend p0 p3)), .val (.int (gat p3)), .val (.int (2 : Int32)), .val (.ref b28), .val (.ref b118), .val (.ref e142b), .val (.int (2 : Int32))] [])) _
              refine XS.aload X167.here hx rfl (hb hby at_460) rfl rfl ?_
              show Steps p.tables e below (T167.setTop (mkF m 462 #[.val (.int p0), .val (.int p1), .val (.int p2), .val (.int p3), .val (.ref b1), .val (.int (gend p0 p3)), .val (.int (gat p3)), .val (.int (2 : Int32)), .val (.ref b28), .val (.ref b118), .val (.ref e142b), .val (.int (2 : Int32))] [(.ref e142b)])) _
              refine XS.aload X167.here hx rfl (hb hby at_462) rfl rfl ?_
              show Steps p.tables e below (T167.setTop (mkF m 464 #[.val (.int p0), .val (.int p1), .val (.int p2), .val (.int p3), .val (.ref b1), .val (.int (gend p0 p3)), .val (.int (gat p3)), .val (.int (2 : Int32)), .val (.ref b28), .val (.ref b118), .val (.ref e142b), .val (.int (2 : Int32))] [(.ref b118), (.ref e142b)])) _
              refine XS.aload X167.here hx rfl (hb hby at_464) rfl rfl ?_
              show Steps p.tables e below (T167.setTop (mkF m 466 #[.val (.int p0), .val (.int p1), .val (.int p2), .val (.int p3), .val (.ref b1), .val (.int (gend p0 p3)), .val (.int (gat p3)), .val (.int (2 : Int32)), .val (.ref b28), .val (.ref b118), .val (.ref e142b), .val (.int (2 : Int32))] [(.ref b1), (.ref b118), (.ref e142b)])) _
              refine XS.iload X167.here hx rfl (hb hby at_466) rfl ?_
              show Steps p.tables e below (T167.setTop (mkF m 468 #[.val (.int p0), .val (.int p1), .val (.int p2), .val (.int p3), .val (.ref b1), .val (.int (gend p0 p3)), .val (.int (gat p3)), .val (.int (2 : Int32)), .val (.ref b28), .val (.ref b118), .val (.ref e142b), .val (.int (2 : Int32))] [(.int (gat p3)), (.ref b1), (.ref b118), (.ref e142b)])) _
              refine XS.iload X167.here hx rfl (hb hby at_468) rfl ?_
              show Steps p.tables e below (T167.setTop (mkF m 470 #[.val (.int p0), .val (.int p1), .val (.int p2), .val (.int p3), .val (.ref b1), .val (.int (gend p0 p3)), .val (.int (gat p3)), .val (.int (2 : Int32)), .val (.ref b28), .val (.ref b118), .val (.ref e142b), .val (.int (2 : Int32))] [(.int (2 : Int32)), (.int (gat p3)), (.ref b1), (.ref b118), (.ref e142b)])) _
              refine XS.iconst X167.here hx rfl (hb hby at_470) ?_
              show Steps p.tables e below (T167.setTop (mkF m 471 #[.val (.int p0), .val (.int p1), .val (.int p2), .val (.int p3), .val (.ref b1), .val (.int (gend p0 p3)), .val (.int (gat p3)), .val (.int (2 : Int32)), .val (.ref b28), .val (.ref b118), .val (.ref e142b), .val (.int (2 : Int32))] [(.int (3 : Int32)), (.int (2 : Int32)), (.int (gat p3)), (.ref b1), (.ref b118), (.ref e142b)])) _
              refine XS.aload X167.here hx rfl (hb hby at_471) rfl rfl ?_
              show Steps p.tables e below (T167.setTop (mkF m 473 #[.val (.int p0), .val (.int p1), .val (.int p2), .val (.int p3), .val (.ref b1), .val (.int (gend p0 p3)), .val (.int (gat p3)), .val (.int (2 : Int32)), .val (.ref b28), .val (.ref b118), .val (.ref e142b), .val (.int (2 : Int32))] [(.ref b28), (.int (3 : Int32)), (.int (2 : Int32)), (.int (gat p3)), (.ref b1), (.ref b118), (.ref e142b)])) _
              refine st168 _ ?_
              show Steps p.tables e below (T168.setTop (mkF m 476 #[.val (.int p0), .val (.int p1), .val (.int p2), .val (.int p3), .val (.ref b1), .val (.int (gend p0 p3)), .val (.int (gat p3)), .val (.int (2 : Int32)), .val (.ref b28), .val (.ref b118), .val (.ref e142b), .val (.int (2 : Int32))] [(.int (f3 (gat p3) (2 : Int32) (3 : Int32) (fun j => if j < 2 then fh (a + j) else fq j) fq fh fq 2 a 3))])) _
              refine XS.ifNo X168.here hx rfl (hb hby at_476) rfl ((if0 _ _).trans (feq (show ¬ ((f3 (gat p3) (2 : Int32) (3 : Int32) (fun j => if j < 2 then fh (a + j) else fq j) fq fh fq 2 a 3) = (0 : Int32)) from (own_cell (K := 2) (i := 3) rfl rfl (by decide) (by decide) (fun j hj => rfl) (fun j hj => rfl)))).1) ?_
              show Steps p.tables e below (T168.setTop (mkF m 479 #[.val (.int p0), .val (.int p1), .val (.int p2), .val (.int p3), .val (.ref b1), .val (.int (gend p0 p3)), .val (.int (gat p3)), .val (.int (2 : Int32)), .val (.ref b28), .val (.ref b118), .val (.ref e142b), .val (.int (2 : Int32))] [])) _
              refine XS.iconst X168.here hx rfl (hb hby at_479) ?_
              show Steps p.tables e below (T168.setTop (mkF m 480 #[.val (.int p0), .val (.int p1), .val (.int p2), .val (.int p3), .val (.ref b1), .val (.int (gend p0 p3)), .val (.int (gat p3)), .val (.int (2 : Int32)), .val (.ref b28), .val (.ref b118), .val (.ref e142b), .val (.int (2 : Int32))] [(.int (1 : Int32))])) _
              refine XS.goto X168.here hx rfl (pc0 := 480) (pc' := 484) rfl (hb hby at_480) (by decide) (by decide) ?_
              exact kt
            obtain ⟨fsQ, hr, hrun, hended, hW, hsame⟩ := X168.leave (v := some (.int (1 : Int32))) (fun h => by rw [Bd.returns] at h; cases h)
            refine ⟨_, _, pre0 _ (K169 _ ?_), hrun, hended, _, _, rfl, ?_, ⟨_, rfl⟩, hW, hsame.mono (by decide) (by decide)⟩
            · show Steps p.tables e below (T168.setTop (mkF m 484 #[.val (.int p0), .val (.int p1), .val (.int p2), .val (.int p3), .val (.ref b1), .val (.int (gend p0 p3)), .val (.int (gat p3)), .val (.int (2 : Int32)), .val (.ref b28), .val (.ref b118), .val (.ref e142b), .val (.int (2 : Int32))] [(.int (1 : Int32))])) _
              exact retN X168 hx (t := .boolean) Bd.returns (by simp) (hb hby at_484) hr
            · show Q0 Z p0 p1 p2 p3  h0 n0 _ T168.heap _
              rw [e168]
              exact ⟨rfl, N142⟩
      · skip
        have K170 : ∀ t, Steps p.tables e below (T48.setTop (mkF m 215 #[.val (.int p0), .val (.int p1), .val (.int p2), .val (.int p3), .val (.ref b1), .val (.int (gend p0 p3)), .val (.int (gat p3)), .val (.int (gul p3)), .val (.ref b28), .unset, .unset, .unset] [(.int (3 : Int32)), (.int (gul p3))])) t → Steps p.tables e below (s₁.setTop (mkF m 0 #[.val (.int p0), .val (.int p1), .val (.int p2), .val (.int p3), .unset, .unset, .unset, .unset, .unset, .unset, .unset, .unset] [])) t := by
          intro t kt
          refine K116 _ ?_
          show Steps p.tables e below (T48.setTop (mkF m 187 #[.val (.int p0), .val (.int p1), .val (.int p2), .val (.int p3), .val (.ref b1), .val (.int (gend p0 p3)), .val (.int (gat p3)), .val (.int (gul p3)), .val (.ref b28), .unset, .unset, .unset] [(.int (2 : Int32)), (.int (gul p3))])) _
          refine XS.icmpYes X48.here hx rfl (pc0 := 187) (pc' := 212) rfl (hb hby at_187) rfl (feq hc117).2 (by decide) (by decide) ?_
          show Steps p.tables e below (T48.setTop (mkF m 212 #[.val (.int p0), .val (.int p1), .val (.int p2), .val (.int p3), .val (.ref b1), .val (.int (gend p0 p3)), .val (.int (gat p3)), .val (.int (gul p3)), .val (.ref b28), .unset, .unset, .unset] [])) _
          refine XS.iload X48.here hx rfl (hb hby at_212) rfl ?_
          show Steps p.tables e below (T48.setTop (mkF m 214 #[.val (.int p0), .val (.int p1), .val (.int p2), .val (.int p3), .val (.ref b1), .val (.int (gend p0 p3)), .val (.int (gat p3)), .val (.int (gul p3)), .val (.ref b28), .unset, .unset, .unset] [(.int (gul p3))])) _
          refine XS.iconst X48.here hx rfl (hb hby at_214) ?_
          exact kt
        by_cases hc171 : (gul p3) = (3 : Int32)
        · skip
          obtain ⟨T172, h172, X172, e172, E172, A172, B172, st172⟩ := iaNewE X48 hx hZ (hw _ (List.mem_of_getElem? (i := 0) rfl)) e48 (g := (mkF m 219 #[.val (.int p0), .val (.int p1), .val (.int p2), .val (.int p3), .val (.ref b1), .val (.int (gend p0 p3)), .val (.int (gat p3)), .val (.int (gul p3)), .val (.ref b28), .unset, .unset, .unset] [(.int (3 : Int32))])) rfl (hb hby at_219) rfl 3 (by decide) 3 (Nat.le_refl _) (by decide) (by decide) (by decide) rfl (by decide) (ad := "[B") (by decide)
          obtain ⟨b172, g172⟩ : ∃ z, z = h48.size := ⟨_, rfl⟩
          rw [← g172] at A172 B172 st172
          have ne173 : b1 ≠ b172 := Nat.ne_of_lt (Nat.lt_of_lt_of_le G49.lt (Nat.le_of_eq g172.symm))
          have ne174 : b28 ≠ b172 := Nat.ne_of_lt (Nat.lt_of_lt_of_le G51.lt (Nat.le_of_eq g172.symm))
          have gn172 : n0 ≤ b172 := Nat.le_trans Z48 (Nat.le_of_eq g172.symm)
          have Z172 : n0 ≤ h172.size := Nat.le_trans Z48 E172.1
          have G175 : Exa Z h172 b1 "[B" := G49.ext E172
          have G176 : Ia Z h172 b1 .byte 6 fh := G50.ext E172
          have G177 : Exa Z h172 b28 "[B" := G51.ext E172
          have G178 : Ia Z h172 b28 .byte 4 fq := Afq.ext E172
          have G179 : Ia Z h172 b172 .byte 3 (fun _ => (0 : Int32)) := A172
          obtain ⟨T180, h180, X180, e180, W180, A180, st180⟩ := iaB X172 hx hZ e172 G179 (j := (0 : Int32)) 0 (by decide) (by decide) (g := (mkF m 227 #[.val (.int p0), .val (.int p1), .val (.int p2), .val (.int p3), .val (.ref b1), .val (.int (gend p0 p3)), .val (.int (gat p3)), .val (.int (gul p3)), .val (.ref b28), .unset, .unset, .unset] [(.int (fq 0)), (.int (0 : Int32)), (.ref b172), (.ref b172)])) rfl rfl (hb hby at_227)
          have G181 : Exa Z h180 b1 "[B" := G175.wr W180
          have G182 : Ia Z h180 b1 .byte 6 fh := G176.other W180 ne173
          have G183 : Exa Z h180 b28 "[B" := G177.wr W180
          have G184 : Ia Z h180 b28 .byte 4 fq := G178.other W180 ne174
          have G185 : Exa Z h180 b172 "[B" := B172.wr W180
          have G186 : Ia Z h180 b172 .byte 3 (up (fun _ => (0 : Int32)) 0 (nar .byte (fq 0))) := A180
          have Z180 : n0 ≤ h180.size := Nat.le_trans Z172 (Keep.of_wr W180).1
          have N180 := Fr.snoc X180 N48 gn172
          obtain ⟨T187, h187, X187, e187, W187, A187, st187⟩ := iaB X180 hx hZ e180 G186 (j := (1 : Int32)) 1 (by decide) (by decide) (g := (mkF m 234 #[.val (.int p0), .val (.int p1), .val (.int p2), .val (.int p3), .val (.ref b1), .val (.int (gend p0 p3)), .val (.int (gat p3)), .val (.int (gul p3)), .val (.ref b28), .unset, .unset, .unset] [(.int (fq 1)), (.int (1 : Int32)), (.ref b172), (.ref b172)])) rfl rfl (hb hby at_234)
          have G188 : Exa Z h187 b1 "[B" := G181.wr W187
          have G189 : Ia Z h187 b1 .byte 6 fh := G182.other W187 ne173
          have G190 : Exa Z h187 b28 "[B" := G183.wr W187
          have G191 : Ia Z h187 b28 .byte 4 fq := G184.other W187 ne174
          have G192 : Exa Z h187 b172 "[B" := G185.wr W187
          have G193 : Ia Z h187 b172 .byte 3 (up (up (fun _ => (0 : Int32)) 0 (nar .byte (fq 0))) 1 (nar .byte (fq 1))) := A187
          have Z187 : n0 ≤ h187.size := Nat.le_trans Z180 (Keep.of_wr W187).1
          have N187 := Fr.snoc X187 N180 gn172
          obtain ⟨T194, h194, X194, e194, W194, A194, st194⟩ := iaB X187 hx hZ e187 G193 (j := (2 : Int32)) 2 (by decide) (by decide) (g := (mkF m 241 #[.val (.int p0), .val (.int p1), .val (.int p2), .val (.int p3), .val (.ref b1), .val (.int (gend p0 p3)), .val (.int (gat p3)), .val (.int (gul p3)), .val (.ref b28), .unset, .unset, .unset] [(.int (fq 2)), (.int (2 : Int32)), (.ref b172), (.ref b172)])) rfl rfl (hb hby at_241)
          have G195 : Exa Z h194 b1 "[B" := G188.wr W194
          have G196 : Ia Z h194 b1 .byte 6 fh := G189.other W194 ne173
          have G197 : Exa Z h194 b28 "[B" := G190.wr W194
          have G198 : Ia Z h194 b28 .byte 4 fq := G191.other W194 ne174
          have G199 : Exa Z h194 b172 "[B" := G192.wr W194
          have G200 : Ia Z h194 b172 .byte 3 (up (up (up (fun _ => (0 : Int32)) 0 (nar .byte (fq 0))) 1 (nar .byte (fq 1))) 2 (nar .byte (fq 2))) := A194
          have Z194 : n0 ≤ h194.size := Nat.le_trans Z187 (Keep.of_wr W194).1
          have N194 := Fr.snoc X194 N187 gn172
          have K201 : ∀ t, Steps p.tables e below (T194.setTop (mkF m 280 #[.val (.int p0), .val (.int p1), .val (.int p2), .val (.int p3), .val (.ref b1), .val (.int (gend p0 p3)), .val (.int (gat p3)), .val (.int (gul p3)), .val (.ref b28), .val (.ref b172), .unset, .unset] [])) t → Steps p.tables e below (s₁.setTop (mkF m 0 #[.val (.int p0), .val (.int p1), .val (.int p2), .val (.int p3), .unset, .unset, .unset, .unset, .unset, .unset, .unset, .unset] [])) t := by
            intro t kt
            refine K170 _ ?_
            show Steps p.tables e below (T48.setTop (mkF m 215 #[.val (.int p0), .val (.int p1), .val (.int p2), .val (.int p3), .val (.ref b1), .val (.int (gend p0 p3)), .val (.int (gat p3)), .val (.int (gul p3)), .val (.ref b28), .unset, .unset, .unset] [(.int (3 : Int32)), (.int (gul p3))])) _
            refine XS.icmpNo X48.here hx rfl (hb hby at_215) rfl (teq hc171).2 ?_
            show Steps p.tables e below (T48.setTop (mkF m 218 #[.val (.int p0), .val (.int p1), .val (.int p2), .val (.int p3), .val (.ref b1), .val (.int (gend p0 p3)), .val (.int (gat p3)), .val (.int (gul p3)), .val (.ref b28), .unset, .unset, .unset] [])) _
            refine XS.iconst X48.here hx rfl (hb hby at_218) ?_
            show Steps p.tables e below (T48.setTop (mkF m 219 #[.val (.int p0), .val (.int p1), .val (.int p2), .val (.int p3), .val (.ref b1), .val (.int (gend p0 p3)), .val (.int (gat p3)), .val (.int (gul p3)), .val (.ref b28), .unset, .unset, .unset] [(.int (3 : Int32))])) _
            refine st172 _ ?_
            show Steps p.tables e below (T172.setTop (mkF m 221 #[.val (.int p0), .val (.int p1), .val (.int p2), .val (.int p3), .val (.ref b1), .val (.int (gend p0 p3)), .val (.int (gat p3)), .val (.int (gul p3)), .val (.ref b28), .unset, .unset, .unset] [(.ref b172)])) _
            refine XS.dup X172.here hx rfl (hb hby at_221) rfl rfl ?_
            show Steps p.tables e below (T172.setTop (mkF m 222 #[.val (.int p0), .val (.int p1), .val (.int p2), .val (.int p3), .val (.ref b1), .val (.int (gend p0 p3)), .val (.int (gat p3)), .val (.int (gul p3)), .val (.ref b28), .unset, .unset, .unset] [(.ref b172), (.ref b172)])) _
            refine XS.iconst X172.here hx rfl (hb hby at_222) ?_
            show Steps p.tables e below (T172.setTop (mkF m 223 #[.val (.int p0), .val (.int p1), .val (.int p2), .val (.int p3), .val (.ref b1), .val (.int (gend p0 p3)), .val (.int (gat p3)), .val (.int (gul p3)), .val (.ref b28), .unset, .unset, .unset] [(.int (0 : Int32)), (.ref b172), (.ref b172)])) _
            refine XS.aload X172.here hx rfl (hb hby at_223) rfl rfl ?_
            show Steps p.tables e below (T172.setTop (mkF m 225 #[.val (.int p0), .val (.int p1), .val (.int p2), .val (.int p3), .val (.ref b1), .val (.int (gend p0 p3)), .val (.int (gat p3)), .val (.int (gul p3)), .val (.ref b28), .unset, .unset, .unset] [(.ref b28), (.int (0 : Int32)), (.ref b172), (.ref b172)])) _
            refine XS.iconst X172.here hx rfl (hb hby at_225) ?_
            show Steps p.tables e below (T172.setTop (mkF m 226 #[.val (.int p0), .val (.int p1), .val (.int p2), .val (.int p3), .val (.ref b1), .val (.int (gend p0 p3)), .val (.int (gat p3)), .val (.int (gul p3)), .val (.ref b28), .unset, .unset, .unset] [(.int (0 : Int32)), (.ref b28), (.int (0 : Int32)), (.ref b172), (.ref b172)])) _
            refine iaLB X172 hx hZ e172 G178 (j := (0 : Int32)) 0 (by decide) (by decide) (g := (mkF m 226 #[.val (.int p0), .val (.int p1), .val (.int p2), .val (.int p3), .val (.ref b1), .val (.int (gend p0 p3)), .val (.int (gat p3)), .val (.int (gul p3)), .val (.ref b28), .unset, .unset, .unset] [(.int (0 : Int32)), (.ref b28), (.int (0 : Int32)), (.ref b172), (.ref b172)])) rfl rfl (hb hby at_226) _ ?_
            show Steps p.tables e below (T172.setTop (mkF m 227 #[.val (.int p0), .val (.int p1), .val (.int p2), .val (.int p3), .val (.ref b1), .val (.int (gend p0 p3)), .val (.int (gat p3)), .val (.int (gul p3)), .val (.ref b28), .unset, .unset, .unset] [(.int (fq 0)), (.int (0 : Int32)), (.ref b172), (.ref b172)])) _
            refine st180 _ ?_
            show Steps p.tables e below (T180.setTop (mkF m 228 #[.val (.int p0), .val (.int p1), .val (.int p2), .val (.int p3), .val (.ref b1), .val (.int (gend p0 p3)), .val (.int (gat p3)), .val (.int (gul p3)), .val (.ref b28), .unset, .unset, .unset] [(.ref b172)])) _
            refine XS.dup X180.here hx rfl (hb hby at_228) rfl rfl ?_
            show Steps p.tables e below (T180.setTop (mkF m 229 #[.val (.int p0), .val (.int p1), .val (.int p2), .val (.int p3), .val (.ref b1), .val (.int (gend p0 p3)), .val (.int (gat p3)), .val (.int (gul p3)), .val (.ref b28), .unset, .unset, .unset] [(.ref b172), (.ref b172)])) _
            refine XS.iconst X180.here hx rfl (hb hby at_229) ?_
            show Steps p.tables e below (T180.setTop (mkF m 230 #[.val (.int p0), .val (.int p1), .val (.int p2), .val (.int p3), .val (.ref b1), .val (.int (gend p0 p3)), .val (.int (gat p3)), .val (.int (gul p3)), .val (.ref b28), .unset, .unset, .unset] [(.int (1 : Int32)), (.ref b172), (.ref b172)])) _
            refine XS.aload X180.here hx rfl (hb hby at_230) rfl rfl ?_
            show Steps p.tables e below (T180.setTop (mkF m 232 #[.val (.int p0), .val (.int p1), .val (.int p2), .val (.int p3), .val (.ref b1), .val (.int (gend p0 p3)), .val (.int (gat p3)), .val (.int (gul p3)), .val (.ref b28), .unset, .unset, .unset] [(.ref b28), (.int (1 : Int32)), (.ref b172), (.ref b172)])) _
            refine XS.iconst X180.here hx rfl (hb hby at_232) ?_
            show Steps p.tables e below (T180.setTop (mkF m 233 #[.val (.int p0), .val (.int p1), .val (.int p2), .val (.int p3), .val (.ref b1), .val (.int (gend p0 p3)), .val (.int (gat p3)), .val (.int (gul p3)), .val (.ref b28), .unset, .unset, .unset] [(.int (1 : Int32)), (.ref b28), (.int (1 : Int32)), (.ref b172), (.ref b172)])) _
            refine iaLB X180 hx hZ e180 G184 (j := (1 : Int32)) 1 (by decide) (by decide) (g := (mkF m 233 #[.val (.int p0), .val (.int p1), .val (.int p2), .val (.int p3), .val (.ref b1), .val (.int (gend p0 p3)), .val (.int (gat p3)), .val (.int (gul p3)), .val (.ref b28), .unset, .unset, .unset] [(.int (1 : Int32)), (.ref b28), (.int (1 : Int32)), (.ref b172), (.ref b172)])) rfl rfl (hb hby at_233) _ ?_
            show Steps p.tables e below (T180.setTop (mkF m 234 #[.val (.int p0), .val (.int p1), .val (.int p2), .val (.int p3), .val (.ref b1), .val (.int (gend p0 p3)), .val (.int (gat p3)), .val (.int (gul p3)), .val (.ref b28), .unset, .unset, .unset] [(.int (fq 1)), (.int (1 : Int32)), (.ref b172), (.ref b172)])) _
            refine st187 _ ?_
            show Steps p.tables e below (T187.setTop (mkF m 235 #[.val (.int p0), .val (.int p1), .val (.int p2), .val (.int p3), .val (.ref b1), .val (.int (gend p0 p3)), .val (.int (gat p3)), .val (.int (gul p3)), .val (.ref b28), .unset, .unset, .unset] [(.ref b172)])) _
            refine XS.dup X187.here hx rfl (hb hby at_235) rfl rfl ?_
            show Steps p.tables e below (T187.setTop (mkF m 236 #[.val (.int p0), .val (.int p1), .val (.int p2), .val (.int p3), .val (.ref b1), .val (.int (gend p0 p3)), .val (.int (gat p3)), .val (.int (gul p3)), .val (.ref b28), .unset, .unset, .unset] [(.ref b172), (.ref b172)])) _
            refine XS.iconst X187.here hx rfl (hb hby at_236) ?_
            show Steps p.tables e below (T187.setTop (mkF m 237 #[.val (.int p0), .val (.int p1), .val (.int p2), .val (.int p3), .val (.ref b1), .val (.int (gend p0 p3)), .val (.int (gat p3)), .val (.int (gul p3)), .val (.ref b28), .unset, .unset, .unset] [(.int (2 : Int32)), (.ref b172), (.ref b172)])) _
            refine XS.aload X187.here hx rfl (hb hby at_237) rfl rfl ?_
            show Steps p.tables e below (T187.setTop (mkF m 239 #[.val (.int p0), .val (.int p1), .val (.int p2), .val (.int p3), .val (.ref b1), .val (.int (gend p0 p3)), .val (.int (gat p3)), .val (.int (gul p3)), .val (.ref b28), .unset, .unset, .unset] [(.ref b28), (.int (2 : Int32)), (.ref b172), (.ref b172)])) _
            refine XS.iconst X187.here hx rfl (hb hby at_239) ?_
            show Steps p.tables e below (T187.setTop (mkF m 240 #[.val (.int p0), .val (.int p1), .val (.int p2), .val (.int p3), .val (.ref b1), .val (.int (gend p0 p3)), .val (.int (gat p3)), .val (.int (gul p3)), .val (.ref b28), .unset, .unset, .unset] [(.int (2 : Int32)), (.ref b28), (.int (2 : Int32)), (.ref b172), (.ref b172)])) _
            refine iaLB X187 hx hZ e187 G191 (j := (2 : Int32)) 2 (by decide) (by decide) (g := (mkF m 240 #[.val (.int p0), .val (.int p1), .val (.int p2), .val (.int p3), .val (.ref b1), .val (.int (gend p0 p3)), .val (.int (gat p3)), .val (.int (gul p3)), .val (.ref b28), .unset, .unset, .unset] [(.int (2 : Int32)), (.ref b28), (.int (2 : Int32)), (.ref b172), (.ref b172)])) rfl rfl (hb hby at_240) _ ?_
            show Steps p.tables e below (T187.setTop (mkF m 241 #[.val (.int p0), .val (.int p1), .val (.int p2), .val (.int p3), .val (.ref b1), .val (.int (gend p0 p3)), .val (.int (gat p3)), .val (.int (gul p3)), .val (.ref b28), .unset, .unset, .unset] [(.int (fq 2)), (.int (2 : Int32)), (.ref b172), (.ref b172)])) _
            refine st194 _ ?_
            show Steps p.tables e below (T194.setTop (mkF m 242 #[.val (.int p0), .val (.int p1), .val (.int p2), .val (.int p3), .val (.ref b1), .val (.int (gend p0 p3)), .val (.int (gat p3)), .val (.int (gul p3)), .val (.ref b28), .unset, .unset, .unset] [(.ref b172)])) _
            refine XS.astore X194.here hx rfl (hb hby at_242) rfl rfl (l' := #[.val (.int p0), .val (.int p1), .val (.int p2), .val (.int p3), .val (.ref b1), .val (.int (gend p0 p3)), .val (.int (gat p3)), .val (.int (gul p3)), .val (.ref b28), .val (.ref b172), .unset, .unset]) rfl ?_
            show Steps p.tables e below (T194.setTop (mkF m 244 #[.val (.int p0), .val (.int p1), .val (.int p2), .val (.int p3), .val (.ref b1), .val (.int (gend p0 p3)), .val (.int (gat p3)), .val (.int (gul p3)), .val (.ref b28), .val (.ref b172), .unset, .unset] [])) _
            refine XS.goto X194.here hx rfl (pc0 := 244) (pc' := 280) rfl (hb hby at_244) (by decide) (by decide) ?_
            exact kt
          rw [hc171] at K201
          have G202 : Ia Z h194 b172 .byte 3 fq := G200.fun (by intro j hj; rcases (by omega : j = 0 ∨ j = 1 ∨ j = 2) with rfl | rfl | rfl <;> exact own_narb (G198.fit (by decide)))
          obtain ⟨_, _, ⟨T203, L203, k203, n203⟩, -, X203, ⟨Lc203, hQ203, l203, y203, z203⟩, st203⟩ := Jvm.LawKit.callS X194 hx (y := (⟨"com/example/benchwire/benchwire/protocols/DelimitedText", "declaredDelimiters", "([BIB[B)[B"⟩ : MethodName)) hown (mvT hZ (hw _ (List.mem_of_getElem? (i := 5) rfl))) (mvT hZ (hw _ (List.mem_of_getElem? (i := 6) rfl))) (mvT hZ (hw _ (List.mem_of_getElem? (i := 7) rfl))) (mvT hZ (hw _ (List.mem_of_getElem? (i := 8) rfl))) (by decide) (backOf (W := 0) (rm2 l Z a0 hw [] b1 (gat p3) (gend p0 p3) b172 fh fq 3 a h194 n0 Z194 G196 G202 G199 (by decide) ha ha7) hZ (hw _ (List.mem_of_getElem? (i := 8) rfl)) (hw _ (List.mem_of_getElem? (i := 7) rfl)) (by decide) (by decide)) (g := (mkF m 288 #[.val (.int p0), .val (.int p1), .val (.int p2), .val (.int p3), .val (.ref b1), .val (.int (gend p0 p3)), .val (.int (gat p3)), .val (.int (3 : Int32)), .val (.ref b28), .val (.ref b172), .unset, .unset] [(.ref b172), (.int (gend p0 p3)), (.int (gat p3)), (.ref b1)])) rfl (by rw [hml]; rfl) (argsL := [(.ref b1), (.int (gat p3)), (.int (gend p0 p3)), (.ref b172)]) (rest := []) (lenOf pd_1 rfl) rfl (by show 2 * 0 + _ ≤ _; exact Nat.le_of_eq rfl) (hb hby at_288) (fun _ _ => ⟨rfl, e194, (by decide : 3 + 1 ≤ _), (by decide : 13 + 4 ≤ _)⟩)
          dsimp only [Pt.U, Pt.locs, Pt.cells, Pt.slots] at X203 l203 y203 z203 st203 hQ203
          subst l203 y203 z203
          obtain ⟨e203b, kk, rfl, N203q, K203q, S203q, DDq, A203q⟩ := hQ203
          have N203 := Fr.app N194 N203q
          have Z203 : n0 ≤ T203.heap.size := Nat.le_trans Z194 K203q.1
          have G204 : Exa Z T203.heap b1 "[B" := G195.keep K203q
          have G205 : Ia Z T203.heap b1 .byte 6 fh := G196.keep K203q nin0
          have G206 : Exa Z T203.heap b28 "[B" := G197.keep K203q
          have G207 : Ia Z T203.heap b28 .byte 4 fq := G198.keep K203q nin0
          have G208 : Exa Z T203.heap b172 "[B" := G199.keep K203q
          have G209 : Ia Z T203.heap b172 .byte 3 fq := G202.keep K203q nin0
          obtain ⟨_, _, ⟨T210, L210, k210, n210⟩, -, X210, ⟨Lc210, hQ210, l210, y210, z210⟩, st210⟩ := Jvm.LawKit.callS X203 hx (y := (⟨"com/example/benchwire/benchwire/protocols/DelimitedTextDeclaredDelimitersPinLaw", "ok", "([BIIB)Z"⟩ : MethodName)) hown (mvT hZ (hw _ (List.mem_of_getElem? (i := 21) rfl))) (mvT hZ (hw _ (List.mem_of_getElem? (i := 22) rfl))) (mvT hZ (hw _ (List.mem_of_getElem? (i := 3) rfl))) (mvT hZ (hw _ (List.mem_of_getElem? (i := 23) rfl))) (by decide) (backOf (W := 0) (rm4 l Z a0 hw [] b1 (gat p3) (0 : Int32) (gend p0 p3) fh a 0 T203.heap G205 ha (by decide) ha7 (by decide)) hZ (hw _ (List.mem_of_getElem? (i := 23) rfl)) (hw _ (List.mem_of_getElem? (i := 3) rfl)) (by decide) (by decide)) (g := (mkF m 325 #[.val (.int p0), .val (.int p1), .val (.int p2), .val (.int p3), .val (.ref b1), .val (.int (gend p0 p3)), .val (.int (gat p3)), .val (.int (3 : Int32)), .val (.ref b28), .val (.ref b172), .val (.ref e203b), .val (.int (0 : Int32))] [(.int (gend p0 p3)), (.int (0 : Int32)), (.int (gat p3)), (.ref b1)])) rfl (by rw [hml]; rfl) (argsL := [(.ref b1), (.int (gat p3)), (.int (0 : Int32)), (.int (gend p0 p3))]) (rest := []) (lenOf pd_3 rfl) rfl (by show 2 * 0 + _ ≤ _; exact Nat.le_of_eq rfl) (hb hby at_325) (fun _ _ => ⟨rfl, rfl, (by decide : 4 + 0 ≤ _), (by decide : 17 + 0 ≤ _)⟩)
          dsimp only [Pt.U, Pt.locs, Pt.cells, Pt.slots] at X210 l210 y210 z210 st210 hQ210
          subst l210 y210 z210
          obtain ⟨rfl, rfl, e210⟩ := hQ210
          try rw [List.append_nil] at X210
          have K211 : ∀ t, Steps p.tables e below (T210.setTop (mkF m 328 #[.val (.int p0), .val (.int p1), .val (.int p2), .val (.int p3), .val (.ref b1), .val (.int (gend p0 p3)), .val (.int (gat p3)), .val (.int (3 : Int32)), .val (.ref b28), .val (.ref b172), .val (.ref e203b), .val (.int (0 : Int32))] [(.int (f4 (gat p3) (0 : Int32) (gend p0 p3) fh a 0))])) t → Steps p.tables e below (s₁.setTop (mkF m 0 #[.val (.int p0), .val (.int p1), .val (.int p2), .val (.int p3), .unset, .unset, .unset, .unset, .unset, .unset, .unset, .unset] [])) t := by
            intro t kt
            refine K201 _ ?_
            show Steps p.tables e below (T194.setTop (mkF m 280 #[.val (.int p0), .val (.int p1), .val (.int p2), .val (.int p3), .val (.ref b1), .val (.int (gend p0 p3)), .val (.int (gat p3)), .val (.int (3 : Int32)), .val (.ref b28), .val (.ref b172), .unset, .unset] [])) _
            refine XS.aload X194.here hx rfl (hb hby at_280) rfl rfl ?_
            show Steps p.tables e below (T194.setTop (mkF m 282 #[.val (.int p0), .val (.int p1), .val (.int p2), .val (.int p3), .val (.ref b1), .val (.int (gend p0 p3)), .val (.int (gat p3)), .val (.int (3 : Int32)), .val (.ref b28), .val (.ref b172), .unset, .unset] [(.ref b1)])) _
            refine XS.iload X194.here hx rfl (hb hby at_282) rfl ?_
            show Steps p.tables e below (T194.setTop (mkF m 284 #[.val (.int p0), .val (.int p1), .val (.int p2), .val (.int p3), .val (.ref b1), .val (.int (gend p0 p3)), .val (.int (gat p3)), .val (.int (3 : Int32)), .val (.ref b28), .val (.ref b172), .unset, .unset] [(.int (gat p3)), (.ref b1)])) _
            refine XS.iload X194.here hx rfl (hb hby at_284) rfl ?_
            show Steps p.tables e below (T194.setTop (mkF m 286 #[.val (.int p0), .val (.int p1), .val (.int p2), .val (.int p3), .val (.ref b1), .val (.int (gend p0 p3)), .val (.int (gat p3)), .val (.int (3 : Int32)), .val (.ref b28), .val (.ref b172), .unset, .unset] [(.int (gend p0 p3)), (.int (gat p3)), (.ref b1)])) _
            refine XS.aload X194.here hx rfl (hb hby at_286) rfl rfl ?_
            show Steps p.tables e below (T194.setTop (mkF m 288 #[.val (.int p0), .val (.int p1), .val (.int p2), .val (.int p3), .val (.ref b1), .val (.int (gend p0 p3)), .val (.int (gat p3)), .val (.int (3 : Int32)), .val (.ref b28), .val (.ref b172), .unset, .unset] [(.ref b172), (.int (gend p0 p3)), (.int (gat p3)), (.ref b1)])) _
            refine st203 _ ?_
            show Steps p.tables e below (T203.setTop (mkF m 291 #[.val (.int p0), .val (.int p1), .val (.int p2), .val (.int p3), .val (.ref b1), .val (.int (gend p0 p3)), .val (.int (gat p3)), .val (.int (3 : Int32)), .val (.ref b28), .val (.ref b172), .unset, .unset] [(.ref e203b)])) _
            refine XS.astore X203.here hx rfl (hb hby at_291) rfl rfl (l' := #[.val (.int p0), .val (.int p1), .val (.int p2), .val (.int p3), .val (.ref b1), .val (.int (gend p0 p3)), .val (.int (gat p3)), .val (.int (3 : Int32)), .val (.ref b28), .val (.ref b172), .val (.ref e203b), .unset]) rfl ?_
            show Steps p.tables e below (T203.setTop (mkF m 293 #[.val (.int p0), .val (.int p1), .val (.int p2), .val (.int p3), .val (.ref b1), .val (.int (gend p0 p3)), .val (.int (gat p3)), .val (.int (3 : Int32)), .val (.ref b28), .val (.ref b172), .val (.ref e203b), .unset] [])) _
            refine XS.aload X203.here hx rfl (hb hby at_293) rfl rfl ?_
            show Steps p.tables e below (T203.setTop (mkF m 295 #[.val (.int p0), .val (.int p1), .val (.int p2), .val (.int p3), .val (.ref b1), .val (.int (gend p0 p3)), .val (.int (gat p3)), .val (.int (3 : Int32)), .val (.ref b28), .val (.ref b172), .val (.ref e203b), .unset] [(.ref e203b)])) _
            refine XS.ifnullNo X203.here hx rfl (hb hby at_295) rfl ?_
            show Steps p.tables e below (T203.setTop (mkF m 298 #[.val (.int p0), .val (.int p1), .val (.int p2), .val (.int p3), .val (.ref b1), .val (.int (gend p0 p3)), .val (.int (gat p3)), .val (.int (3 : Int32)), .val (.ref b28), .val (.ref b172), .val (.ref e203b), .unset] [])) _
            refine XS.aload X203.here hx rfl (hb hby at_298) rfl rfl ?_
            show Steps p.tables e below (T203.setTop (mkF m 300 #[.val (.int p0), .val (.int p1), .val (.int p2), .val (.int p3), .val (.ref b1), .val (.int (gend p0 p3)), .val (.int (gat p3)), .val (.int (3 : Int32)), .val (.ref b28), .val (.ref b172), .val (.ref e203b), .unset] [(.ref e203b)])) _
            refine iaLen X203 hx hZ rfl A203q (g := (mkF m 300 #[.val (.int p0), .val (.int p1), .val (.int p2), .val (.int p3), .val (.ref b1), .val (.int (gend p0 p3)), .val (.int (gat p3)), .val (.int (3 : Int32)), .val (.ref b28), .val (.ref b172), .val (.ref e203b), .unset] [(.ref e203b)])) rfl rfl (hb hby at_300) _ ?_
            show Steps p.tables e below (T203.setTop (mkF m 301 #[.val (.int p0), .val (.int p1), .val (.int p2), .val (.int p3), .val (.ref b1), .val (.int (gend p0 p3)), .val (.int (gat p3)), .val (.int (3 : Int32)), .val (.ref b28), .val (.ref b172), .val (.ref e203b), .unset] [(.int (3 : Int32))])) _
            refine XS.iload X203.here hx rfl (hb hby at_301) rfl ?_
            show Steps p.tables e below (T203.setTop (mkF m 303 #[.val (.int p0), .val (.int p1), .val (.int p2), .val (.int p3), .val (.ref b1), .val (.int (gend p0 p3)), .val (.int (gat p3)), .val (.int (3 : Int32)), .val (.ref b28), .val (.ref b172), .val (.ref e203b), .unset] [(.int (3 : Int32)), (.int (3 : Int32))])) _
            refine XS.icmpYes X203.here hx rfl (pc0 := 303) (pc' := 308) rfl (hb hby at_303) rfl (teq (rfl : (3 : Int32) = (3 : Int32))).1 (by decide) (by decide) ?_
            show Steps p.tables e below (T203.setTop (mkF m 308 #[.val (.int p0), .val (.int p1), .val (.int p2), .val (.int p3), .val (.ref b1), .val (.int (gend p0 p3)), .val (.int (gat p3)), .val (.int (3 : Int32)), .val (.ref b28), .val (.ref b172), .val (.ref e203b), .unset] [])) _
            refine XS.iconst X203.here hx rfl (hb hby at_308) ?_
            show Steps p.tables e below (T203.setTop (mkF m 309 #[.val (.int p0), .val (.int p1), .val (.int p2), .val (.int p3), .val (.ref b1), .val (.int (gend p0 p3)), .val (.int (gat p3)), .val (.int (3 : Int32)), .val (.ref b28), .val (.ref b172), .val (.ref e203b), .unset] [(.int (0 : Int32))])) _
            refine XS.istore X203.here hx rfl (hb hby at_309) rfl (l' := #[.val (.int p0), .val (.int p1), .val (.int p2), .val (.int p3), .val (.ref b1), .val (.int (gend p0 p3)), .val (.int (gat p3)), .val (.int (3 : Int32)), .val (.ref b28), .val (.ref b172), .val (.ref e203b), .val (.int (0 : Int32))]) rfl ?_
            show Steps p.tables e below (T203.setTop (mkF m 311 #[.val (.int p0), .val (.int p1), .val (.int p2), .val (.int p3), .val (.ref b1), .val (.int (gend p0 p3)), .val (.int (gat p3)), .val (.int (3 : Int32)), .val (.ref b28), .val (.ref b172), .val (.ref e203b), .val (.int (0 : Int32))] [])) _
            refine XS.iload X203.here hx rfl (hb hby at_311) rfl ?_
            show Steps p.tables e below (T203.setTop (mkF m 313 #[.val (.int p0), .val (.int p1), .val (.int p2), .val (.int p3), .val (.ref b1), .val (.int (gend p0 p3)), .val (.int (gat p3)), .val (.int (3 : Int32)), .val (.ref b28), .val (.ref b172), .val (.ref e203b), .val (.int (0 : Int32))] [(.int (0 : Int32))])) _
            refine XS.iload X203.here hx rfl (hb hby at_313) rfl ?_
            show Steps p.tables e below (T203.setTop (mkF m 315 #[.val (.int p0), .val (.int p1), .val (.int p2), .val (.int p3), .val (.ref b1), .val (.int (gend p0 p3)), .val (.int (gat p3)), .val (.int (3 : Int32)), .val (.ref b28), .val (.ref b172), .val (.ref e203b), .val (.int (0 : Int32))] [(.int (3 : Int32)), (.int (0 : Int32))])) _
            refine XS.icmpNo X203.here hx rfl (hb hby at_315) rfl (tlt (by decide : (0 : Int32) < (3 : Int32))).2.1 ?_
            show Steps p.tables e below (T203.setTop (mkF m 318 #[.val (.int p0), .val (.int p1), .val (.int p2), .val (.int p3), .val (.ref b1), .val (.int (gend p0 p3)), .val (.int (gat p3)), .val (.int (3 : Int32)), .val (.ref b28), .val (.ref b172), .val (.ref e203b), .val (.int (0 : Int32))] [])) _
            refine XS.aload X203.here hx rfl (hb hby at_318) rfl rfl ?_
            show Steps p.tables e below (T203.setTop (mkF m 320 #[.val (.int p0), .val (.int p1), .val (.int p2), .val (.int p3), .val (.ref b1), .val (.int (gend p0 p3)), .val (.int (gat p3)), .val (.int (3 : Int32)), .val (.ref b28), .val (.ref b172), .val (.ref e203b), .val (.int (0 : Int32))] [(.ref b1)])) _
            refine XS.iload X203.here hx rfl (hb hby at_320) rfl ?_
            show Steps p.tables e below (T203.setTop (mkF m 322 #[.val (.int p0), .val (.int p1), .val (.int p2), .val (.int p3), .val (.ref b1), .val (.int (gend p0 p3)), .val (.int (gat p3)), .val (.int (3 : Int32)), .val (.ref b28), .val (.ref b172), .val (.ref e203b), .val (.int (0 : Int32))] [(.int (gat p3)), (.ref b1)])) _
            refine XS.iconst X203.here hx rfl (hb hby at_322) ?_
            show Steps p.tables e below (T203.setTop (mkF m 323 #[.val (.int p0), .val (.int p1), .val (.int p2), .val (.int p3), .val (.ref b1), .val (.int (gend p0 p3)), .val (.int (gat p3)), .val (.int (3 : Int32)), .val (.ref b28), .val (.ref b172), .val (.ref e203b), .val (.int (0 : Int32))] [(.int (0 : Int32)), (.int (gat p3)), (.ref b1)])) _
            refine XS.iload X203.here hx rfl (hb hby at_323) rfl ?_
            show Steps p.tables e below (T203.setTop (mkF m 325 #[.val (.int p0), .val (.int p1), .val (.int p2), .val (.int p3), .val (.ref b1), .val (.int (gend p0 p3)), .val (.int (gat p3)), .val (.int (3 : Int32)), .val (.ref b28), .val (.ref b172), .val (.ref e203b), .val (.int (0 : Int32))] [(.int (gend p0 p3)), (.int (0 : Int32)), (.int (gat p3)), (.ref b1)])) _
            refine st210 _ ?_
            exact kt
          by_cases hc212 : (f4 (gat p3) (0 : Int32) (gend p0 p3) fh a 0) = (0 : Int32)
          · skip
            have hok : ∀ j, j < 0 → okP fh a (gend p0 p3) j := by
              intro j hj
              exact absurd hj (Nat.not_lt_zero _)
            obtain rfl : kk = 0 := own_dd DDq (by decide) hok (Or.inr ((own_ok ha (i := 0) (by decide) ha7 (by decide)).mp hc212))
            obtain ⟨_, _, ⟨T213, L213, k213, n213⟩, -, X213, ⟨Lc213, hQ213, l213, y213, z213⟩, st213⟩ := Jvm.LawKit.callS X210 hx (y := (⟨"com/example/benchwire/benchwire/protocols/DelimitedTextDeclaredDelimitersPinLaw", "cell", "([B[B[BIII[B)Z"⟩ : MethodName)) hown (mvT hZ (hw _ (List.mem_of_getElem? (i := 18) rfl))) (mvT hZ (hw _ (List.mem_of_getElem? (i := 19) rfl))) (mvT hZ (hw _ (List.mem_of_getElem? (i := 3) rfl))) (mvT hZ (hw _ (List.mem_of_getElem? (i := 20) rfl))) (by decide) (backOf (W := 0) (rm3 l Z a0 hw [] e203b b172 b1 (gat p3) (0 : Int32) (0 : Int32) b28 (fun j => if j < 0 then fh (a + j) else fq j) fq fh fq 3 a 0 T203.heap A203q G209 G205 G207 ha (by decide) ha7 (by decide) (by decide) (fun z => absurd z (by decide))) hZ (hw _ (List.mem_of_getElem? (i := 20) rfl)) (hw _ (List.mem_of_getElem? (i := 3) rfl)) (by decide) (by decide)) (g := (mkF m 416 #[.val (.int p0), .val (.int p1), .val (.int p2), .val (.int p3), .val (.ref b1), .val (.int (gend p0 p3)), .val (.int (gat p3)), .val (.int (3 : Int32)), .val (.ref b28), .val (.ref b172), .val (.ref e203b), .val (.int (0 : Int32))] [(.ref b28), (.int (0 : Int32)), (.int (0 : Int32)), (.int (gat p3)), (.ref b1), (.ref b172), (.ref e203b)])) rfl (by rw [hml]; rfl) (argsL := [(.ref e203b), (.ref b172), (.ref b1), (.int (gat p3)), (.int (0 : Int32)), (.int (0 : Int32)), (.ref b28)]) (rest := []) (lenOf pd_2 rfl) rfl (by show 2 * 0 + _ ≤ _; exact Nat.le_of_eq rfl) (hb hby at_416) (fun _ _ => ⟨rfl, e210, (by decide : 4 + 0 ≤ _), (by decide : 17 + 0 ≤ _)⟩)
            dsimp only [Pt.U, Pt.locs, Pt.cells, Pt.slots] at X213 l213 y213 z213 st213 hQ213
            subst l213 y213 z213
            obtain ⟨rfl, rfl, e213⟩ := hQ213
            try rw [List.append_nil] at X213
            obtain ⟨_, _, ⟨T214, L214, k214, n214⟩, -, X214, ⟨Lc214, hQ214, l214, y214, z214⟩, st214⟩ := Jvm.LawKit.callS X213 hx (y := (⟨"com/example/benchwire/benchwire/protocols/DelimitedTextDeclaredDelimitersPinLaw", "cell", "([B[B[BIII[B)Z"⟩ : MethodName)) hown (mvT hZ (hw _ (List.mem_of_getElem? (i := 18) rfl))) (mvT hZ (hw _ (List.mem_of_getElem? (i := 19) rfl))) (mvT hZ (hw _ (List.mem_of_getElem? (i := 3) rfl))) (mvT hZ (hw _ (List.mem_of_getElem? (i := 20) rfl))) (by decide) (backOf (W := 0) (rm3 l Z a0 hw [] e203b b172 b1 (gat p3) (0 : Int32) (1 : Int32) b28 (fun j => if j < 0 then fh (a + j) else fq j) fq fh fq 3 a 1 T203.heap A203q G209 G205 G207 ha (by decide) ha7 (by decide) (by decide) (fun z => absurd z (by decide))) hZ (hw _ (List.mem_of_getElem? (i := 20) rfl)) (hw _ (List.mem_of_getElem? (i := 3) rfl)) (by decide) (by decide)) (g := (mkF m 435 #[.val (.int p0), .val (.int p1), .val (.int p2), .val (.int p3), .val (.ref b1), .val (.int (gend p0 p3)), .val (.int (gat p3)), .val (.int (3 : Int32)), .val (.ref b28), .val (.ref b172), .val (.ref e203b), .val (.int (0 : Int32))] [(.ref b28), (.int (1 : Int32)), (.int (0 : Int32)), (.int (gat p3)), (.ref b1), (.ref b172), (.ref e203b)])) rfl (by rw [hml]; rfl) (argsL := [(.ref e203b), (.ref b172), (.ref b1), (.int (gat p3)), (.int (0 : Int32)), (.int (1 : Int32)), (.ref b28)]) (rest := []) (lenOf pd_2 rfl) rfl (by show 2 * 0 + _ ≤ _; exact Nat.le_of_eq rfl) (hb hby at_435) (fun _ _ => ⟨rfl, e213, (by decide : 4 + 0 ≤ _), (by decide : 17 + 0 ≤ _)⟩)
            dsimp only [Pt.U, Pt.locs, Pt.cells, Pt.slots] at X214 l214 y214 z214 st214 hQ214
            subst l214 y214 z214
            obtain ⟨rfl, rfl, e214⟩ := hQ214
            try rw [List.append_nil] at X214
            obtain ⟨_, _, ⟨T215, L215, k215, n215⟩, -, X215, ⟨Lc215, hQ215, l215, y215, z215⟩, st215⟩ := Jvm.LawKit.callS X214 hx (y := (⟨"com/example/benchwire/benchwire/protocols/DelimitedTextDeclaredDelimitersPinLaw", "cell", "([B[B[BIII[B)Z"⟩ : MethodName)) hown (mvT hZ (hw _ (List.mem_of_getElem? (i := 18) rfl))) (mvT hZ (hw _ (List.mem_of_getElem? (i := 19) rfl))) (mvT hZ (hw _ (List.mem_of_getElem? (i := 3) rfl))) (mvT hZ (hw _ (List.mem_of_getElem? (i := 20) rfl))) (by decide) (backOf (W := 0) (rm3 l Z a0 hw [] e203b b172 b1 (gat p3) (0 : Int32) (2 : Int32) b28 (fun j => if j < 0 then fh (a + j) else fq j) fq fh fq 3 a 2 T203.heap A203q G209 G205 G207 ha (by decide) ha7 (by decide) (by decide) (fun z => absurd z (by decide))) hZ (hw _ (List.mem_of_getElem? (i := 20) rfl)) (hw _ (List.mem_of_getElem? (i := 3) rfl)) (by decide) (by decide)) (g := (mkF m 454 #[.val (.int p0), .val (.int p1), .val (.int p2), .val (.int p3), .val (.ref b1), .val (.int (gend p0 p3)), .val (.int (gat p3)), .val (.int (3 : Int32)), .val (.ref b28), .val (.ref b172), .val (.ref e203b), .val (.int (0 : Int32))] [(.ref b28), (.int (2 : Int32)), (.int (0 : Int32)), (.int (gat p3)), (.ref b1), (.ref b172), (.ref e203b)])) rfl (by rw [hml]; rfl) (argsL := [(.ref e203b), (.ref b172), (.ref b1), (.int (gat p3)), (.int (0 : Int32)), (.int (2 : Int32)), (.ref b28)]) (rest := []) (lenOf pd_2 rfl) rfl (by show 2 * 0 + _ ≤ _; exact Nat.le_of_eq rfl) (hb hby at_454) (fun _ _ => ⟨rfl, e214, (by decide : 4 + 0 ≤ _), (by decide : 17 + 0 ≤ _)⟩)
            dsimp only [Pt.U, Pt.locs, Pt.cells, Pt.slots] at X215 l215 y215 z215 st215 hQ215
            subst l215 y215 z215
            obtain ⟨rfl, rfl, e215⟩ := hQ215
            try rw [List.append_nil] at X215
            obtain ⟨_, _, ⟨T216, L216, k216, n216⟩, -, X216, ⟨Lc216, hQ216, l216, y216, z216⟩, st216⟩ := Jvm.LawKit.callS X215 hx (y := (⟨"com/example/benchwire/benchwire/protocols/DelimitedTextDeclaredDelimitersPinLaw", "cell", "([B[B[BIII[B)Z"⟩ : MethodName)) hown (mvT hZ (hw _ (List.mem_of_getElem? (i := 18) rfl))) (mvT hZ (hw _ (List.mem_of_getElem? (i := 19) rfl))) (mvT hZ (hw _ (List.mem_of_getElem? (i := 3) rfl))) (mvT hZ (hw _ (List.mem_of_getElem? (i := 20) rfl))) (by decide) (backOf (W := 0) (rm3 l Z a0 hw [] e203b b172 b1 (gat p3) (0 : Int32) (3 : Int32) b28 (fun j => if j < 0 then fh (a + j) else fq j) fq fh fq 3 a 3 T203.heap A203q G209 G205 G207 ha (by decide) ha7 (by decide) (by decide) (fun z => absurd z (by decide))) hZ (hw _ (List.mem_of_getElem? (i := 20) rfl)) (hw _ (List.mem_of_getElem? (i := 3) rfl)) (by decide) (by decide)) (g := (mkF m 473 #[.val (.int p0), .val (.int p1), .val (.int p2), .val (.int p3), .val (.ref b1), .val (.int (gend p0 p3)), .val (.int (gat p3)), .val (.int (3 : Int32)), .val (.ref b28), .val (.ref b172), .val (.ref e203b), .val (.int (0 : Int32))] [(.ref b28), (.int (3 : Int32)), (.int (0 : Int32)), (.int (gat p3)), (.ref b1), (.ref b172), (.ref e203b)])) rfl (by rw [hml]; rfl) (argsL := [(.ref e203b), (.ref b172), (.ref b1), (.int (gat p3)), (.int (0 : Int32)), (.int (3 : Int32)), (.ref b28)]) (rest := []) (lenOf pd_2 rfl) rfl (by show 2 * 0 + _ ≤ _; exact Nat.le_of_eq rfl) (hb hby at_473) (fun _ _ => ⟨rfl, e215, (by decide : 4 + 0 ≤ _), (by decide : 17 + 0 ≤ _)⟩)
            dsimp only [Pt.U, Pt.locs, Pt.cells, Pt.slots] at X216 l216 y216 z216 st216 hQ216
            subst l216 y216 z216
            obtain ⟨rfl, rfl, e216⟩ := hQ216
            try rw [List.append_nil] at X216
            have K217 : ∀ t, Steps p.tables e below (T216.setTop (mkF m 484 #[.val (.int p0), .val (.int p1), .val (.int p2), .val (.int p3), .val (.ref b1), .val (.int (gend p0 p3)), .val (.int (gat p3)), .val (.int (3 : Int32)), .val (.ref b28), .val (.ref b172), .val (.ref e203b), .val (.int (0 : Int32))] [(.int (1 : Int32))])) t → Steps p.tables e below (s₁.setTop (mkF m 0 #[.val (.int p0), .val (.int p1), .val (.int p2), .val (.int p3), .unset, .unset, .unset, .unset, .unset, .unset, .unset, .unset] [])) t := by
              intro t kt
              refine K211 _ ?_
              show Steps p.tables e below (T210.setTop (mkF m 328 #[.val (.int p0), .val (.int p1), .val (.int p2), .val (.int p3), .val (.ref b1), .val (.int (gend p0 p3)), .val (.int (gat p3)), .val (.int (3 : Int32)), .val (.ref b28), .val (.ref b172), .val (.ref e203b), .val (.int (0 : Int32))] [(.int (f4 (gat p3) (0 : Int32) (gend p0 p3) fh a 0))])) _
              refine XS.ifYes X210.here hx rfl (pc0 := 328) (pc' := 403) rfl (hb hby at_328) rfl ((if0 _ _).trans (teq hc212).1) (by decide) (by decide) ?_
              show Steps p.tables e below (T210.setTop (mkF m 403 #[.val (.int p0), .val (.int p1), .val (.int p2), .val (.int p3), .val (.ref b1), .val (.int (gend p0 p3)), .val (.int (gat p3)), .val (.int (3 : Int32)), .val (.ref b28), .val (.ref b172), .val (.ref e203b), .val (.int (0 : Int32))] [])) _
              refine XS.aload X210.here hx rfl (hb hby at_403) rfl rfl ?_
              show Steps p.tables e below (T210.setTop (mkF m 405 #[.val (.int p0), .val (.int p1), .val (.int p2), .val (.int p3), .val (.ref b1), .val (.int (gend p0 p3)), .val (.int (gat p3)), .val (.int (3 : Int32)), .val (.ref b28), .val (.ref b172), .val (.ref e203b), .val (.int (0 : Int32))] [(.ref e203b)])) _
              refine XS.aload X210.here hx rfl (hb hby at_405) rfl rfl ?_
              show Steps p.tables e below (T210.setTop (mkF m 407 #[.val (.int p0), .val (.int p1), .val (.int p2), .val (.int p3), .val (.ref b1), .val (.int (gend p0 p3)), .val (.int (gat p3)), .val (.int (3 : Int32)), .val (.ref b28), .val (.ref b172), .val (.ref e203b), .val (.int (0 : Int32))] [(.ref b172), (.ref e203b)])) _
              refine XS.aload X210.here hx rfl (hb hby at_407) rfl rfl ?_
              show Steps p.tables e below (T210.setTop (mkF m 409 #[.val (.int p0), .val (.int p1), .val (.int p2), .val (.int p3), .val (.ref b1), .val (.int (gend p0 p3)), .val (.int (gat p3)), .val (.int (3 : Int32)), .val (.ref b28), .val (.ref b172), .val (.ref e203b), .val (.int (0 : Int32))] [(.ref b1), (.ref b172), (.ref e203b)])) _
              refine XS.iload X210.here hx rfl (hb hby at_409) rfl ?_
              show Steps p.tables e below (T210.setTop (mkF m 411 #[.val (.int p0), .val (.int p1), .val (.int p2), .val (.int p3), .val (.ref b1), .val (.int (gend p0 p3)), .val (.int (gat p3)), .val (.int (3 : Int32)), .val (.ref b28), .val (.ref b172), .val (.ref e203b), .val (.int (0 : Int32))] [(.int (gat p3)), (.ref b1), (.ref b172), (.ref e203b)])) _
              refine XS.iload X210.here hx rfl (hb hby at_411) rfl ?_
              show Steps p.tables e below (T210.setTop (mkF m 413 #[.val (.int p0), .val (.int p1), .val (.int p2), .val (.int p3), .val (.ref b1), .val (.int (gend p0 p3)), .val (.int (gat p3)), .val (.int (3 : Int32)), .val (.ref b28), .val (.ref b172), .val (.ref e203b), .val (.int (0 : Int32))] [(.int (0 : Int32)), (.int (gat p3)), (.ref b1), (.ref b172), (.ref e203b)])) _
              refine XS.iconst X210.here hx rfl (hb hby at_413) ?_
              show Steps p.tables e below (T210.setTop (mkF m 414 #[.val (.int p0), .val (.int p1), .val (.int p2), .val (.int p3), .val (.ref b1), .val (.int (gend p0 p3)), .val (.int (gat p3)), .val (.int (3 : Int32)), .val (.ref b28), .val (.ref b172), .val (.ref e203b), .val (.int (0 : Int32))] [(.int (0 : Int32)), (.int (0 : Int32)), (.int (gat p3)), (.ref b1), (.ref b172), (.ref e203b)])) _
              refine XS.aload X210.here hx rfl (hb hby at_414) rfl rfl ?_
              show Steps p.tables e below (T210.setTop (mkF m 416 #[.val (.int p0), .val (.int p1), .val (.int p2), .val (.int p3), .val (.ref b1), .val (.int (gend p0 p3)), .val (.int (gat p3)), .val (.int (3 : Int32)), .val (.ref b28), .val (.ref b172), .val (.ref e203b), .val (.int (0 : Int32))] [(.ref b28), (.int (0 : Int32)), (.int (0 : Int32)), (.int (gat p3)), (.ref b1), (.ref b172), (.ref e203b)])) _
              refine st213 _ ?_
              show Steps p.tables e below (T213.setTop (mkF m 419 #[.val (.int p0), .val (.int p1), .val (.int p2), .val (.int p3), .val (.ref b1), .val (.int (gend p0 p3)), .val (.int (gat p3)), .val (.int (3 : Int32)), .val (.ref b28), .val (.ref b172), .val (.ref e203b), .val (.int (0 : Int32))] [(.int (f3 (gat p3) (0 : Int32) (0 : Int32) (fun j => if j < 0 then fh (a + j) else fq j) fq fh fq 3 a 0))])) _
              refine XS.ifNo X213.here hx rfl (hb hby at_419) rfl ((if0 _ _).trans (feq (show ¬ ((f3 (gat p3) (0 : Int32) (0 : Int32) (fun j => if j < 0 then fh (a + j) else fq j) fq fh fq 3 a 0) = (0 : Int32)) from (own_cell (K := 0) (i := 0) rfl rfl (by decide) (by decide) (fun j hj => rfl) (fun j hj => rfl)))).1) ?_
              show Steps p.tables e below (T213.setTop (mkF m 422 #[.val (.int p0), .val (.int p1), .val (.int p2), .val (.int p3), .val (.ref b1), .val (.int (gend p0 p3)), .val (.int (gat p3)), .val (.int (3 : Int32)), .val (.ref b28), .val (.ref b172), .val (.ref e203b), .val (.int (0 : Int32))] [])) _
              refine XS.aload X213.here hx rfl (hb hby at_422) rfl rfl ?_
              show Steps p.tables e below (T213.setTop (mkF m 424 #[.val (.int p0), .val (.int p1), .val (.int p2), .val (.int p3), .val (.ref b1), .val (.int (gend p0 p3)), .val (.int (gat p3)), .val (.int (3 : Int32)), .val (.ref b28), .val (.ref b172), .val (.ref e203b), .val (.int (0 : Int32))] [(.ref e203b)])) _
              refine XS.aload X213.here hx rfl (hb hby at_424) rfl rfl ?_
              show Steps p.tables e below (T213.setTop (mkF m 426 #[.val (.int p0), .val (.int p1), .val (.int p2), .val (.int p3), .val (.ref b1), .val (.int (gend p0 p3)), .val (.int (gat p3)), .val (.int (3 : Int32)), .val (.ref b28), .val (.ref b172), .val (.ref e203b), .val (.int (0 : Int32))] [(.ref b172), (.ref e203b)])) _
              refine XS.aload X213.here hx rfl (hb hby at_426) rfl rfl ?_
              show Steps p.tables e below (T213.setTop (mkF m 428 #[.val (.int p0), .val (.int p1), .val (.int p2), .val (.int p3), .val (.ref b1), .val (.int (gend p0 p3)), .val (.int (gat p3)), .val (.int (3 : Int32)), .val (.ref b28), .val (.ref b172), .val (.ref e203b), .val (.int (0 : Int32))] [(.ref b1), (.ref b172), (.ref e203b)])) _
              refine XS.iload X213.here hx rfl (hb hby at_428) rfl ?_
              show Steps p.tables e below (T213.setTop (mkF m 430 #[.val (.int p0), .val (.int p1), .val (.int p2), .val (.int p3), .val (.ref b1), .val (.int (gend p0 p3)), .val (.int (gat p3)), .val (.int (3 : Int32)), .val (.ref b28), .val (.ref b172), .val (.ref e203b), .val (.int (0 : Int32))] [(.int (gat p3)), (.ref b1), (.ref b172), (.ref e203b)])) _
              refine XS.iload X213.here hx rfl (hb hby at_430) rfl ?_
              show Steps p.tables e below (T213.setTop (mkF m 432 #[.val (.int p0), .val (.int p1), .val (.int p2), .val (.int p3), .val (.ref b1), .val (.int (gend p0 p3)), .val (.int (gat p3)), .val (.int (3 : Int32)), .val (.ref b28), .val (.ref b172), .val (.ref e203b), .val (.int (0 : Int32))] [(.int (0 : Int32)), (.int (gat p3)), (.ref b1), (.ref b172), (.ref e203b)])) _
              refine XS.iconst X213.here hx rfl (hb hby at_432) ?_
              show Steps p.tables e below (T213.setTop (mkF m 433 #[.val (.int p0), .val (.int p1), .val (.int p2), .val (.int p3), .val (.ref b1), .val (.int (gend p0 p3)), .val (.int (gat p3)), .val (.int (3 : Int32)), .val (.ref b28), .val (.ref b172), .val (.ref e203b), .val (.int (0 : Int32))] [(.int (1 : Int32)), (.int (0 : Int32)), (.int (gat p3)), (.ref b1), (.ref b172), (.ref e203b)])) _
              refine XS.aload X213.here hx rfl (hb hby at_433) rfl rfl ?_
              show Steps p.tables e below (T213.setTop (mkF m 435 #[.val (.int p0), .val (.int p1), .val (.int p2), .val (.int p3), .val (.ref b1), .val (.int (gend p0 p3)), .val (.int (gat p3)), .val (.int (3 : Int32)), .val (.ref b28), .val (.ref b172), .val (.ref e203b), .val (.int (0 : Int32))] [(.ref b28), (.int (1 : Int32)), (.int (0 : Int32)), (.int (gat p3)), (.ref b1), (.ref b172), (.ref e203b)])) _
              refine st214 _ ?_
              show Steps p.tables e below (T214.setTop (mkF m 438 #[.val (.int p0), .val (.int p1), .val (.int p2), .val (.int p3), .val (.ref b1), .val (.int (gend p0 p3)), .val (.int (gat p3)), .val (.int (3 : Int32)), .val (.ref b28), .val (.ref b172), .val (.ref e203b), .val (.int (0 : Int32))] [(.int (f3 (gat p3) (0 : Int32) (1 : Int32) (fun j => if j < 0 then fh (a + j) else fq j) fq fh fq 3 a 1))])) _
              refine XS.ifNo X214.here hx rfl (hb hby at_438) rfl ((if0 _ _).trans (feq (show ¬ ((f3 (gat p3) (0 : Int32) (1 : Int32) (fun j => if j < 0 then fh (a + j) else fq j) fq fh fq 3 a 1) = (0 : Int32)) from (own_cell (K := 0) (i := 1) rfl rfl (by decide) (by decide) (fun j hj => rfl) (fun j hj => rfl)))).1) ?_
              show Steps p.tables e below (T214.setTop (mkF m 441 #[.val (.int p0), .val (.int p1), .val (.int p2), .val (.int p3), .val (.ref b1), .val (.int (gend p0 p3)), .val (.int (gat p3)), .val (.int (3 : Int32)), .val (.ref b28), .val (.ref b172), .val (.ref e203b), .val (.int (0 : Int32))] [])) _
              refine XS.aload X214.here hx rfl (hb hby at_441) rfl rfl ?_
              show Steps p.tables e below (T214.setTop (mkF m 443 #[.val (.int p0), .val (.int p1), .val (.int p2), .val (.int p3), .val (.ref b1), .val (.int (gend p0 p3)), .val (.int (gat p3)), .val (.int (3 : Int32)), .val (.ref b28), .val (.ref b172), .val (.ref e203b), .val (.int (0 : Int32))] [(.ref e203b)])) _
              refine XS.aload X214.here hx rfl (hb hby at_443) rfl rfl ?_
              show Steps p.tables e below (T214.setTop (mkF m 445 #[.val (.int p0), .val (.int p1), .val (.int p2), .val (.int p3), .val (.ref b1), .val (.int (gend p0 p3)), .val (.int (gat p3)), .val (.int (3 : Int32)), .val (.ref b28), .val (.ref b172), .val (.ref e203b), .val (.int (0 : Int32))] [(.ref b172), (.ref e203b)])) _
              refine XS.aload X214.here hx rfl (hb hby at_445) rfl rfl ?_
              show Steps p.tables e below (T214.setTop (mkF m 447 #[.val (.int p0), .val (.int p1), .val (.int p2), .val (.int p3), .val (.ref b1), .val (.int (gend p0 p3)), .val (.int (gat p3)), .val (.int (3 : Int32)), .val (.ref b28), .val (.ref b172), .val (.ref e203b), .val (.int (0 : Int32))] [(.ref b1), (.ref b172), (.ref e203b)])) _
              refine XS.iload X214.here hx rfl (hb hby at_447) rfl ?_
              show Steps p.tables e below (T214.setTop (mkF m 449 #[.val (.int p0), .val (.int p1), .val (.int p2), .val (.int p3), .val (.ref b1), .val (.int (gend p0 p3)), .val (.int (gat p3)), .val (.int (3 : Int32)), .val (.ref b28), .val (.ref b172), .val (.ref e203b), .val (.int (0 : Int32))] [(.int (gat p3)), (.ref b1), (.ref b172), (.ref e203b)])) _
              refine XS.iload X214.here hx rfl (hb hby at_449) rfl ?_
              show Steps p.tables e below (T214.setTop (mkF m 451 #[.val (.int p0), .val (.int p1), .val (.int p2), .val (.int p3), .val (.ref b1), .val (.int (gend p0 p3)), .val (.int (gat p3)), .val (.int (3 : Int32)), .val (.ref b28), .val (.ref b172), .val (.ref e203b), .val (.int (0 : Int32))] [(.int (0 : Int32)), (.int (gat p3)), (.ref b1), (.ref b172), (.ref e203b)])) _
              refine XS.iconst X214.here hx rfl (hb hby at_451) ?_
              show Steps p.tables e below (T214.setTop (mkF m 452 #[.val (.int p0), .val (.int p1), .val (.int p2), .val (.int p3), .val (.ref b1), .val (.int (gend p0 p3)), .val (.int (gat p3)), .val (.int (3 : Int32)), .val (.ref b28), .val (.ref b172), .val (.ref e203b), .val (.int (0 : Int32))] [(.int (2 : Int32)), (.int (0 : Int32)), (.int (gat p3)), (.ref b1), (.ref b172), (.ref e203b)])) _
              refine XS.aload X214.here hx rfl (hb hby at_452) rfl rfl ?_
              show Steps p.tables e below (T214.setTop (mkF m 454 #[.val (.int p0), .val (.int p1), .val (.int p2), .val (.int p3), .val (.ref b1), .val (.int (gend p0 p3)), .val (.int (gat p3)), .val (.int (3 : Int32)), .val (.ref b28), .val (.ref b172), .val (.ref e203b), .val (.int (0 : Int32))] [(.ref b28), (.int (2 : Int32)), (.int (0 : Int32)), (.int (gat p3)), (.ref b1), (.ref b172), (.ref e203b)])) _
              refine st215 _ ?_
              show Steps p.tables e below (T215.setTop (mkF m 457 #[.val (.int p0), .val (.int p1), .val (.int p2), .val (.int p3), .val (.ref b1), .val (.int (gend p0 p3)), .val (.int (gat p3)), .val (.int (3 : Int32)), .val (.ref b28), .val (.ref b172), .val (.ref e203b), .val (.int (0 : Int32))] [(.int (f3 (gat p3) (0 : Int32) (2 : Int32) (fun j => if j < 0 then fh (a + j) else fq j) fq fh fq 3 a 2))])) _
              refine XS.ifNo X215.here hx rfl (hb hby at_457) rfl ((if0 _ _).trans (feq (show ¬ ((f3 (gat p3) (0 : Int32) (2 : Int32) (fun j => if j < 0 then fh (a + j) else fq j) fq fh fq 3 a 2) = (0 : Int32)) from (own_cell (K := 0) (i := 2) rfl rfl (by decide) (by decide) (fun j hj => rfl) (fun j hj => rfl)))).1) ?_
              show Steps p.tables e below (T215.setTop (mkF m 460 #[.val (.int p0), .val (.int p1), .val (.int p2), .val (.int p3), .val (.ref b1), .val (.int (gend p0 p3)), .val (.int (gat p3)), .val (.int (3 : Int32)), .val (.ref b28), .val (.ref b172), .val (.ref e203b), .val (.int (0 : Int32))] [])) _
              refine XS.aload X215.here hx rfl (hb hby at_460) rfl rfl ?_
              show Steps p.tables e below (T215.setTop (mkF m 462 #[.val (.int p0), .val (.int p1), .val (.int p2), .val (.int p3), .val (.ref b1), .val (.int (gend p0 p3)), .val (.int (gat p3)), .val (.int (3 : Int32)), .val (.ref b28), .val (.ref b172), .val (.ref e203b), .val (.int (0 : Int32))] [(.ref e203b)])) _
              refine XS.aload X215.here hx rfl (hb hby at_462) rfl rfl ?_
              show Steps p.tables e below (T215.setTop (mkF m 464 #[.val (.int p0), .val (.int p1), .val (.int p2), .val (.int p3), .val (.ref b1), .val (.int (gend p0 p3)), .val (.int (gat p3)), .val (.int (3 : Int32)), .val (.ref b28), .val (.ref b172), .val (.ref e203b), .val (.int (0 : Int32))] [(.ref b172), (.ref e203b)])) _
              refine XS.aload X215.here hx rfl (hb hby at_464) rfl rfl ?_
              show Steps p.tables e below (T215.setTop (mkF m 466 #[.val (.int p0), .val (.int p1), .val (.int p2), .val (.int p3), .val (.ref b1), .val (.int (gend p0 p3)), .val (.int (gat p3)), .val (.int (3 : Int32)), .val (.ref b28), .val (.ref b172), .val (.ref e203b), .val (.int (0 : Int32))] [(.ref b1), (.ref b172), (.ref e203b)])) _
              refine XS.iload X215.here hx rfl (hb hby at_466) rfl ?_
              show Steps p.tables e below (T215.setTop (mkF m 468 #[.val (.int p0), .val (.int p1), .val (.int p2), .val (.int p3), .val (.ref b1), .val (.int (gend p0 p3)), .val (.int (gat p3)), .val (.int (3 : Int32)), .val (.ref b28), .val (.ref b172), .val (.ref e203b), .val (.int (0 : Int32))] [(.int (gat p3)), (.ref b1), (.ref b172), (.ref e203b)])) _
              refine XS.iload X215.here hx rfl (hb hby at_468) rfl ?_
              show Steps p.tables e below (T215.setTop (mkF m 470 #[.val (.int p0), .val (.int p1), .val (.int p2), .val (.int p3), .val (.ref b1), .val (.int (gend p0 p3)), .val (.int (gat p3)), .val (.int (3 : Int32)), .val (.ref b28), .val (.ref b172), .val (.ref e203b), .val (.int (0 : Int32))] [(.int (0 : Int32)), (.int (gat p3)), (.ref b1), (.ref b172), (.ref e203b)])) _
              refine XS.iconst X215.here hx rfl (hb hby at_470) ?_
              show Steps p.tables e below (T215.setTop (mkF m 471 #[.val (.int p0), .val (.int p1), .val (.int p2), .val (.int p3), .val (.ref b1), .val (.int (gend p0 p3)), .val (.int (gat p3)), .val (.int (3 : Int32)), .val (.ref b28), .val (.ref b172), .val (.ref e203b), .val (.int (0 : Int32))] [(.int (3 : Int32)), (.int (0 : Int32)), (.int (gat p3)), (.ref b1), (.ref b172), (.ref e203b)])) _
              refine XS.aload X215.here hx rfl (hb hby at_471) rfl rfl ?_
              show Steps p.tables e below (T215.setTop (mkF m 473 #[.val (.int p0), .val (.int p1), .val (.int p2), .val (.int p3), .val (.ref b1), .val (.int (gend p0 p3)), .val (.int (gat p3)), .val (.int (3 : Int32)), .val (.ref b28), .val (.ref b172), .val (.ref e203b), .val (.int (0 : Int32))] [(.ref b28), (.int (3 : Int32)), (.int (0 : Int32)), (.int (gat p3)), (.ref b1), (.ref b172), (.ref e203b)])) _
              refine st216 _ ?_
              show Steps p.tables e below (T216.setTop (mkF m 476 #[.val (.int p0), .val (.int p1), .val (.int p2), .val (.int p3), .val (.ref b1), .val (.int (gend p0 p3)), .val (.int (gat p3)), .val (.int (3 : Int32)), .val (.ref b28), .val (.ref b172), .val (.ref e203b), .val (.int (0 : Int32))] [(.int (f3 (gat p3) (0 : Int32) (3 : Int32) (fun j => if j < 0 then fh (a + j) else fq j) fq fh fq 3 a 3))])) _
              refine XS.ifNo X216.here hx rfl (hb hby at_476) rfl ((if0 _ _).trans (feq (show ¬ ((f3 (gat p3) (0 : Int32) (3 : Int32) (fun j => if j < 0 then fh (a + j) else fq j) fq fh fq 3 a 3) = (0 : Int32)) from (own_cell (K := 0) (i := 3) rfl rfl (by decide) (by decide) (fun j hj => rfl) (fun j hj => rfl)))).1) ?_
              show Steps p.tables e below (T216.setTop (mkF m 479 #[.val (.int p0), .val (.int p1), .val (.int p2), .val (.int p3), .val (.ref b1), .val (.int (gend p0 p3)), .val (.int (gat p3)), .val (.int (3 : Int32)), .val (.ref b28), .val (.ref b172), .val (.ref e203b), .val (.int (0 : Int32))] [])) _
              refine XS.iconst X216.here hx rfl (hb hby at_479) ?_
              show Steps p.tables e below (T216.setTop (mkF m 480 #[.val (.int p0), .val (.int p1), .val (.int p2), .val (.int p3), .val (.ref b1), .val (.int (gend p0 p3)), .val (.int (gat p3)), .val (.int (3 : Int32)), .val (.ref b28), .val (.ref b172), .val (.ref e203b), .val (.int (0 : Int32))] [(.int (1 : Int32))])) _
              refine XS.goto X216.here hx rfl (pc0 := 480) (pc' := 484) rfl (hb hby at_480) (by decide) (by decide) ?_
              exact kt
            obtain ⟨fsQ, hr, hrun, hended, hW, hsame⟩ := X216.leave (v := some (.int (1 : Int32))) (fun h => by rw [Bd.returns] at h; cases h)
            refine ⟨_, _, pre0 _ (K217 _ ?_), hrun, hended, _, _, rfl, ?_, ⟨_, rfl⟩, hW, hsame.mono (by decide) (by decide)⟩
            · show Steps p.tables e below (T216.setTop (mkF m 484 #[.val (.int p0), .val (.int p1), .val (.int p2), .val (.int p3), .val (.ref b1), .val (.int (gend p0 p3)), .val (.int (gat p3)), .val (.int (3 : Int32)), .val (.ref b28), .val (.ref b172), .val (.ref e203b), .val (.int (0 : Int32))] [(.int (1 : Int32))])) _
              exact retN X216 hx (t := .boolean) Bd.returns (by simp) (hb hby at_484) hr
            · show Q0 Z p0 p1 p2 p3  h0 n0 _ T216.heap _
              rw [e216]
              exact ⟨rfl, N203⟩
          · skip
            obtain ⟨_, _, ⟨T218, L218, k218, n218⟩, -, X218, ⟨Lc218, hQ218, l218, y218, z218⟩, st218⟩ := Jvm.LawKit.callS X210 hx (y := (⟨"com/example/benchwire/benchwire/protocols/DelimitedTextDeclaredDelimitersPinLaw", "ok", "([BIIB)Z"⟩ : MethodName)) hown (mvT hZ (hw _ (List.mem_of_getElem? (i := 21) rfl))) (mvT hZ (hw _ (List.mem_of_getElem? (i := 22) rfl))) (mvT hZ (hw _ (List.mem_of_getElem? (i := 3) rfl))) (mvT hZ (hw _ (List.mem_of_getElem? (i := 23) rfl))) (by decide) (backOf (W := 0) (rm4 l Z a0 hw [] b1 (gat p3) (1 : Int32) (gend p0 p3) fh a 1 T203.heap G205 ha (by decide) ha7 (by decide)) hZ (hw _ (List.mem_of_getElem? (i := 23) rfl)) (hw _ (List.mem_of_getElem? (i := 3) rfl)) (by decide) (by decide)) (g := (mkF m 348 #[.val (.int p0), .val (.int p1), .val (.int p2), .val (.int p3), .val (.ref b1), .val (.int (gend p0 p3)), .val (.int (gat p3)), .val (.int (3 : Int32)), .val (.ref b28), .val (.ref b172), .val (.ref e203b), .val (.int (1 : Int32))] [(.int (gend p0 p3)), (.int (1 : Int32)), (.int (gat p3)), (.ref b1)])) rfl (by rw [hml]; rfl) (argsL := [(.ref b1), (.int (gat p3)), (.int (1 : Int32)), (.int (gend p0 p3))]) (rest := []) (lenOf pd_3 rfl) rfl (by show 2 * 0 + _ ≤ _; exact Nat.le_of_eq rfl) (hb hby at_348) (fun _ _ => ⟨rfl, e210, (by decide : 4 + 0 ≤ _), (by decide : 17 + 0 ≤ _)⟩)
            dsimp only [Pt.U, Pt.locs, Pt.cells, Pt.slots] at X218 l218 y218 z218 st218 hQ218
            subst l218 y218 z218
            obtain ⟨rfl, rfl, e218⟩ := hQ218
            try rw [List.append_nil] at X218
            have K219 : ∀ t, Steps p.tables e below (T218.setTop (mkF m 351 #[.val (.int p0), .val (.int p1), .val (.int p2), .val (.int p3), .val (.ref b1), .val (.int (gend p0 p3)), .val (.int (gat p3)), .val (.int (3 : Int32)), .val (.ref b28), .val (.ref b172), .val (.ref e203b), .val (.int (1 : Int32))] [(.int (f4 (gat p3) (1 : Int32) (gend p0 p3) fh a 1))])) t → Steps p.tables e below (s₁.setTop (mkF m 0 #[.val (.int p0), .val (.int p1), .val (.int p2), .val (.int p3), .unset, .unset, .unset, .unset, .unset, .unset, .unset, .unset] [])) t := by
              intro t kt
              refine K211 _ ?_
              show Steps p.tables e below (T210.setTop (mkF m 328 #[.val (.int p0), .val (.int p1), .val (.int p2), .val (.int p3), .val (.ref b1), .val (.int (gend p0 p3)), .val (.int (gat p3)), .val (.int (3 : Int32)), .val (.ref b28), .val (.ref b172), .val (.ref e203b), .val (.int (0 : Int32))] [(.int (f4 (gat p3) (0 : Int32) (gend p0 p3) fh a 0))])) _
              refine XS.ifNo X210.here hx rfl (hb hby at_328) rfl ((if0 _ _).trans (feq hc212).1) ?_
              show Steps p.tables e below (T210.setTop (mkF m 331 #[.val (.int p0), .val (.int p1), .val (.int p2), .val (.int p3), .val (.ref b1), .val (.int (gend p0 p3)), .val (.int (gat p3)), .val (.int (3 : Int32)), .val (.ref b28), .val (.ref b172), .val (.ref e203b), .val (.int (0 : Int32))] [])) _
              refine XS.iconst X210.here hx rfl (hb hby at_331) ?_
              show Steps p.tables e below (T210.setTop (mkF m 332 #[.val (.int p0), .val (.int p1), .val (.int p2), .val (.int p3), .val (.ref b1), .val (.int (gend p0 p3)), .val (.int (gat p3)), .val (.int (3 : Int32)), .val (.ref b28), .val (.ref b172), .val (.ref e203b), .val (.int (0 : Int32))] [(.int (1 : Int32))])) _
              refine XS.istore X210.here hx rfl (hb hby at_332) rfl (l' := #[.val (.int p0), .val (.int p1), .val (.int p2), .val (.int p3), .val (.ref b1), .val (.int (gend p0 p3)), .val (.int (gat p3)), .val (.int (3 : Int32)), .val (.ref b28), .val (.ref b172), .val (.ref e203b), .val (.int (1 : Int32))]) rfl ?_
              show Steps p.tables e below (T210.setTop (mkF m 334 #[.val (.int p0), .val (.int p1), .val (.int p2), .val (.int p3), .val (.ref b1), .val (.int (gend p0 p3)), .val (.int (gat p3)), .val (.int (3 : Int32)), .val (.ref b28), .val (.ref b172), .val (.ref e203b), .val (.int (1 : Int32))] [])) _
              refine XS.iload X210.here hx rfl (hb hby at_334) rfl ?_
              show Steps p.tables e below (T210.setTop (mkF m 336 #[.val (.int p0), .val (.int p1), .val (.int p2), .val (.int p3), .val (.ref b1), .val (.int (gend p0 p3)), .val (.int (gat p3)), .val (.int (3 : Int32)), .val (.ref b28), .val (.ref b172), .val (.ref e203b), .val (.int (1 : Int32))] [(.int (1 : Int32))])) _
              refine XS.iload X210.here hx rfl (hb hby at_336) rfl ?_
              show Steps p.tables e below (T210.setTop (mkF m 338 #[.val (.int p0), .val (.int p1), .val (.int p2), .val (.int p3), .val (.ref b1), .val (.int (gend p0 p3)), .val (.int (gat p3)), .val (.int (3 : Int32)), .val (.ref b28), .val (.ref b172), .val (.ref e203b), .val (.int (1 : Int32))] [(.int (3 : Int32)), (.int (1 : Int32))])) _
              refine XS.icmpNo X210.here hx rfl (hb hby at_338) rfl (tlt (by decide : (1 : Int32) < (3 : Int32))).2.1 ?_
              show Steps p.tables e below (T210.setTop (mkF m 341 #[.val (.int p0), .val (.int p1), .val (.int p2), .val (.int p3), .val (.ref b1), .val (.int (gend p0 p3)), .val (.int (gat p3)), .val (.int (3 : Int32)), .val (.ref b28), .val (.ref b172), .val (.ref e203b), .val (.int (1 : Int32))] [])) _
              refine XS.aload X210.here hx rfl (hb hby at_341) rfl rfl ?_
              show Steps p.tables e below (T210.setTop (mkF m 343 #[.val (.int p0), .val (.int p1), .val (.int p2), .val (.int p3), .val (.ref b1), .val (.int (gend p0 p3)), .val (.int (gat p3)), .val (.int (3 : Int32)), .val (.ref b28), .val (.ref b172), .val (.ref e203b), .val (.int (1 : Int32))] [(.ref b1)])) _
              refine XS.iload X210.here hx rfl (hb hby at_343) rfl ?_
              show Steps p.tables e below (T210.setTop (mkF m 345 #[.val (.int p0), .val (.int p1), .val (.int p2), .val (.int p3), .val (.ref b1), .val (.int (gend p0 p3)), .val (.int (gat p3)), .val (.int (3 : Int32)), .val (.ref b28), .val (.ref b172), .val (.ref e203b), .val (.int (1 : Int32))] [(.int (gat p3)), (.ref b1)])) _
              refine XS.iconst X210.here hx rfl (hb hby at_345) ?_
              show Steps p.tables e below (T210.setTop (mkF m 346 #[.val (.int p0), .val (.int p1), .val (.int p2), .val (.int p3), .val (.ref b1), .val (.int (gend p0 p3)), .val (.int (gat p3)), .val (.int (3 : Int32)), .val (.ref b28), .val (.ref b172), .val (.ref e203b), .val (.int (1 : Int32))] [(.int (1 : Int32)), (.int (gat p3)), (.ref b1)])) _
              refine XS.iload X210.here hx rfl (hb hby at_346) rfl ?_
              show Steps p.tables e below (T210.setTop (mkF m 348 #[.val (.int p0), .val (.int p1), .val (.int p2), .val (.int p3), .val (.ref b1), .val (.int (gend p0 p3)), .val (.int (gat p3)), .val (.int (3 : Int32)), .val (.ref b28), .val (.ref b172), .val (.ref e203b), .val (.int (1 : Int32))] [(.int (gend p0 p3)), (.int (1 : Int32)), (.int (gat p3)), (.ref b1)])) _
              refine st218 _ ?_
              exact kt
            by_cases hc220 : (f4 (gat p3) (1 : Int32) (gend p0 p3) fh a 1) = (0 : Int32)
            · skip
              have hok : ∀ j, j < 1 → okP fh a (gend p0 p3) j := by
                intro j hj
                rcases (by omega : j = 0) with rfl
                · exact (Classical.byContradiction fun y => hc212 ((own_ok ha (i := 0) (by decide) ha7 (by decide)).mpr y))
              obtain rfl : kk = 1 := own_dd DDq (by decide) hok (Or.inr ((own_ok ha (i := 1) (by decide) ha7 (by decide)).mp hc220))
              obtain ⟨_, _, ⟨T221, L221, k221, n221⟩, -, X221, ⟨Lc221, hQ221, l221, y221, z221⟩, st221⟩ := Jvm.LawKit.callS X218 hx (y := (⟨"com/example/benchwire/benchwire/protocols/DelimitedTextDeclaredDelimitersPinLaw", "cell", "([B[B[BIII[B)Z"⟩ : MethodName)) hown (mvT hZ (hw _ (List.mem_of_getElem? (i := 18) rfl))) (mvT hZ (hw _ (List.mem_of_getElem? (i := 19) rfl))) (mvT hZ (hw _ (List.mem_of_getElem? (i := 3) rfl))) (mvT hZ (hw _ (List.mem_of_getElem? (i := 20) rfl))) (by decide) (backOf (W := 0) (rm3 l Z a0 hw [] e203b b172 b1 (gat p3) (1 : Int32) (0 : Int32) b28 (fun j => if j < 1 then fh (a + j) else fq j) fq fh fq 3 a 0 T203.heap A203q G209 G205 G207 ha (by decide) ha7 (by decide) (by decide) (fun _ => (hok 0 (by decide)).1)) hZ (hw _ (List.mem_of_getElem? (i := 20) rfl)) (hw _ (List.mem_of_getElem? (i := 3) rfl)) (by decide) (by decide)) (g := (mkF m 416 #[.val (.int p0), .val (.int p1), .val (.int p2), .val (.int p3), .val (.ref b1), .val (.int (gend p0 p3)), .val (.int (gat p3)), .val (.int (3 : Int32)), .val (.ref b28), .val (.ref b172), .val (.ref e203b), .val (.int (1 : Int32))] [(.ref b28), (.int (0 : Int32)), (.int (1 : Int32)), (.int (gat p3)), (.ref b1), (.ref b172), (.ref e203b)])) rfl (by rw [hml]; rfl) (argsL := [(.ref e203b), (.ref b172), (.ref b1), (.int (gat p3)), (.int (1 : Int32)), (.int (0 : Int32)), (.ref b28)]) (rest := []) (lenOf pd_2 rfl) rfl (by show 2 * 0 + _ ≤ _; exact Nat.le_of_eq rfl) (hb hby at_416) (fun _ _ => ⟨rfl, e218, (by decide : 4 + 0 ≤ _), (by decide : 17 + 0 ≤ _)⟩)
              dsimp only [Pt.U, Pt.locs, Pt.cells, Pt.slots] at X221 l221 y221 z221 st221 hQ221
              subst l221 y221 z221
              obtain ⟨rfl, rfl, e221⟩ := hQ221
              try rw [List.append_nil] at X221
              obtain ⟨_, _, ⟨T222, L222, k222, n222⟩, -, X222, ⟨Lc222, hQ222, l222, y222, z222⟩, st222⟩ := Jvm.LawKit.callS X221 hx (y := (⟨"com/example/benchwire/benchwire/protocols/DelimitedTextDeclaredDelimitersPinLaw", "cell", "([B[B[BIII[B)Z"⟩ : MethodName)) hown (mvT hZ (hw _ (List.mem_of_getElem? (i := 18) rfl))) (mvT hZ (hw _ (List.mem_of_getElem? (i := 19) rfl))) (mvT hZ (hw _ (List.mem_of_getElem? (i := 3) rfl))) (mvT hZ (hw _ (List.mem_of_getElem? (i := 20) rfl))) (by decide) (backOf (W := 0) (rm3 l Z a0 hw [] e203b b172 b1 (gat p3) (1 : Int32) (1 : Int32) b28 (fun j => if j < 1 then fh (a + j) else fq j) fq fh fq 3 a 1 T203.heap A203q G209 G205 G207 ha (by decide) ha7 (by decide) (by decide) (fun z => absurd z (by decide))) hZ (hw _ (List.mem_of_getElem? (i := 20) rfl)) (hw _ (List.mem_of_getElem? (i := 3) rfl)) (by decide) (by decide)) (g := (mkF m 435 #[.val (.int p0), .val (.int p1), .val (.int p2), .val (.int p3), .val (.ref b1), .val (.int (gend p0 p3)), .val (.int (gat p3)), .val (.int (3 : Int32)), .val (.ref b28), .val (.ref b172), .val (.ref e203b), .val (.int (1 : Int32))] [(.ref b28), (.int (1 : Int32)), (.int (1 : Int32)), (.int (gat p3)), (.ref b1), (.ref b172), (.ref e203b)])) rfl (by rw [hml]; rfl) (argsL := [(.ref e203b), (.ref b172), (.ref b1), (.int (gat p3)), (.int (1 : Int32)), (.int (1 : Int32)), (.ref b28)]) (rest := []) (lenOf pd_2 rfl) rfl (by show 2 * 0 + _ ≤ _; exact Nat.le_of_eq rfl) (hb hby at_435) (fun _ _ => ⟨rfl, e221, (by decide : 4 + 0 ≤ _), (by decide : 17 + 0 ≤ _)⟩)
              dsimp only [Pt.U, Pt.locs, Pt.cells, Pt.slots] at X222 l222 y222 z222 st222 hQ222
              subst l222 y222 z222
              obtain ⟨rfl, rfl, e222⟩ := hQ222
              try rw [List.append_nil] at X222
              obtain ⟨_, _, ⟨T223, L223, k223, n223⟩, -, X223, ⟨Lc223, hQ223, l223, y223, z223⟩, st223⟩ := Jvm.LawKit.callS X222 hx (y := (⟨"com/example/benchwire/benchwire/protocols/DelimitedTextDeclaredDelimitersPinLaw", "cell", "([B[B[BIII[B)Z"⟩ : MethodName)) hown (mvT hZ (hw _ (List.mem_of_getElem? (i := 18) rfl))) (mvT hZ (hw _ (List.mem_of_getElem? (i := 19) rfl))) (mvT hZ (hw _ (List.mem_of_getElem? (i := 3) rfl))) (mvT hZ (hw _ (List.mem_of_getElem? (i := 20) rfl))) (by decide) (backOf (W := 0) (rm3 l Z a0 hw [] e203b b172 b1 (gat p3) (1 : Int32) (2 : Int32) b28 (fun j => if j < 1 then fh (a + j) else fq j) fq fh fq 3 a 2 T203.heap A203q G209 G205 G207 ha (by decide) ha7 (by decide) (by decide) (fun z => absurd z (by decide))) hZ (hw _ (List.mem_of_getElem? (i := 20) rfl)) (hw _ (List.mem_of_getElem? (i := 3) rfl)) (by decide) (by decide)) (g := (mkF m 454 #[.val (.int p0), .val (.int p1), .val (.int p2), .val (.int p3), .val (.ref b1), .val (.int (gend p0 p3)), .val (.int (gat p3)), .val (.int (3 : Int32)), .val (.ref b28), .val (.ref b172), .val (.ref e203b), .val (.int (1 : Int32))] [(.ref b28), (.int (2 : Int32)), (.int (1 : Int32)), (.int (gat p3)), (.ref b1), (.ref b172), (.ref e203b)])) rfl (by rw [hml]; rfl) (argsL := [(.ref e203b), (.ref b172), (.ref b1), (.int (gat p3)), (.int (1 : Int32)), (.int (2 : Int32)), (.ref b28)]) (rest := []) (lenOf pd_2 rfl) rfl (by show 2 * 0 + _ ≤ _; exact Nat.le_of_eq rfl) (hb hby at_454) (fun _ _ => ⟨rfl, e222, (by decide : 4 + 0 ≤ _), (by decide : 17 + 0 ≤ _)⟩)
              dsimp only [Pt.U, Pt.locs, Pt.cells, Pt.slots] at X223 l223 y223 z223 st223 hQ223
              subst l223 y223 z223
              obtain ⟨rfl, rfl, e223⟩ := hQ223
              try rw [List.append_nil] at X223
              obtain ⟨_, _, ⟨T224, L224, k224, n224⟩, -, X224, ⟨Lc224, hQ224, l224, y224, z224⟩, st224⟩ := Jvm.LawKit.callS X223 hx (y := (⟨"com/example/benchwire/benchwire/protocols/DelimitedTextDeclaredDelimitersPinLaw", "cell", "([B[B[BIII[B)Z"⟩ : MethodName)) hown (mvT hZ (hw _ (List.mem_of_getElem? (i := 18) rfl))) (mvT hZ (hw _ (List.mem_of_getElem? (i := 19) rfl))) (mvT hZ (hw _ (List.mem_of_getElem? (i := 3) rfl))) (mvT hZ (hw _ (List.mem_of_getElem? (i := 20) rfl))) (by decide) (backOf (W := 0) (rm3 l Z a0 hw [] e203b b172 b1 (gat p3) (1 : Int32) (3 : Int32) b28 (fun j => if j < 1 then fh (a + j) else fq j) fq fh fq 3 a 3 T203.heap A203q G209 G205 G207 ha (by decide) ha7 (by decide) (by decide) (fun z => absurd z (by decide))) hZ (hw _ (List.mem_of_getElem? (i := 20) rfl)) (hw _ (List.mem_of_getElem? (i := 3) rfl)) (by decide) (by decide)) (g := (mkF m 473 #[.val (.int p0), .val (.int p1), .val (.int p2), .val (.int p3), .val (.ref b1), .val (.int (gend p0 p3)), .val (.int (gat p3)), .val (.int (3 : Int32)), .val (.ref b28), .val (.ref b172), .val (.ref e203b), .val (.int (1 : Int32))] [(.ref b28), (.int (3 : Int32)), (.int (1 : Int32)), (.int (gat p3)), (.ref b1), (.ref b172), (.ref e203b)])) rfl (by rw [hml]; rfl) (argsL := [(.ref e203b), (.ref b172), (.ref b1), (.int (gat p3)), (.int (1 : Int32)), (.int (3 : Int32)), (.ref b28)]) (rest := []) (lenOf pd_2 rfl) rfl (by show 2 * 0 + _ ≤ _; exact Nat.le_of_eq rfl) (hb hby at_473) (fun _ _ => ⟨rfl, e223, (by decide : 4 + 0 ≤ _), (by decide : 17 + 0 ≤ _)⟩)
              dsimp only [Pt.U, Pt.locs, Pt.cells, Pt.slots] at X224 l224 y224 z224 st224 hQ224
              subst l224 y224 z224
              obtain ⟨rfl, rfl, e224⟩ := hQ224
              try rw [List.append_nil] at X224
              have K225 : ∀ t, Steps p.tables e below (T224.setTop (mkF m 484 #[.val (.int p0), .val (.int p1), .val (.int p2), .val (.int p3), .val (.ref b1), .val (.int (gend p0 p3)), .val (.int (gat p3)), .val (.int (3 : Int32)), .val (.ref b28), .val (.ref b172), .val (.ref e203b), .val (.int (1 : Int32))] [(.int (1 : Int32))])) t → Steps p.tables e below (s₁.setTop (mkF m 0 #[.val (.int p0), .val (.int p1), .val (.int p2), .val (.int p3), .unset, .unset, .unset, .unset, .unset, .unset, .unset, .unset] [])) t := by
                intro t kt
                refine K219 _ ?_
                show Steps p.tables e below (T218.setTop (mkF m 351 #[.val (.int p0), .val (.int p1), .val (.int p2), .val (.int p3), .val (.ref b1), .val (.int (gend p0 p3)), .val (.int (gat p3)), .val (.int (3 : Int32)), .val (.ref b28), .val (.ref b172), .val (.ref e203b), .val (.int (1 : Int32))] [(.int (f4 (gat p3) (1 : Int32) (gend p0 p3) fh a 1))])) _
                refine XS.ifYes X218.here hx rfl (pc0 := 351) (pc' := 403) rfl (hb hby at_351) rfl ((if0 _ _).trans (teq hc220).1) (by decide) (by decide) ?_
                show Steps p.tables e below (T218.setTop (mkF m 403 #[.val (.int p0), .val (.int p1), .val (.int p2), .val (.int p3), .val (.ref b1), .val (.int (gend p0 p3)), .val (.int (gat p3)), .val (.int (3 : Int32)), .val (.ref b28), .val (.ref b172), .val (.ref e203b), .val (.int (1 : Int32))] [])) _
                refine XS.aload X218.here hx rfl (hb hby at_403) rfl rfl ?_
                show Steps p.tables e below (T218.setTop (mkF m 405 #[.val (.int p0), .val (.int p1), .val (.int p2), .val (.int p3), .val (.ref b1), .val (.int (gend p0 p3)), .val (.int (gat p3)), .val (.int (3 : Int32)), .val (.ref b28), .val (.ref b172), .val (.ref e203b), .val (.int (1 : Int32))] [(.ref e203b)])) _
                refine XS.aload X218.here hx rfl (hb hby at_405) rfl rfl ?_
                show Steps p.tables e below (T218.setTop (mkF m 407 #[.val (.int p0), .val (.int p1), .val (.int p2), .val (.int p3), .val (.ref b1), .val (.int (gend p0 p3)), .val (.int (gat p3)), .val (.int (3 : Int32)), .val (.ref b28), .val (.ref b172), .val (.ref e203b), .val (.int (1 : Int32))] [(.ref b172), (.ref e203b)])) _
                refine XS.aload X218.here hx rfl (hb hby at_407) rfl rfl ?_
                show Steps p.tables e below (T218.setTop (mkF m 409 #[.val (.int p0), .val (.int p1), .val (.int p2), .val (.int p3), .val (.ref b1), .val (.int (gend p0 p3)), .val (.int (gat p3)), .val (.int (3 : Int32)), .val (.ref b28), .val (.ref b172), .val (.ref e203b), .val (.int (1 : Int32))] [(.ref b1), (.ref b172), (.ref e203b)])) _
                refine XS.iload X218.here hx rfl (hb hby at_409) rfl ?_
                show Steps p.tables e below (T218.setTop (mkF m 411 #[.val (.int p0), .val (.int p1), .val (.int p2), .val (.int p3), .val (.ref b1), .val (.int (gend p0 p3)), .val (.int (gat p3)), .val (.int (3 : Int32)), .val (.ref b28), .val (.ref b172), .val (.ref e203b), .val (.int (1 : Int32))] [(.int (gat p3)), (.ref b1), (.ref b172), (.ref e203b)])) _
                refine XS.iload X218.here hx rfl (hb hby at_411) rfl ?_
                show Steps p.tables e below (T218.setTop (mkF m 413 #[.val (.int p0), .val (.int p1), .val (.int p2), .val (.int p3), .val (.ref b1), .val (.int (gend p0 p3)), .val (.int (gat p3)), .val (.int (3 : Int32)), .val (.ref b28), .val (.ref b172), .val (.ref e203b), .val (.int (1 : Int32))] [(.int (1 : Int32)), (.int (gat p3)), (.ref b1), (.ref b172), (.ref e203b)])) _
                refine XS.iconst X218.here hx rfl (hb hby at_413) ?_
                show Steps p.tables e below (T218.setTop (mkF m 414 #[.val (.int p0), .val (.int p1), .val (.int p2), .val (.int p3), .val (.ref b1), .val (.int (gend p0 p3)), .val (.int (gat p3)), .val (.int (3 : Int32)), .val (.ref b28), .val (.ref b172), .val (.ref e203b), .val (.int (1 : Int32))] [(.int (0 : Int32)), (.int (1 : Int32)), (.int (gat p3)), (.ref b1), (.ref b172), (.ref e203b)])) _
                refine XS.aload X218.here hx rfl (hb hby at_414) rfl rfl ?_
                show Steps p.tables e below (T218.setTop (mkF m 416 #[.val (.int p0), .val (.int p1), .val (.int p2), .val (.int p3), .val (.ref b1), .val (.int (gend p0 p3)), .val (.int (gat p3)), .val (.int (3 : Int32)), .val (.ref b28), .val (.ref b172), .val (.ref e203b), .val (.int (1 : Int32))] [(.ref b28), (.int (0 : Int32)), (.int (1 : Int32)), (.int (gat p3)), (.ref b1), (.ref b172), (.ref e203b)])) _
                refine st221 _ ?_
                show Steps p.tables e below (T221.setTop (mkF m 419 #[.val (.int p0), .val (.int p1), .val (.int p2), .val (.int p3), .val (.ref b1), .val (.int (gend p0 p3)), .val (.int (gat p3)), .val (.int (3 : Int32)), .val (.ref b28), .val (.ref b172), .val (.ref e203b), .val (.int (1 : Int32))] [(.int (f3 (gat p3) (1 : Int32) (0 : Int32) (fun j => if j < 1 then fh (a + j) else fq j) fq fh fq 3 a 0))])) _
                refine XS.ifNo X221.here hx rfl (hb hby at_419) rfl ((if0 _ _).trans (feq (show ¬ ((f3 (gat p3) (1 : Int32) (0 : Int32) (fun j => if j < 1 then fh (a + j) else fq j) fq fh fq 3 a 0) = (0 : Int32)) from (own_cell (K := 1) (i := 0) rfl rfl (by decide) (by decide) (fun j hj => rfl) (fun j hj => rfl)))).1) ?_
                show Steps p.tables e below (T221.setTop (mkF m 422 #[.val (.int p0), .val (.int p1), .val (.int p2), .val (.int p3), .val (.ref b1), .val (.int (gend p0 p3)), .val (.int (gat p3)), .val (.int (3 : Int32)), .val (.ref b28), .val (.ref b172), .val (.ref e203b), .val (.int (1 : Int32))] [])) _
                refine XS.aload X221.here hx rfl (hb hby at_422) rfl rfl ?_
                show Steps p.tables e below (T221.setTop (mkF m 424 #[.val (.int p0), .val (.int p1), .val (.int p2), .val (.int p3), .val (.ref b1), .val (.int (gend p0 p3)), .val (.int (gat p3)), .val (.int (3 : Int32)), .val (.ref b28), .val (.ref b172), .val (.ref e203b), .val (.int (1 : Int32))] [(.ref e203b)])) _
                refine XS.aload X221.here hx rfl (hb hby at_424) rfl rfl ?_
                show Steps p.tables e below (T221.setTop (mkF m 426 #[.val (.int p0), .val (.int p1), .val (.int p2), .val (.int p3), .val (.ref b1), .val (.int (gend p0 p3)), .val (.int (gat p3)), .val (.int (3 : Int32)), .val (.ref b28), .val (.ref b172), .val (.ref e203b), .val (.int (1 : Int32))] [(.ref b172), (.ref e203b)])) _
                refine XS.aload X221.here hx rfl (hb hby at_426) rfl rfl ?_
                show Steps p.tables e below (T221.setTop (mkF m 428 #[.val (.int p0), .val (.int p1), .val (.int p2), .val (.int p3), .val (.ref b1), .val (.int (gend p0 p3)), .val (.int (gat p3)), .val (.int (3 : Int32)), .val (.ref b28), .val (.ref b172), .val (.ref e203b), .val (.int (1 : Int32))] [(.ref b1), (.ref b172), (.ref e203b)])) _
                refine XS.iload X221.here hx rfl (hb hby at_428) rfl ?_
                show Steps p.tables e below (T221.setTop (mkF m 430 #[.val (.int p0), .val (.int p1), .val (.int p2), .val (.int p3), .val (.ref b1), .val (.int (gend p0 p3)), .val (.int (gat p3)), .val (.int (3 : Int32)), .val (.ref b28), .val (.ref b172), .val (.ref e203b), .val (.int (1 : Int32))] [(.int (gat p3)), (.ref b1), (.ref b172), (.ref e203b)])) _
                refine XS.iload X221.here hx rfl (hb hby at_430) rfl ?_
                show Steps p.tables e below (T221.setTop (mkF m 432 #[.val (.int p0), .val (.int p1), .val (.int p2), .val (.int p3), .val (.ref b1), .val (.int (gend p0 p3)), .val (.int (gat p3)), .val (.int (3 : Int32)), .val (.ref b28), .val (.ref b172), .val (.ref e203b), .val (.int (1 : Int32))] [(.int (1 : Int32)), (.int (gat p3)), (.ref b1), (.ref b172), (.ref e203b)])) _
                refine XS.iconst X221.here hx rfl (hb hby at_432) ?_
                show Steps p.tables e below (T221.setTop (mkF m 433 #[.val (.int p0), .val (.int p1), .val (.int p2), .val (.int p3), .val (.ref b1), .val (.int (gend p0 p3)), .val (.int (gat p3)), .val (.int (3 : Int32)), .val (.ref b28), .val (.ref b172), .val (.ref e203b), .val (.int (1 : Int32))] [(.int (1 : Int32)), (.int (1 : Int32)), (.int (gat p3)), (.ref b1), (.ref b172), (.ref e203b)])) _
                refine XS.aload X221.here hx rfl (hb hby at_433) rfl rfl ?_
                show Steps p.tables e below (T221.setTop (mkF m 435 #[.val (.int p0), .val (.int p1), .val (.int p2), .val (.int p3), .val (.ref b1), .val (.int (gend p0 p3)), .val (.int (gat p3)), .val (.int (3 : Int32)), .val (.ref b28), .val (.ref b172), .val (.ref e203b), .val (.int (1 : Int32))] [(.ref b28), (.int (1 : Int32)), (.int (1 : Int32)), (.int (gat p3)), (.ref b1), (.ref b172), (.ref e203b)])) _
                refine st222 _ ?_
                show Steps p.tables e below (T222.setTop (mkF m 438 #[.val (.int p0), .val (.int p1), .val (.int p2), .val (.int p3), .val (.ref b1), .val (.int (gend p0 p3)), .val (.int (gat p3)), .val (.int (3 : Int32)), .val (.ref b28), .val (.ref b172), .val (.ref e203b), .val (.int (1 : Int32))] [(.int (f3 (gat p3) (1 : Int32) (1 : Int32) (fun j => if j < 1 then fh (a + j) else fq j) fq fh fq 3 a 1))])) _
                refine XS.ifNo X222.here hx rfl (hb hby at_438) rfl ((if0 _ _).trans (feq (show ¬ ((f3 (gat p3) (1 : Int32) (1 : Int32) (fun j => if j < 1 then fh (a + j) else fq j) fq fh fq 3 a 1) = (0 : Int32)) from (own_cell (K := 1) (i := 1) rfl rfl (by decide) (by decide) (fun j hj => rfl) (fun j hj => rfl)))).1) ?_
                show Steps p.tables e below (T222.setTop (mkF m 441 #[.val (.int p0), .val (.int p1), .val (.int p2), .val (.int p3), .val (.ref b1), .val (.int (gend p0 p3)), .val (.int (gat p3)), .val (.int (3 : Int32)), .val (.ref b28), .val (.ref b172), .val (.ref e203b), .val (.int (1 : Int32))] [])) _
                refine XS.aload X222.here hx rfl (hb hby at_441) rfl rfl ?_
                show Steps p.tables e below (T222.setTop (mkF m 443 #[.val (.int p0), .val (.int p1), .val (.int p2), .val (.int p3), .val (.ref b1), .val (.int (gend p0 p3)), .val (.int (gat p3)), .val (.int (3 : Int32)), .val (.ref b28), .val (.ref b172), .val (.ref e203b), .val (.int (1 : Int32))] [(.ref e203b)])) _
                refine XS.aload X222.here hx rfl (hb hby at_443) rfl rfl ?_
                show Steps p.tables e below (T222.setTop (mkF m 445 #[.val (.int p0), .val (.int p1), .val (.int p2), .val (.int p3), .val (.ref b1), .val (.int (gend p0 p3)), .val (.int (gat p3)), .val (.int (3 : Int32)), .val (.ref b28), .val (.ref b172), .val (.ref e203b), .val (.int (1 : Int32))] [(.ref b172), (.ref e203b)])) _
                refine XS.aload X222.here hx rfl (hb hby at_445) rfl rfl ?_
                show Steps p.tables e below (T222.setTop (mkF m 447 #[.val (.int p0), .val (.int p1), .val (.int p2), .val (.int p3), .val (.ref b1), .val (.int (gend p0 p3)), .val (.int (gat p3)), .val (.int (3 : Int32)), .val (.ref b28), .val (.ref b172), .val (.ref e203b), .val (.int (1 : Int32))] [(.ref b1), (.ref b172), (.ref e203b)])) _
                refine XS.iload X222.here hx rfl (hb hby at_447) rfl ?_
                show Steps p.tables e below (T222.setTop (mkF m 449 #[.val (.int p0), .val (.int p1), .val (.int p2), .val (.int p3), .val (.ref b1), .val (.int (gend p0 p3)), .val (.int (gat p3)), .val (.int (3 : Int32)), .val (.ref b28), .val (.ref b172), .val (.ref e203b), .val (.int (1 : Int32))] [(.int (gat p3)), (.ref b1), (.ref b172), (.ref e203b)])) _
                refine XS.iload X222.here hx rfl (hb hby at_449) rfl ?_
                show Steps p.tables e below (T222.setTop (mkF m 451 #[.val (.int p0), .val (.int p1), .val (.int p2), .val (.int p3), .val (.ref b1), .val (.int (gend p0 p3)), .val (.int (gat p3)), .val (.int (3 : Int32)), .val (.ref b28), .val (.ref b172), .val (.ref e203b), .val (.int (1 : Int32))] [(.int (1 : Int32)), (.int (gat p3)), (.ref b1), (.ref b172), (.ref e203b)])) _
                refine XS.iconst X222.here hx rfl (hb hby at_451) ?_
                show Steps p.tables e below (T222.setTop (mkF m 452 #[.val (.int p0), .val (.int p1), .val (.int p2), .val (.int p3), .val (.ref b1), .val (.int (gend p0 p3)), .val (.int (gat p3)), .val (.int (3 : Int32)), .val (.ref b28), .val (.ref b172), .val (.ref e203b), .val (.int (1 : Int32))] [(.int (2 : Int32)), (.int (1 : Int32)), (.int (gat p3)), (.ref b1), (.ref b172), (.ref e203b)])) _
                refine XS.aload X222.here hx rfl (hb hby at_452) rfl rfl ?_
                show Steps p.tables e below (T222.setTop (mkF m 454 #[.val (.int p0), .val (.int p1), .val (.int p2), .val (.int p3), .val (.ref b1), .val (.int (gend p0 p3)), .val (.int (gat p3)), .val (.int (3 : Int32)), .val (.ref b28), .val (.ref b172), .val (.ref e203b), .val (.int (1 : Int32))] [(.ref b28), (.int (2 : Int32)), (.int (1 : Int32)), (.int (gat p3)), (.ref b1), (.ref b172), (.ref e203b)])) _
                refine st223 _ ?_
                show Steps p.tables e below (T223.setTop (mkF m 457 #[.val (.int p0), .val (.int p1), .val (.int p2), .val (.int p3), .val (.ref b1), .val (.int (gend p0 p3)), .val (.int (gat p3)), .val (.int (3 : Int32)), .val (.ref b28), .val (.ref b172), .val (.ref e203b), .val (.int (1 : Int32))] [(.int (f3 (gat p3) (1 : Int32) (2 : Int32) (fun j => if j < 1 then fh (a + j) else fq j) fq fh fq 3 a 2))])) _
                refine XS.ifNo X223.here hx rfl (hb hby at_457) rfl ((if0 _ _).trans (feq (show ¬ ((f3 (gat p3) (1 : Int32) (2 : Int32) (fun j => if j < 1 then fh (a + j) else fq j) fq fh fq 3 a 2) = (0 : Int32)) from (own_cell (K := 1) (i := 2) rfl rfl (by decide) (by decide) (fun j hj => rfl) (fun j hj => rfl)))).1) ?_
                show Steps p.tables e below (T223.setTop (mkF m 460 #[.val (.int p0), .val (.int p1), .val (.int p2), .val (.int p3), .val (.ref b1), .val (.int (gend p0 p3)), .val (.int (gat p3)), .val (.int (3 : Int32)), .val (.ref b28), .val (.ref b172), .val (.ref e203b), .val (.int (1 : Int32))] [])) _
                refine XS.aload X223.here hx rfl (hb hby at_460) rfl rfl ?_
                show Steps p.tables e below (T223.setTop (mkF m 462 #[.val (.int p0), .val (.int p1), .val (.int p2), .val (.int p3), .val (.ref b1), .val (.int (gend p0 p3)), .val (.int (gat p3)), .val (.int (3 : Int32)), .val (.ref b28), .val (.ref b172), .val (.ref e203b), .val (.int (1 : Int32))] [(.ref e203b)])) _
                refine XS.aload X223.here hx rfl (hb hby at_462) rfl rfl ?_
                show Steps p.tables e below (T223.setTop (mkF m 464 #[.val (.int p0), .val (.int p1), .val (.int p2), .val (.int p3), .val (.ref b1), .val (.int (gend p0 p3)), .val (.int (gat p3)), .val (.int (3 : Int32)), .val (.ref b28), .val (.ref b172), .val (.ref e203b), .val (.int (1 : Int32))] [(.ref b172), (.ref e203b)])) _
                refine XS.aload X223.here hx rfl (hb hby at_464) rfl rfl ?_
                show Steps p.tables e below (T223.setTop (mkF m 466 #[.val (.int p0), .val (.int p1), .val (.int p2), .val (.int p3), .val (.ref b1), .val (.int (gend p0 p3)), .val (.int (gat p3)), .val (.int (3 : Int32)), .val (.ref b28), .val (.ref b172), .val (.ref e203b), .val (.int (1 : Int32))] [(.ref b1), (.ref b172), (.ref e203b)])) _
                refine XS.iload X223.here hx rfl (hb hby at_466) rfl ?_
                show Steps p.tables e below (T223.setTop (mkF m 468 #[.val (.int p0), .val (.int p1), .val (.int p2), .val (.int p3), .val (.ref b1), .val (.int (gend p0 p3)), .val (.int (gat p3)), .val (.int (3 : Int32)), .val (.ref b28), .val (.ref b172), .val (.ref e203b), .val (.int (1 : Int32))] [(.int (gat p3)), (.ref b1), (.ref b172), (.ref e203b)])) _
                refine XS.iload X223.here hx rfl (hb hby at_468) rfl ?_
                show Steps p.tables e below (T223.setTop (mkF m 470 #[.val (.int p0), .val (.int p1), .val (.int p2), .val (.int p3), .val (.ref b1), .val (.int (gend p0 p3)), .val (.int (gat p3)), .val (.int (3 : Int32)), .val (.ref b28), .val (.ref b172), .val (.ref e203b), .val (.int (1 : Int32))] [(.int (1 : Int32)), (.int (gat p3)), (.ref b1), (.ref b172), (.ref e203b)])) _
                refine XS.iconst X223.here hx rfl (hb hby at_470) ?_
                show Steps p.tables e below (T223.setTop (mkF m 471 #[.val (.int p0), .val (.int p1), .val (.int p2), .val (.int p3), .val (.ref b1), .val (.int (gend p0 p3)), .val (.int (gat p3)), .val (.int (3 : Int32)), .val (.ref b28), .val (.ref b172), .val (.ref e203b), .val (.int (1 : Int32))] [(.int (3 : Int32)), (.int (1 : Int32)), (.int (gat p3)), (.ref b1), (.ref b172), (.ref e203b)])) _
                refine XS.aload X223.here hx rfl (hb hby at_471) rfl rfl ?_
                show Steps p.tables e below (T223.setTop (mkF m 473 #[.val (.int p0), .val (.int p1), .val (.int p2), .val (.int p3), .val (.ref b1), .val (.int (gend p0 p3)), .val (.int (gat p3)), .val (.int (3 : Int32)), .val (.ref b28), .val (.ref b172), .val (.ref e203b), .val (.int (1 : Int32))] [(.ref b28), (.int (3 : Int32)), (.int (1 : Int32)), (.int (gat p3)), (.ref b1), (.ref b172), (.ref e203b)])) _
                refine st224 _ ?_
                show Steps p.tables e below (T224.setTop (mkF m 476 #[.val (.int p0), .val (.int p1), .val (.int p2), .val (.int p3), .val (.ref b1), .val (.int (gend p0 p3)), .val (.int (gat p3)), .val (.int (3 : Int32)), .val (.ref b28), .val (.ref b172), .val (.ref e203b), .val (.int (1 : Int32))] [(.int (f3 (gat p3) (1 : Int32) (3 : Int32) (fun j => if j < 1 then fh (a + j) else fq j) fq fh fq 3 a 3))])) _
                refine XS.ifNo X224.here hx rfl (hb hby at_476) rfl ((if0 _ _).trans (feq (show ¬ ((f3 (gat p3) (1 : Int32) (3 : Int32) (fun j => if j < 1 then fh (a + j) else fq j) fq fh fq 3 a 3) = (0 : Int32)) from (own_cell (K := 1) (i := 3) rfl rfl (by decide) (by decide) (fun j hj => rfl) (fun j hj => rfl)))).1) ?_
                show Steps p.tables e below (T224.setTop (mkF m 479 #[.val (.int p0), .val (.int p1), .val (.int p2), .val (.int p3), .val (.ref b1), .val (.int (gend p0 p3)), .val (.int (gat p3)), .val (.int (3 : Int32)), .val (.ref b28), .val (.ref b172), .val (.ref e203b), .val (.int (1 : Int32))] [])) _
                refine XS.iconst X224.here hx rfl (hb hby at_479) ?_
                show Steps p.tables e below (T224.setTop (mkF m 480 #[.val (.int p0), .val (.int p1), .val (.int p2), .val (.int p3), .val (.ref b1), .val (.int (gend p0 p3)), .val (.int (gat p3)), .val (.int (3 : Int32)), .val (.ref b28), .val (.ref b172), .val (.ref e203b), .val (.int (1 : Int32))] [(.int (1 : Int32))])) _
                refine XS.goto X224.here hx rfl (pc0 := 480) (pc' := 484) rfl (hb hby at_480) (by decide) (by decide) ?_
                exact kt
              obtain ⟨fsQ, hr, hrun, hended, hW, hsame⟩ := X224.leave (v := some (.int (1 : Int32))) (fun h => by rw [Bd.returns] at h; cases h)
              refine ⟨_, _, pre0 _ (K225 _ ?_), hrun, hended, _, _, rfl, ?_, ⟨_, rfl⟩, hW, hsame.mono (by decide) (by decide)⟩
              · show Steps p.tables e below (T224.setTop (mkF m 484 #[.val (.int p0), .val (.int p1), .val (.int p2), .val (.int p3), .val (.ref b1), .val (.int (gend p0 p3)), .val (.int (gat p3)), .val (.int (3 : Int32)), .val (.ref b28), .val (.ref b172), .val (.ref e203b), .val (.int (1 : Int32))] [(.int (1 : Int32))])) _
                exact retN X224 hx (t := .boolean) Bd.returns (by simp) (hb hby at_484) hr
              · show Q0 Z p0 p1 p2 p3  h0 n0 _ T224.heap _
                rw [e224]
                exact ⟨rfl, N203⟩
            · skip
              obtain ⟨_, _, ⟨T226, L226, k226, n226⟩, -, X226, ⟨Lc226, hQ226, l226, y226, z226⟩, st226⟩ := Jvm.LawKit.callS X218 hx (y := (⟨"com/example/benchwire/benchwire/protocols/DelimitedTextDeclaredDelimitersPinLaw", "ok", "([BIIB)Z"⟩ : MethodName)) hown (mvT hZ (hw _ (List.mem_of_getElem? (i := 21) rfl))) (mvT hZ (hw _ (List.mem_of_getElem? (i := 22) rfl))) (mvT hZ (hw _ (List.mem_of_getElem? (i := 3) rfl))) (mvT hZ (hw _ (List.mem_of_getElem? (i := 23) rfl))) (by decide) (backOf (W := 0) (rm4 l Z a0 hw [] b1 (gat p3) (2 : Int32) (gend p0 p3) fh a 2 T203.heap G205 ha (by decide) ha7 (by decide)) hZ (hw _ (List.mem_of_getElem? (i := 23) rfl)) (hw _ (List.mem_of_getElem? (i := 3) rfl)) (by decide) (by decide)) (g := (mkF m 371 #[.val (.int p0), .val (.int p1), .val (.int p2), .val (.int p3), .val (.ref b1), .val (.int (gend p0 p3)), .val (.int (gat p3)), .val (.int (3 : Int32)), .val (.ref b28), .val (.ref b172), .val (.ref e203b), .val (.int (2 : Int32))] [(.int (gend p0 p3)), (.int (2 : Int32)), (.int (gat p3)), (.ref b1)])) rfl (by rw [hml]; rfl) (argsL := [(.ref b1), (.int (gat p3)), (.int (2 : Int32)), (.int (gend p0 p3))]) (rest := []) (lenOf pd_3 rfl) rfl (by show 2 * 0 + _ ≤ _; exact Nat.le_of_eq rfl) (hb hby at_371) (fun _ _ => ⟨rfl, e218, (by decide : 4 + 0 ≤ _), (by decide : 17 + 0 ≤ _)⟩)
              dsimp only [Pt.U, Pt.locs, Pt.cells, Pt.slots] at X226 l226 y226 z226 st226 hQ226
              subst l226 y226 z226
              obtain ⟨rfl, rfl, e226⟩ := hQ226
              try rw [List.append_nil] at X226
              have K227 : ∀ t, Steps p.tables e below (T226.setTop (mkF m 374 #[.val (.int p0), .val (.int p1), .val (.int p2), .val (.int p3), .val (.ref b1), .val (.int (gend p0 p3)), .val (.int (gat p3)), .val (.int (3 : Int32)), .val (.ref b28), .val (.ref b172), .val (.ref e203b), .val (.int (2 : Int32))] [(.int (f4 (gat p3) (2 : Int32) (gend p0 p3) fh a 2))])) t → Steps p.tables e below (s₁.setTop (mkF m 0 #[.val (.int p0), .val (.int p1), .val (.int p2), .val (.int p3), .unset, .unset, .unset, .unset, .unset, .unset, .unset, .unset] [])) t := by
                intro t kt
                refine K219 _ ?_
                show Steps p.tables e below (T218.setTop (mkF m 351 #[.val (.int p0), .val (.int p1), .val (.int p2), .val (.int p3), .val (.ref b1), .val (.int (gend p0 p3)), .val (.int (gat p3)), .val (.int (3 : Int32)), .val (.ref b28), .val (.ref b172), .val (.ref e203b), .val (.int (1 : Int32))] [(.int (f4 (gat p3) (1 : Int32) (gend p0 p3) fh a 1))])) _
                refine XS.ifNo X218.here hx rfl (hb hby at_351) rfl ((if0 _ _).trans (feq hc220).1) ?_
                show Steps p.tables e below (T218.setTop (mkF m 354 #[.val (.int p0), .val (.int p1), .val (.int p2), .val (.int p3), .val (.ref b1), .val (.int (gend p0 p3)), .val (.int (gat p3)), .val (.int (3 : Int32)), .val (.ref b28), .val (.ref b172), .val (.ref e203b), .val (.int (1 : Int32))] [])) _
                refine XS.iconst X218.here hx rfl (hb hby at_354) ?_
                show Steps p.tables e below (T218.setTop (mkF m 355 #[.val (.int p0), .val (.int p1), .val (.int p2), .val (.int p3), .val (.ref b1), .val (.int (gend p0 p3)), .val (.int (gat p3)), .val (.int (3 : Int32)), .val (.ref b28), .val (.ref b172), .val (.ref e203b), .val (.int (1 : Int32))] [(.int (2 : Int32))])) _
                refine XS.istore X218.here hx rfl (hb hby at_355) rfl (l' := #[.val (.int p0), .val (.int p1), .val (.int p2), .val (.int p3), .val (.ref b1), .val (.int (gend p0 p3)), .val (.int (gat p3)), .val (.int (3 : Int32)), .val (.ref b28), .val (.ref b172), .val (.ref e203b), .val (.int (2 : Int32))]) rfl ?_
                show Steps p.tables e below (T218.setTop (mkF m 357 #[.val (.int p0), .val (.int p1), .val (.int p2), .val (.int p3), .val (.ref b1), .val (.int (gend p0 p3)), .val (.int (gat p3)), .val (.int (3 : Int32)), .val (.ref b28), .val (.ref b172), .val (.ref e203b), .val (.int (2 : Int32))] [])) _
                refine XS.iload X218.here hx rfl (hb hby at_357) rfl ?_
                show Steps p.tables e below (T218.setTop (mkF m 359 #[.val (.int p0), .val (.int p1), .val (.int p2), .val (.int p3), .val (.ref b1), .val (.int (gend p0 p3)), .val (.int (gat p3)), .val (.int (3 : Int32)), .val (.ref b28), .val (.ref b172), .val (.ref e203b), .val (.int (2 : Int32))] [(.int (2 : Int32))])) _
                refine XS.iload X218.here hx rfl (hb hby at_359) rfl ?_
                show Steps p.tables e below (T218.setTop (mkF m 361 #[.val (.int p0), .val (.int p1), .val (.int p2), .val (.int p3), .val (.ref b1), .val (.int (gend p0 p3)), .val (.int (gat p3)), .val (.int (3 : Int32)), .val (.ref b28), .val (.ref b172), .val (.ref e203b), .val (.int (2 : Int32))] [(.int (3 : Int32)), (.int (2 : Int32))])) _
                refine XS.icmpNo X218.here hx rfl (hb hby at_361) rfl (tlt (by decide : (2 : Int32) < (3 : Int32))).2.1 ?_
                show Steps p.tables e below (T218.setTop (mkF m 364 #[.val (.int p0), .val (.int p1), .val (.int p2), .val (.int p3), .val (.ref b1), .val (.int (gend p0 p3)), .val (.int (gat p3)), .val (.int (3 : Int32)), .val (.ref b28), .val (.ref b172), .val (.ref e203b), .val (.int (2 : Int32))] [])) _
                refine XS.aload X218.here hx rfl (hb hby at_364) rfl rfl ?_
                show Steps p.tables e below (T218.setTop (mkF m 366 #[.val (.int p0), .val (.int p1), .val (.int p2), .val (.int p3), .val (.ref b1), .val (.int (gend p0 p3)), .val (.int (gat p3)), .val (.int (3 : Int32)), .val (.ref b28), .val (.ref b172), .val (.ref e203b), .val (.int (2 : Int32))] [(.ref b1)])) _
                refine XS.iload X218.here hx rfl (hb hby at_366) rfl ?_
                show Steps p.tables e below (T218.setTop (mkF m 368 #[.val (.int p0), .val (.int p1), .val (.int p2), .val (.int p3), .val (.ref b1), .val (.int (gend p0 p3)), .val (.int (gat p3)), .val (.int (3 : Int32)), .val (.ref b28), .val (.ref b172), .val (.ref e203b), .val (.int (2 : Int32))] [(.int (gat p3)), (.ref b1)])) _
                refine XS.iconst X218.here hx rfl (hb hby at_368) ?_
                show Steps p.tables e below (T218.setTop (mkF m 369 #[.val (.int p0), .val (.int p1), .val (.int p2), .val (.int p3), .val (.ref b1), .val (.int (gend p0 p3)), .val (.int (gat p3)), .val (.int (3 : Int32)), .val (.ref b28), .val (.ref b172), .val (.ref e203b), .val (.int (2 : Int32))] [(.int (2 : Int32)), (.int (gat p3)), (.ref b1)])) _
                refine XS.iload X218.here hx rfl (hb hby at_369) rfl ?_
                show Steps p.tables e below (T218.setTop (mkF m 371 #[.val (.int p0), .val (.int p1), .val (.int p2), .val (.int p3), .val (.ref b1), .val (.int (gend p0 p3)), .val (.int (gat p3)), .val (.int (3 : Int32)), .val (.ref b28), .val (.ref b172), .val (.ref e203b), .val (.int (2 : Int32))] [(.int (gend p0 p3)), (.int (2 : Int32)), (.int (gat p3)), (.ref b1)])) _
                refine st226 _ ?_
                exact kt
              by_cases hc228 : (f4 (gat p3) (2 : Int32) (gend p0 p3) fh a 2) = (0 : Int32)
              · skip
                have hok : ∀ j, j < 2 → okP fh a (gend p0 p3) j := by
                  intro j hj
                  rcases (by omega : j = 0 ∨ j = 1) with rfl | rfl
                  · exact (Classical.byContradiction fun y => hc212 ((own_ok ha (i := 0) (by decide) ha7 (by decide)).mpr y))
                  · exact (Classical.byContradiction fun y => hc220 ((own_ok ha (i := 1) (by decide) ha7 (by decide)).mpr y))
                obtain rfl : kk = 2 := own_dd DDq (by decide) hok (Or.inr ((own_ok ha (i := 2) (by decide) ha7 (by decide)).mp hc228))
                obtain ⟨_, _, ⟨T229, L229, k229, n229⟩, -, X229, ⟨Lc229, hQ229, l229, y229, z229⟩, st229⟩ := Jvm.LawKit.callS X226 hx (y := (⟨"com/example/benchwire/benchwire/protocols/DelimitedTextDeclaredDelimitersPinLaw", "cell", "([B[B[BIII[B)Z"⟩ : MethodName)) hown (mvT hZ (hw _ (List.mem_of_getElem? (i := 18) rfl))) (mvT hZ (hw _ (List.mem_of_getElem? (i := 19) rfl))) (mvT hZ (hw _ (List.mem_of_getElem? (i := 3) rfl))) (mvT hZ (hw _ (List.mem_of_getElem? (i := 20) rfl))) (by decide) (backOf (W := 0) (rm3 l Z a0 hw [] e203b b172 b1 (gat p3) (2 : Int32) (0 : Int32) b28 (fun j => if j < 2 then fh (a + j) else fq j) fq fh fq 3 a 0 T203.heap A203q G209 G205 G207 ha (by decide) ha7 (by decide) (by decide) (fun _ => (hok 0 (by decide)).1)) hZ (hw _ (List.mem_of_getElem? (i := 20) rfl)) (hw _ (List.mem_of_getElem? (i := 3) rfl)) (by decide) (by decide)) (g := (mkF m 416 #[.val (.int p0), .val (.int p1), .val (.int p2), .val (.int p3), .val (.ref b1), .val (.int (gend p0 p3)), .val (.int (gat p3)), .val (.int (3 : Int32)), .val (.ref b28), .val (.ref b172), .val (.ref e203b), .val (.int (2 : Int32))] [(.ref b28), (.int (0 : Int32)), (.int (2 : Int32)), (.int (gat p3)), (.ref b1), (.ref b172), (.ref e203b)])) rfl (by rw [hml]; rfl) (argsL := [(.ref e203b), (.ref b172), (.ref b1), (.int (gat p3)), (.int (2 : Int32)), (.int (0 : Int32)), (.ref b28)]) (rest := []) (lenOf pd_2 rfl) rfl (by show 2 * 0 + _ ≤ _; exact Nat.le_of_eq rfl) (hb hby at_416) (fun _ _ => ⟨rfl, e226, (by decide : 4 + 0 ≤ _), (by decide : 17 + 0 ≤ _)⟩)
                dsimp only [Pt.U, Pt.locs, Pt.cells, Pt.slots] at X229 l229 y229 z229 st229 hQ229
                subst l229 y229 z229
                obtain ⟨rfl, rfl, e229⟩ := hQ229
                try rw [List.append_nil] at X229
                obtain ⟨_, _, ⟨T230, L230, k230, n230⟩, -, X230, ⟨Lc230, hQ230, l230, y230, z230⟩, st230⟩ := Jvm.LawKit.callS X229 hx (y := (⟨"com/example/benchwire/benchwire/protocols/DelimitedTextDeclaredDelimitersPinLaw", "cell", "([B[B[BIII[B)Z"⟩ : MethodName)) hown (mvT hZ (hw _ (List.mem_of_getElem? (i := 18) rfl))) (mvT hZ (hw _ (List.mem_of_getElem? (i := 19) rfl))) (mvT hZ (hw _ (List.mem_of_getElem? (i := 3) rfl))) (mvT hZ (hw _ (List.mem_of_getElem? (i := 20) rfl))) (by decide) (backOf (W := 0) (rm3 l Z a0 hw [] e203b b172 b1 (gat p3) (2 : Int32) (1 : Int32) b28 (fun j => if j < 2 then fh (a + j) else fq j) fq fh fq 3 a 1 T203.heap A203q G209 G205 G207 ha (by decide) ha7 (by decide) (by decide) (fun _ => (hok 1 (by decide)).1)) hZ (hw _ (List.mem_of_getElem? (i := 20) rfl)) (hw _ (List.mem_of_getElem? (i := 3) rfl)) (by decide) (by decide)) (g := (mkF m 435 #[.val (.int p0), .val (.int p1), .val (.int p2), .val (.int p3), .val (.ref b1), .val (.int (gend p0 p3)), .val (.int (gat p3)), .val (.int (3 : Int32)), .val (.ref b28), .val (.ref b172), .val (.ref e203b), .val (.int (2 : Int32))] [(.ref b28), (.int (1 : Int32)), (.int (2 : Int32)), (.int (gat p3)), (.ref b1), (.ref b172), (.ref e203b)])) rfl (by rw [hml]; rfl) (argsL := [(.ref e203b), (.ref b172), (.ref b1), (.int (gat p3)), (.int (2 : Int32)), (.int (1 : Int32)), (.ref b28)]) (rest := []) (lenOf pd_2 rfl) rfl (by show 2 * 0 + _ ≤ _; exact Nat.le_of_eq rfl) (hb hby at_435) (fun _ _ => ⟨rfl, e229, (by decide : 4 + 0 ≤ _), (by decide : 17 + 0 ≤ _)⟩)
                dsimp only [Pt.U, Pt.locs, Pt.cells, Pt.slots] at X230 l230 y230 z230 st230 hQ230
                subst l230 y230 z230
                obtain ⟨rfl, rfl, e230⟩ := hQ230
                try rw [List.append_nil] at X230
                obtain ⟨_, _, ⟨T231, L231, k231, n231⟩, -, X231, ⟨Lc231, hQ231, l231, y231, z231⟩, st231⟩ := Jvm.LawKit.callS X230 hx (y := (⟨"com/example/benchwire/benchwire/protocols/DelimitedTextDeclaredDelimitersPinLaw", "cell", "([B[B[BIII[B)Z"⟩ : MethodName)) hown (mvT hZ (hw _ (List.mem_of_getElem? (i := 18) rfl))) (mvT hZ (hw _ (List.mem_of_getElem? (i := 19) rfl))) (mvT hZ (hw _ (List.mem_of_getElem? (i := 3) rfl))) (mvT hZ (hw _ (List.mem_of_getElem? (i := 20) rfl))) (by decide) (backOf (W := 0) (rm3 l Z a0 hw [] e203b b172 b1 (gat p3) (2 : Int32) (2 : Int32) b28 (fun j => if j < 2 then fh (a + j) else fq j) fq fh fq 3 a 2 T203.heap A203q G209 G205 G207 ha (by decide) ha7 (by decide) (by decide) (fun z => absurd z (by decide))) hZ (hw _ (List.mem_of_getElem? (i := 20) rfl)) (hw _ (List.mem_of_getElem? (i := 3) rfl)) (by decide) (by decide)) (g := (mkF m 454 #[.val (.int p0), .val (.int p1), .val (.int p2), .val (.int p3), .val (.ref b1), .val (.int (gend p0 p3)), .val (.int (gat p3)), .val (.int (3 : Int32)), .val (.ref b28), .val (.ref b172), .val (.ref e203b), .val (.int (2 : Int32))] [(.ref b28), (.int (2 : Int32)), (.int (2 : Int32)), (.int (gat p3)), (.ref b1), (.ref b172), (.ref e203b)])) rfl (by rw [hml]; rfl) (argsL := [(.ref e203b), (.ref b172), (.ref b1), (.int (gat p3)), (.int (2 : Int32)), (.int (2 : Int32)), (.ref b28)]) (rest := []) (lenOf pd_2 rfl) rfl (by show 2 * 0 + _ ≤ _; exact Nat.le_of_eq rfl) (hb hby at_454) (fun _ _ => ⟨rfl, e230, (by decide : 4 + 0 ≤ _), (by decide : 17 + 0 ≤ _)⟩)
                dsimp only [Pt.U, Pt.locs, Pt.cells, Pt.slots] at X231 l231 y231 z231 st231 hQ231
                subst l231 y231 z231
                obtain ⟨rfl, rfl, e231⟩ := hQ231
                try rw [List.append_nil] at X231
                obtain ⟨_, _, ⟨T232, L232, k232, n232⟩, -, X232, ⟨Lc232, hQ232, l232, y232, z232⟩, st232⟩ := Jvm.LawKit.callS X231 hx (y := (⟨"com/example/benchwire/benchwire/protocols/DelimitedTextDeclaredDelimitersPinLaw", "cell", "([B[B[BIII[B)Z"⟩ : MethodName)) hown (mvT hZ (hw _ (List.mem_of_getElem? (i := 18) rfl))) (mvT hZ (hw _ (List.mem_of_getElem? (i := 19) rfl))) (mvT hZ (hw _ (List.mem_of_getElem? (i := 3) rfl))) (mvT hZ (hw _ (List.mem_of_getElem? (i := 20) rfl))) (by decide) (backOf (W := 0) (rm3 l Z a0 hw [] e203b b172 b1 (gat p3) (2 : Int32) (3 : Int32) b28 (fun j => if j < 2 then fh (a + j) else fq j) fq fh fq 3 a 3 T203.heap A203q G209 G205 G207 ha (by decide) ha7 (by decide) (by decide) (fun z => absurd z (by decide))) hZ (hw _ (List.mem_of_getElem? (i := 20) rfl)) (hw _ (List.mem_of_getElem? (i := 3) rfl)) (by decide) (by decide)) (g := (mkF m 473 #[.val (.int p0), .val (.int p1), .val (.int p2), .val (.int p3), .val (.ref b1), .val (.int (gend p0 p3)), .val (.int (gat p3)), .val (.int (3 : Int32)), .val (.ref b28), .val (.ref b172), .val (.ref e203b), .val (.int (2 : Int32))] [(.ref b28), (.int (3 : Int32)), (.int (2 : Int32)), (.int (gat p3)), (.ref b1), (.ref b172), (.ref e203b)])) rfl (by rw [hml]; rfl) (argsL := [(.ref e203b), (.ref b172), (.ref b1), (.int (gat p3)), (.int (2 : Int32)), (.int (3 : Int32)), (.ref b28)]) (rest := []) (lenOf pd_2 rfl) rfl (by show 2 * 0 + _ ≤ _; exact Nat.le_of_eq rfl) (hb hby at_473) (fun _ _ => ⟨rfl, e231, (by decide : 4 + 0 ≤ _), (by decide : 17 + 0 ≤ _)⟩)
                dsimp only [Pt.U, Pt.locs, Pt.cells, Pt.slots] at X232 l232 y232 z232 st232 hQ232
                subst l232 y232 z232
                obtain ⟨rfl, rfl, e232⟩ := hQ232
                try rw [List.append_nil] at X232
                have K233 : ∀ t, Steps p.tables e below (T232.setTop (mkF m 484 #[.val (.int p0), .val (.int p1), .val (.int p2), .val (.int p3), .val (.ref b1), .val (.int (gend p0 p3)), .val (.int (gat p3)), .val (.int (3 : Int32)), .val (.ref b28), .val (.ref b172), .val (.ref e203b), .val (.int (2 : Int32))] [(.int (1 : Int32))])) t → Steps p.tables e below (s₁.setTop (mkF m 0 #[.val (.int p0), .val (.int p1), .val (.int p2), .val (.int p3), .unset, .unset, .unset, .unset, .unset, .unset, .unset, .unset] [])) t := by
                  intro t kt
                  refine K227 _ ?_
                  show Steps p.tables e below (T226.setTop (mkF m 374 #[.val (.int p0), .val (.int p1), .val (.int p2), .val (.int p3), .val (.ref b1), .val (.int (gend p0 p3)), .val (.int (gat p3)), .val (.int (3 : Int32)), .val (.ref b28), .val (.ref b172), .val (.ref e203b), .val (.int (2 : Int32))] [(.int (f4 (gat p3) (2 : Int32) (gend p0 p3) fh a 2))])) _
                  refine XS.ifYes X226.here hx rfl (pc0 := 374) (pc' := 403) rfl (hb hby at_374) rfl ((if0 _ _).trans (teq hc228).1) (by decide) (by decide) ?_
                  show Steps p.tables e below (T226.setTop (mkF m 403 #[.val (.int p0), .val (.int p1), .val (.int p2), .val (.int p3), .val (.ref b1), .val (.int (gend p0 p3)), .val (.int (gat p3)), .val (.int (3 : Int32)), .val (.ref b28), .val (.ref b172), .val (.ref e203b), .val (.int (2 : Int32))] [])) _
                  refine XS.aload X226.here hx rfl (hb hby at_403) rfl rfl ?_
                  show Steps p.tables e below (T226.setTop (mkF m 405 #[.val (.int p0), .val (.int p1), .val (.int p2), .val (.int p3), .val (.ref b1), .val (.int (gend p0 p3)), .val (.int (gat p3)), .val (.int (3 : Int32)), .val (.ref b28), .val (.ref b172), .val (.ref e203b), .val (.int (2 : Int32))] [(.ref e203b)])) _
                  refine XS.aload X226.here hx rfl (hb hby at_405) rfl rfl ?_
                  show Steps p.tables e below (T226.setTop (mkF m 407 #[.val (.int p0), .val (.int p1), .val (.int p2), .val (.int p3), .val (.ref b1), .val (.int (gend p0 p3)), .val (.int (gat p3)), .val (.int (3 : Int32)), .val (.ref b28), .val (.ref b172), .val (.ref e203b), .val (.int (2 : Int32))] [(.ref b172), (.ref e203b)])) _
                  refine XS.aload X226.here hx rfl (hb hby at_407) rfl rfl ?_
                  show Steps p.tables e below (T226.setTop (mkF m 409 #[.val (.int p0), .val (.int p1), .val (.int p2), .val (.int p3), .val (.ref b1), .val (.int (gend p0 p3)), .val (.int (gat p3)), .val (.int (3 : Int32)), .val (.ref b28), .val (.ref b172), .val (.ref e203b), .val (.int (2 : Int32))] [(.ref b1), (.ref b172), (.ref e203b)])) _
                  refine XS.iload X226.here hx rfl (hb hby at_409) rfl ?_
                  show Steps p.tables e below (T226.setTop (mkF m 411 #[.val (.int p0), .val (.int p1), .val (.int p2), .val (.int p3), .val (.ref b1), .val (.int (gend p0 p3)), .val (.int (gat p3)), .val (.int (3 : Int32)), .val (.ref b28), .val (.ref b172), .val (.ref e203b), .val (.int (2 : Int32))] [(.int (gat p3)), (.ref b1), (.ref b172), (.ref e203b)])) _
                  refine XS.iload X226.here hx rfl (hb hby at_411) rfl ?_
                  show Steps p.tables e below (T226.setTop (mkF m 413 #[.val (.int p0), .val (.int p1), .val (.int p2), .val (.int p3), .val (.ref b1), .val (.int (gend p0 p3)), .val (.int (gat p3)), .val (.int (3 : Int32)), .val (.ref b28), .val (.ref b172), .val (.ref e203b), .val (.int (2 : Int32))] [(.int (2 : Int32)), (.int (gat p3)), (.ref b1), (.ref b172), (.ref e203b)])) _
                  refine XS.iconst X226.here hx rfl (hb hby at_413) ?_
                  show Steps p.tables e below (T226.setTop (mkF m 414 #[.val (.int p0), .val (.int p1), .val (.int p2), .val (.int p3), .val (.ref b1), .val (.int (gend p0 p3)), .val (.int (gat p3)), .val (.int (3 : Int32)), .val (.ref b28), .val (.ref b172), .val (.ref e203b), .val (.int (2 : Int32))] [(.int (0 : Int32)), (.int (2 : Int32)), (.int (gat p3)), (.ref b1), (.ref b172), (.ref e203b)])) _
                  refine XS.aload X226.here hx rfl (hb hby at_414) rfl rfl ?_
                  show Steps p.tables e below (T226.setTop (mkF m 416 #[.val (.int p0), .val (.int p1), .val (.int p2), .val (.int p3), .val (.ref b1), .val (.int (gend p0 p3)), .val (.int (gat p3)), .val (.int (3 : Int32)), .val (.ref b28), .val (.ref b172), .val (.ref e203b), .val (.int (2 : Int32))] [(.ref b28), (.int (0 : Int32)), (.int (2 : Int32)), (.int (gat p3)), (.ref b1), (.ref b172), (.ref e203b)])) _
                  refine st229 _ ?_
                  show Steps p.tables e below (T229.setTop (mkF m 419 #[.val (.int p0), .val (.int p1), .val (.int p2), .val (.int p3), .val (.ref b1), .val (.int (gend p0 p3)), .val (.int (gat p3)), .val (.int (3 : Int32)), .val (.ref b28), .val (.ref b172), .val (.ref e203b), .val (.int (2 : Int32))] [(.int (f3 (gat p3) (2 : Int32) (0 : Int32) (fun j => if j < 2 then fh (a + j) else fq j) fq fh fq 3 a 0))])) _
                  refine XS.ifNo X229.here hx rfl (hb hby at_419) rfl ((if0 _ _).trans (feq (show ¬ ((f3 (gat p3) (2 : Int32) (0 : Int32) (fun j => if j < 2 then fh (a + j) else fq j) fq fh fq 3 a 0) = (0 : Int32)) from (own_cell (K := 2) (i := 0) rfl rfl (by decide) (by decide) (fun j hj => rfl) (fun j hj => rfl)))).1) ?_
                  show Steps p.tables e below (T229.setTop (mkF m 422 #[.val (.int p0), .val (.int p1), .val (.int p2), .val (.int p3), .val (.ref b1), .val (.int (gend p0 p3)), .val (.int (gat p3)), .val (.int (3 : Int32)), .val (.ref b28), .val (.ref b172), .val (.ref e203b), .val (.int (2 : Int32))] [])) _
                  refine XS.aload X229.here hx rfl (hb hby at_422) rfl rfl ?_
                  show Steps p.tables e below (T229.setTop (mkF m 424 #[.val (.int p0), .val (.int p1), .val (.int p2), .val (.int p3), .val (.ref b1), .val (.int (gend p0 p3)), .val (.int (gat p3)), .val (.int (3 : Int32)), .val (.ref b28), .val (.ref b172), .val (.ref e203b), .val (.int (2 : Int32))] [(.ref e203b)])) _
                  refine XS.aload X229.here hx rfl (hb hby at_424) rfl rfl ?_
                  show Steps p.tables e below (T229.setTop (mkF m 426 #[.val (.int p0), .val (.int p1), .val (.int p2), .val (.int p3), .val (.ref b1), .val (.int (gend p0 p3)), .val (.int (gat p3)), .val (.int (3 : Int32)), .val (.ref b28), .val (.ref b172), .val (.ref e203b), .val (.int (2 : Int32))] [(.ref b172), (.ref e203b)])) _
                  refine XS.aload X229.here hx rfl (hb hby at_426) rfl rfl ?_
                  show Steps p.tables e below (T229.setTop (mkF m 428 #[.val (.int p0), .val (.int p1), .val (.int p2), .val (.int p3), .val (.ref b1), .val (.int (gend p0 p3)), .val (.int (gat p3)), .val (.int (3 : Int32)), .val (.ref b28), .val (.ref b172), .val (.ref e203b), .val (.int (2 : Int32))] [(.ref b1), (.ref b172), (.ref e203b)])) _
                  refine XS.iload X229.here hx rfl (hb hby at_428) rfl ?_
                  show Steps p.tables e below (T229.setTop (mkF m 430 #[.val (.int p0), .val (.int p1), .val (.int p2), .val (.int p3), .val (.ref b1), .val (.int (gend p0 p3)), .val (.int (gat p3)), .val (.int (3 : Int32)), .val (.ref b28), .val (.ref b172), .val (.ref e203b), .val (.int (2 : Int32))] [(.int (gat p3)), (.ref b1), (.ref b172), (.ref e203b)])) _
                  refine XS.iload X229.here hx rfl (hb hby at_430) rfl ?_
                  show Steps p.tables e below (T229.setTop (mkF m 432 #[.val (.int p0), .val (.int p1), .val (.int p2), .val (.int p3), .val (.ref b1), .val (.int (gend p0 p3)), .val (.int (gat p3)), .val (.int (3 : Int32)), .val (.ref b28), .val (.ref b172), .val (.ref e203b), .val (.int (2 : Int32))] [(.int (2 : Int32)), (.int (gat p3)), (.ref b1), (.ref b172), (.ref e203b)])) _
                  refine XS.iconst X229.here hx rfl (hb hby at_432) ?_
                  show Steps p.tables e below (T229.setTop (mkF m 433 #[.val (.int p0), .val (.int p1), .val (.int p2), .val (.int p3), .val (.ref b1), .val (.int (gend p0 p3)), .val (.int (gat p3)), .val (.int (3 : Int32)), .val (.ref b28), .val (.ref b172), .val (.ref e203b), .val (.int (2 : Int32))] [(.int (1 : Int32)), (.int (2 : Int32)), (.int (gat p3)), (.ref b1), (.ref b172), (.ref e203b)])) _
                  refine XS.aload X229.here hx rfl (hb hby at_433) rfl rfl ?_
                  show Steps p.tables e below (T229.setTop (mkF m 435 #[.val (.int p0), .val (.int p1), .val (.int p2), .val (.int p3), .val (.ref b1), .val (.int (gend p0 p3)), .val (.int (gat p3)), .val (.int (3 : Int32)), .val (.ref b28), .val (.ref b172), .val (.ref e203b), .val (.int (2 : Int32))] [(.ref b28), (.int (1 : Int32)), (.int (2 : Int32)), (.int (gat p3)), (.ref b1), (.ref b172), (.ref e203b)])) _
                  refine st230 _ ?_
                  show Steps p.tables e below (T230.setTop (mkF m 438 #[.val (.int p0), .val (.int p1), .val (.int p2), .val (.int p3), .val (.ref b1), .val (.int (gend p0 p3)), .val (.int (gat p3)), .val (.int (3 : Int32)), .val (.ref b28), .val (.ref b172), .val (.ref e203b), .val (.int (2 : Int32))] [(.int (f3 (gat p3) (2 : Int32) (1 : Int32) (fun j => if j < 2 then fh (a + j) else fq j) fq fh fq 3 a 1))])) _
                  refine XS.ifNo X230.here hx rfl (hb hby at_438) rfl ((if0 _ _).trans (feq (show ¬ ((f3 (gat p3) (2 : Int32) (1 : Int32) (fun j => if j < 2 then fh (a + j) else fq j) fq fh fq 3 a 1) = (0 : Int32)) from (own_cell (K := 2) (i := 1) rfl rfl (by decide) (by decide) (fun j hj => rfl) (fun j hj => rfl)))).1) ?_
                  show Steps p.tables e below (T230.setTop (mkF m 441 #[.val (.int p0), .val (.int p1), .val (.int p2), .val (.int p3), .val (.ref b1), .val (.int (gend p0 p3)), .val (.int (gat p3)), .val (.int (3 : Int32)), .val (.ref b28), .val (.ref b172), .val (.ref e203b), .val (.int (2 : Int32))] [])) _
                  refine XS.aload X230.here hx rfl (hb hby at_441) rfl rfl ?_
                  show Steps p.tables e below (T230.setTop (mkF m 443 #[.val (.int p0), .val (.int p1), .val (.int p2), .val (.int p3), .val (.ref b1), .val (.int (gend p0 p3)), .val (.int (gat p3)), .val (.int (3 : Int32)), .val (.ref b28), .val (.ref b172), .val (.ref e203b), .val (.int (2 : Int32))] [(.ref e203b)])) _
                  refine XS.aload X230.here hx rfl (hb hby at_443) rfl rfl ?_
                  show Steps p.tables e below (T230.setTop (mkF m 445 #[.val (.int p0), .val (.int p1), .val (.int p2), .val (.int p3), .val (.ref b1), .val (.int (gend p0 p3)), .val (.int (gat p3)), .val (.int (3 : Int32)), .val (.ref b28), .val (.ref b172), .val (.ref e203b), .val (.int (2 : Int32))] [(.ref b172), (.ref e203b)])) _
                  refine XS.aload X230.here hx rfl (hb hby at_445) rfl rfl ?_
                  show Steps p.tables e below (T230.setTop (mkF m 447 #[.val (.int p0), .val (.int p1), .val (.int p2), .val (.int p3), .val (.ref b1), .val (.int (gend p0 p3)), .val (.int (gat p3)), .val (.int (3 : Int32)), .val (.ref b28), .val (.ref b172), .val (.ref e203b), .val (.int (2 : Int32))] [(.ref b1), (.ref b172), (.ref e203b)])) _
                  refine XS.iload X230.here hx rfl (hb hby at_447) rfl ?_
                  show Steps p.tables e below (T230.setTop (mkF m 449 #[.val (.int p0), .val (.int p1), .val (.int p2), .val (.int p3), .val (.ref b1), .val (.int (gend p0 p3)), .val (.int (gat p3)), .val (.int (3 : Int32)), .val (.ref b28), .val (.ref b172), .val (.ref e203b), .val (.int (2 : Int32))] [(.int (gat p3)), (.ref b1), (.ref b172), (.ref e203b)])) _
                  refine XS.iload X230.here hx rfl (hb hby at_449) rfl ?_
                  show Steps p.tables e below (T230.setTop (mkF m 451 #[.val (.int p0), .val (.int p1), .val (.int p2), .val (.int p3), .val (.ref b1), .val (.int (gend p0 p3)), .val (.int (gat p3)), .val (.int (3 : Int32)), .val (.ref b28), .val (.ref b172), .val (.ref e203b), .val (.int (2 : Int32))] [(.int (2 : Int32)), (.int (gat p3)), (.ref b1), (.ref b172), (.ref e203b)])) _
                  refine XS.iconst X230.here hx rfl (hb hby at_451) ?_
                  show Steps p.tables e below (T230.setTop (mkF m 452 #[.val (.int p0), .val (.int p1), .val (.int p2), .val (.int p3), .val (.ref b1), .val (.int (gend p0 p3)), .val (.int (gat p3)), .val (.int (3 : Int32)), .val (.ref b28), .val (.ref b172), .val (.ref e203b), .val (.int (2 : Int32))] [(.int (2 : Int32)), (.int (2 : Int32)), (.int (gat p3)), (.ref b1), (.ref b172), (.ref e203b)])) _
                  refine XS.aload X230.here hx rfl (hb hby at_452) rfl rfl ?_
                  show Steps p.tables e below (T230.setTop (mkF m 454 #[.val (.int p0), .val (.int p1), .val (.int p2), .val (.int p3), .val (.ref b1), .val (.int (gend p0 p3)), .val (.int (gat p3)), .val (.int (3 : Int32)), .val (.ref b28), .val (.ref b172), .val (.ref e203b), .val (.int (2 : Int32))] [(.ref b28), (.int (2 : Int32)), (.int (2 : Int32)), (.int (gat p3)), (.ref b1), (.ref b172), (.ref e203b)])) _
                  refine st231 _ ?_
                  show Steps p.tables e below (T231.setTop (mkF m 457 #[.val (.int p0), .val (.int p1), .val (.int p2), .val (.int p3), .val (.ref b1), .val (.int (gend p0 p3)), .val (.int (gat p3)), .val (.int (3 : Int32)), .val (.ref b28), .val (.ref b172), .val (.ref e203b), .val (.int (2 : Int32))] [(.int (f3 (gat p3) (2 : Int32) (2 : Int32) (fun j => if j < 2 then fh (a + j) else fq j) fq fh fq 3 a 2))])) _
                  refine XS.ifNo X231.here hx rfl (hb hby at_457) rfl ((if0 _ _).trans (feq (show ¬ ((f3 (gat p3) (2 : Int32) (2 : Int32) (fun j => if j < 2 then fh (a + j) else fq j) fq fh fq 3 a 2) = (0 : Int32)) from (own_cell (K := 2) (i := 2) rfl rfl (by decide) (by decide) (fun j hj => rfl) (fun j hj => rfl)))).1) ?_
                  show Steps p.tables e below (T231.setTop (mkF m 460 #[.val (.int p0), .val (.int p1), .val (.int p2), .val (.int p3), .val (.ref b1), .val (.int (gend p0 p3)), .val (.int (gat p3)), .val (.int (3 : Int32)), .val (.ref b28), .val (.ref b172), .val (.ref e203b), .val (.int (2 : Int32))] [])) _
                  refine XS.aload X231.here hx rfl (hb hby at_460) rfl rfl ?_
                  show Steps p.tables e below (T231.setTop (mkF m 462 #[.val (.int p0), .val (.int p1), .val (.int p2), .val (.int p3), .val (.ref b1), .val (.int (gend p0 p3)), .val (.int (gat p3)), .val (.int (3 : Int32)), .val (.ref b28), .val (.ref b172), .val (.ref e203b), .val (.int (2 : Int32))] [(.ref e203b)])) _
                  refine XS.aload X231.here hx rfl (hb hby at_462) rfl rfl ?_
                  show Steps p.tables e below (T231.setTop (mkF m 464 #[.val (.int p0), .val (.int p1), .val (.int p2), .val (.int p3), .val (.ref b1), .val (.int (gend p0 p3)), .val (.int (gat p3)), .val (.int (3 : Int32)), .val (.ref b28), .val (.ref b172), .val (.ref e203b), .val (.int (2 : Int32))] [(.ref b172), (.ref e203b)])) _
                  refine XS.aload X231.here hx rfl (hb hby at_464) rfl rfl ?_
                  show Steps p.tables e below (T231.setTop (mkF m 466 #[.val (.int p0), .val (.int p1), .val (.int p2), .val (.int p3), .val (.ref b1), .val (.int (gend p0 p3)), .val (.int (gat p3)), .val (.int (3 : Int32)), .val (.ref b28), .val (.ref b172), .val (.ref e203b), .val (.int (2 : Int32))] [(.ref b1), (.ref b172), (.ref e203b)])) _
                  refine XS.iload X231.here hx rfl (hb hby at_466) rfl ?_
                  show Steps p.tables e below (T231.setTop (mkF m 468 #[.val (.int p0), .val (.int p1), .val (.int p2), .val (.int p3), .val (.ref b1), .val (.int (gend p0 p3)), .val (.int (gat p3)), .val (.int (3 : Int32)), .val (.ref b28), .val (.ref b172), .val (.ref e203b), .val (.int (2 : Int32))] [(.int (gat p3)), (.ref b1), (.ref b172), (.ref e203b)])) _
                  refine XS.iload X231.here hx rfl (hb hby at_468) rfl ?_
                  show Steps p.tables e below (T231.setTop (mkF m 470 #[.val (.int p0), .val (.int p1), .val (.int p2), .val (.int p3), .val (.ref b1), .val (.int (gend p0 p3)), .val (.int (gat p3)), .val (.int (3 : Int32)), .val (.ref b28), .val (.ref b172), .val (.ref e203b), .val (.int (2 : Int32))] [(.int (2 : Int32)), (.int (gat p3)), (.ref b1), (.ref b172), (.ref e203b)])) _
                  refine XS.iconst X231.here hx rfl (hb hby at_470) ?_
                  show Steps p.tables e below (T231.setTop (mkF m 471 #[.val (.int p0), .val (.int p1), .val (.int p2), .val (.int p3), .val (.ref b1), .val (.int (gend p0 p3)), .val (.int (gat p3)), .val (.int (3 : Int32)), .val (.ref b28), .val (.ref b172), .val (.ref e203b), .val (.int (2 : Int32))] [(.int (3 : Int32)), (.int (2 : Int32)), (.int (gat p3)), (.ref b1), (.ref b172), (.ref e203b)])) _
                  refine XS.aload X231.here hx rfl (hb hby at_471) rfl rfl ?_
                  show Steps p.tables e below (T231.setTop (mkF m 473 #[.val (.int p0), .val (.int p1), .val (.int p2), .val (.int p3), .val (.ref b1), .val (.int (gend p0 p3)), .val (.int (gat p3)), .val (.int (3 : Int32)), .val (.ref b28), .val (.ref b172), .val (.ref e203b), .val (.int (2 : Int32))] [(.ref b28), (.int (3 : Int32)), (.int (2 : Int32)), (.int (gat p3)), (.ref b1), (.ref b172), (.ref e203b)])) _
                  refine st232 _ ?_
                  show Steps p.tables e below (T232.setTop (mkF m 476 #[.val (.int p0), .val (.int p1), .val (.int p2), .val (.int p3), .val (.ref b1), .val (.int (gend p0 p3)), .val (.int (gat p3)), .val (.int (3 : Int32)), .val (.ref b28), .val (.ref b172), .val (.ref e203b), .val (.int (2 : Int32))] [(.int (f3 (gat p3) (2 : Int32) (3 : Int32) (fun j => if j < 2 then fh (a + j) else fq j) fq fh fq 3 a 3))])) _
                  refine XS.ifNo X232.here hx rfl (hb hby at_476) rfl ((if0 _ _).trans (feq (show ¬ ((f3 (gat p3) (2 : Int32) (3 : Int32) (fun j => if j < 2 then fh (a + j) else fq j) fq fh fq 3 a 3) = (0 : Int32)) from (own_cell (K := 2) (i := 3) rfl rfl (by decide) (by decide) (fun j hj => rfl) (fun j hj => rfl)))).1) ?_
                  show Steps p.tables e below (T232.setTop (mkF m 479 #[.val (.int p0), .val (.int p1), .val (.int p2), .val (.int p3), .val (.ref b1), .val (.int (gend p0 p3)), .val (.int (gat p3)), .val (.int (3 : Int32)), .val (.ref b28), .val (.ref b172), .val (.ref e203b), .val (.int (2 : Int32))] [])) _
                  refine XS.iconst X232.here hx rfl (hb hby at_479) ?_
                  show Steps p.tables e below (T232.setTop (mkF m 480 #[.val (.int p0), .val (.int p1), .val (.int p2), .val (.int p3), .val (.ref b1), .val (.int (gend p0 p3)), .val (.int (gat p3)), .val (.int (3 : Int32)), .val (.ref b28), .val (.ref b172), .val (.ref e203b), .val (.int (2 : Int32))] [(.int (1 : Int32))])) _
                  refine XS.goto X232.here hx rfl (pc0 := 480) (pc' := 484) rfl (hb hby at_480) (by decide) (by decide) ?_
                  exact kt
                obtain ⟨fsQ, hr, hrun, hended, hW, hsame⟩ := X232.leave (v := some (.int (1 : Int32))) (fun h => by rw [Bd.returns] at h; cases h)
                refine ⟨_, _, pre0 _ (K233 _ ?_), hrun, hended, _, _, rfl, ?_, ⟨_, rfl⟩, hW, hsame.mono (by decide) (by decide)⟩
                · show Steps p.tables e below (T232.setTop (mkF m 484 #[.val (.int p0), .val (.int p1), .val (.int p2), .val (.int p3), .val (.ref b1), .val (.int (gend p0 p3)), .val (.int (gat p3)), .val (.int (3 : Int32)), .val (.ref b28), .val (.ref b172), .val (.ref e203b), .val (.int (2 : Int32))] [(.int (1 : Int32))])) _
                  exact retN X232 hx (t := .boolean) Bd.returns (by simp) (hb hby at_484) hr
                · show Q0 Z p0 p1 p2 p3  h0 n0 _ T232.heap _
                  rw [e232]
                  exact ⟨rfl, N203⟩
              · skip
                have hok : ∀ j, j < 3 → okP fh a (gend p0 p3) j := by
                  intro j hj
                  rcases (by omega : j = 0 ∨ j = 1 ∨ j = 2) with rfl | rfl | rfl
                  · exact (Classical.byContradiction fun y => hc212 ((own_ok ha (i := 0) (by decide) ha7 (by decide)).mpr y))
                  · exact (Classical.byContradiction fun y => hc220 ((own_ok ha (i := 1) (by decide) ha7 (by decide)).mpr y))
                  · exact (Classical.byContradiction fun y => hc228 ((own_ok ha (i := 2) (by decide) ha7 (by decide)).mpr y))
                obtain rfl : kk = 3 := own_dd DDq (by decide) hok (Or.inl rfl)
                obtain ⟨_, _, ⟨T234, L234, k234, n234⟩, -, X234, ⟨Lc234, hQ234, l234, y234, z234⟩, st234⟩ := Jvm.LawKit.callS X226 hx (y := (⟨"com/example/benchwire/benchwire/protocols/DelimitedTextDeclaredDelimitersPinLaw", "cell", "([B[B[BIII[B)Z"⟩ : MethodName)) hown (mvT hZ (hw _ (List.mem_of_getElem? (i := 18) rfl))) (mvT hZ (hw _ (List.mem_of_getElem? (i := 19) rfl))) (mvT hZ (hw _ (List.mem_of_getElem? (i := 3) rfl))) (mvT hZ (hw _ (List.mem_of_getElem? (i := 20) rfl))) (by decide) (backOf (W := 0) (rm3 l Z a0 hw [] e203b b172 b1 (gat p3) (3 : Int32) (0 : Int32) b28 (fun j => if j < 3 then fh (a + j) else fq j) fq fh fq 3 a 0 T203.heap A203q G209 G205 G207 ha (by decide) ha7 (by decide) (by decide) (fun _ => (hok 0 (by decide)).1)) hZ (hw _ (List.mem_of_getElem? (i := 20) rfl)) (hw _ (List.mem_of_getElem? (i := 3) rfl)) (by decide) (by decide)) (g := (mkF m 416 #[.val (.int p0), .val (.int p1), .val (.int p2), .val (.int p3), .val (.ref b1), .val (.int (gend p0 p3)), .val (.int (gat p3)), .val (.int (3 : Int32)), .val (.ref b28), .val (.ref b172), .val (.ref e203b), .val (.int (3 : Int32))] [(.ref b28), (.int (0 : Int32)), (.int (3 : Int32)), (.int (gat p3)), (.ref b1), (.ref b172), (.ref e203b)])) rfl (by rw [hml]; rfl) (argsL := [(.ref e203b), (.ref b172), (.ref b1), (.int (gat p3)), (.int (3 : Int32)), (.int (0 : Int32)), (.ref b28)]) (rest := []) (lenOf pd_2 rfl) rfl (by show 2 * 0 + _ ≤ _; exact Nat.le_of_eq rfl) (hb hby at_416) (fun _ _ => ⟨rfl, e226, (by decide : 4 + 0 ≤ _), (by decide : 17 + 0 ≤ _)⟩)
                dsimp only [Pt.U, Pt.locs, Pt.cells, Pt.slots] at X234 l234 y234 z234 st234 hQ234
                subst l234 y234 z234
                obtain ⟨rfl, rfl, e234⟩ := hQ234
                try rw [List.append_nil] at X234
                obtain ⟨_, _, ⟨T235, L235, k235, n235⟩, -, X235, ⟨Lc235, hQ235, l235, y235, z235⟩, st235⟩ := Jvm.LawKit.callS X234 hx (y := (⟨"com/example/benchwire/benchwire/protocols/DelimitedTextDeclaredDelimitersPinLaw", "cell", "([B[B[BIII[B)Z"⟩ : MethodName)) hown (mvT hZ (hw _ (List.mem_of_getElem? (i := 18) rfl))) (mvT hZ (hw _ (List.mem_of_getElem? (i := 19) rfl))) (mvT hZ (hw _ (List.mem_of_getElem? (i := 3) rfl))) (mvT hZ (hw _ (List.mem_of_getElem? (i := 20) rfl))) (by decide) (backOf (W := 0) (rm3 l Z a0 hw [] e203b b172 b1 (gat p3) (3 : Int32) (1 : Int32) b28 (fun j => if j < 3 then fh (a + j) else fq j) fq fh fq 3 a 1 T203.heap A203q G209 G205 G207 ha (by decide) ha7 (by decide) (by decide) (fun _ => (hok 1 (by decide)).1)) hZ (hw _ (List.mem_of_getElem? (i := 20) rfl)) (hw _ (List.mem_of_getElem? (i := 3) rfl)) (by decide) (by decide)) (g := (mkF m 435 #[.val (.int p0), .val (.int p1), .val (.int p2), .val (.int p3), .val (.ref b1), .val (.int (gend p0 p3)), .val (.int (gat p3)), .val (.int (3 : Int32)), .val (.ref b28), .val (.ref b172), .val (.ref e203b), .val (.int (3 : Int32))] [(.ref b28), (.int (1 : Int32)), (.int (3 : Int32)), (.int (gat p3)), (.ref b1), (.ref b172), (.ref e203b)])) rfl (by rw [hml]; rfl) (argsL := [(.ref e203b), (.ref b172), (.ref b1), (.int (gat p3)), (.int (3 : Int32)), (.int (1 : Int32)), (.ref b28)]) (rest := []) (lenOf pd_2 rfl) rfl (by show 2 * 0 + _ ≤ _; exact Nat.le_of_eq rfl) (hb hby at_435) (fun _ _ => ⟨rfl, e234, (by decide : 4 + 0 ≤ _), (by decide : 17 + 0 ≤ _)⟩)
                dsimp only [Pt.U, Pt.locs, Pt.cells, Pt.slots] at X235 l235 y235 z235 st235 hQ235
                subst l235 y235 z235
                obtain ⟨rfl, rfl, e235⟩ := hQ235
                try rw [List.append_nil] at X235
                obtain ⟨_, _, ⟨T236, L236, k236, n236⟩, -, X236, ⟨Lc236, hQ236, l236, y236, z236⟩, st236⟩ := Jvm.LawKit.callS X235 hx (y := (⟨"com/example/benchwire/benchwire/protocols/DelimitedTextDeclaredDelimitersPinLaw", "cell", "([B[B[BIII[B)Z"⟩ : MethodName)) hown (mvT hZ (hw _ (List.mem_of_getElem? (i := 18) rfl))) (mvT hZ (hw _ (List.mem_of_getElem? (i := 19) rfl))) (mvT hZ (hw _ (List.mem_of_getElem? (i := 3) rfl))) (mvT hZ (hw _ (List.mem_of_getElem? (i := 20) rfl))) (by decide) (backOf (W := 0) (rm3 l Z a0 hw [] e203b b172 b1 (gat p3) (3 : Int32) (2 : Int32) b28 (fun j => if j < 3 then fh (a + j) else fq j) fq fh fq 3 a 2 T203.heap A203q G209 G205 G207 ha (by decide) ha7 (by decide) (by decide) (fun _ => (hok 2 (by decide)).1)) hZ (hw _ (List.mem_of_getElem? (i := 20) rfl)) (hw _ (List.mem_of_getElem? (i := 3) rfl)) (by decide) (by decide)) (g := (mkF m 454 #[.val (.int p0), .val (.int p1), .val (.int p2), .val (.int p3), .val (.ref b1), .val (.int (gend p0 p3)), .val (.int (gat p3)), .val (.int (3 : Int32)), .val (.ref b28), .val (.ref b172), .val (.ref e203b), .val (.int (3 : Int32))] [(.ref b28), (.int (2 : Int32)), (.int (3 : Int32)), (.int (gat p3)), (.ref b1), (.ref b172), (.ref e203b)])) rfl (by rw [hml]; rfl) (argsL := [(.ref e203b), (.ref b172), (.ref b1), (.int (gat p3)), (.int (3 : Int32)), (.int (2 : Int32)), (.ref b28)]) (rest := []) (lenOf pd_2 rfl) rfl (by show 2 * 0 + _ ≤ _; exact Nat.le_of_eq rfl) (hb hby at_454) (fun _ _ => ⟨rfl, e235, (by decide : 4 + 0 ≤ _), (by decide : 17 + 0 ≤ _)⟩)
                dsimp only [Pt.U, Pt.locs, Pt.cells, Pt.slots] at X236 l236 y236 z236 st236 hQ236
                subst l236 y236 z236
                obtain ⟨rfl, rfl, e236⟩ := hQ236
                try rw [List.append_nil] at X236
                obtain ⟨_, _, ⟨T237, L237, k237, n237⟩, -, X237, ⟨Lc237, hQ237, l237, y237, z237⟩, st237⟩ := Jvm.LawKit.callS X236 hx (y := (⟨"com/example/benchwire/benchwire/protocols/DelimitedTextDeclaredDelimitersPinLaw", "cell", "([B[B[BIII[B)Z"⟩ : MethodName)) hown (mvT hZ (hw _ (List.mem_of_getElem? (i := 18) rfl))) (mvT hZ (hw _ (List.mem_of_getElem? (i := 19) rfl))) (mvT hZ (hw _ (List.mem_of_getElem? (i := 3) rfl))) (mvT hZ (hw _ (List.mem_of_getElem? (i := 20) rfl))) (by decide) (backOf (W := 0) (rm3 l Z a0 hw [] e203b b172 b1 (gat p3) (3 : Int32) (3 : Int32) b28 (fun j => if j < 3 then fh (a + j) else fq j) fq fh fq 3 a 3 T203.heap A203q G209 G205 G207 ha (by decide) ha7 (by decide) (by decide) (fun z => absurd z (by decide))) hZ (hw _ (List.mem_of_getElem? (i := 20) rfl)) (hw _ (List.mem_of_getElem? (i := 3) rfl)) (by decide) (by decide)) (g := (mkF m 473 #[.val (.int p0), .val (.int p1), .val (.int p2), .val (.int p3), .val (.ref b1), .val (.int (gend p0 p3)), .val (.int (gat p3)), .val (.int (3 : Int32)), .val (.ref b28), .val (.ref b172), .val (.ref e203b), .val (.int (3 : Int32))] [(.ref b28), (.int (3 : Int32)), (.int (3 : Int32)), (.int (gat p3)), (.ref b1), (.ref b172), (.ref e203b)])) rfl (by rw [hml]; rfl) (argsL := [(.ref e203b), (.ref b172), (.ref b1), (.int (gat p3)), (.int (3 : Int32)), (.int (3 : Int32)), (.ref b28)]) (rest := []) (lenOf pd_2 rfl) rfl (by show 2 * 0 + _ ≤ _; exact Nat.le_of_eq rfl) (hb hby at_473) (fun _ _ => ⟨rfl, e236, (by decide : 4 + 0 ≤ _), (by decide : 17 + 0 ≤ _)⟩)
                dsimp only [Pt.U, Pt.locs, Pt.cells, Pt.slots] at X237 l237 y237 z237 st237 hQ237
                subst l237 y237 z237
                obtain ⟨rfl, rfl, e237⟩ := hQ237
                try rw [List.append_nil] at X237
                have K238 : ∀ t, Steps p.tables e below (T237.setTop (mkF m 484 #[.val (.int p0), .val (.int p1), .val (.int p2), .val (.int p3), .val (.ref b1), .val (.int (gend p0 p3)), .val (.int (gat p3)), .val (.int (3 : Int32)), .val (.ref b28), .val (.ref b172), .val (.ref e203b), .val (.int (3 : Int32))] [(.int (1 : Int32))])) t → Steps p.tables e below (s₁.setTop (mkF m 0 #[.val (.int p0), .val (.int p1), .val (.int p2), .val (.int p3), .unset, .unset, .unset, .unset, .unset, .unset, .unset, .unset] [])) t := by
                  intro t kt
                  refine K227 _ ?_
                  show Steps p.tables e below (T226.setTop (mkF m 374 #[.val (.int p0), .val (.int p1), .val (.int p2), .val (.int p3), .val (.ref b1), .val (.int (gend p0 p3)), .val (.int (gat p3)), .val (.int (3 : Int32)), .val (.ref b28), .val (.ref b172), .val (.ref e203b), .val (.int (2 : Int32))] [(.int (f4 (gat p3) (2 : Int32) (gend p0 p3) fh a 2))])) _
                  refine XS.ifNo X226.here hx rfl (hb hby at_374) rfl ((if0 _ _).trans (feq hc228).1) ?_
                  show Steps p.tables e below (T226.setTop (mkF m 377 #[.val (.int p0), .val (.int p1), .val (.int p2), .val (.int p3), .val (.ref b1), .val (.int (gend p0 p3)), .val (.int (gat p3)), .val (.int (3 : Int32)), .val (.ref b28), .val (.ref b172), .val (.ref e203b), .val (.int (2 : Int32))] [])) _
                  refine XS.iconst X226.here hx rfl (hb hby at_377) ?_
                  show Steps p.tables e below (T226.setTop (mkF m 378 #[.val (.int p0), .val (.int p1), .val (.int p2), .val (.int p3), .val (.ref b1), .val (.int (gend p0 p3)), .val (.int (gat p3)), .val (.int (3 : Int32)), .val (.ref b28), .val (.ref b172), .val (.ref e203b), .val (.int (2 : Int32))] [(.int (3 : Int32))])) _
                  refine XS.istore X226.here hx rfl (hb hby at_378) rfl (l' := #[.val (.int p0), .val (.int p1), .val (.int p2), .val (.int p3), .val (.ref b1), .val (.int (gend p0 p3)), .val (.int (gat p3)), .val (.int (3 : Int32)), .val (.ref b28), .val (.ref b172), .val (.ref e203b), .val (.int (3 : Int32))]) rfl ?_
                  show Steps p.tables e below (T226.setTop (mkF m 380 #[.val (.int p0), .val (.int p1), .val (.int p2), .val (.int p3), .val (.ref b1), .val (.int (gend p0 p3)), .val (.int (gat p3)), .val (.int (3 : Int32)), .val (.ref b28), .val (.ref b172), .val (.ref e203b), .val (.int (3 : Int32))] [])) _
                  refine XS.iload X226.here hx rfl (hb hby at_380) rfl ?_
                  show Steps p.tables e below (T226.setTop (mkF m 382 #[.val (.int p0), .val (.int p1), .val (.int p2), .val (.int p3), .val (.ref b1), .val (.int (gend p0 p3)), .val (.int (gat p3)), .val (.int (3 : Int32)), .val (.ref b28), .val (.ref b172), .val (.ref e203b), .val (.int (3 : Int32))] [(.int (3 : Int32))])) _
                  refine XS.iload X226.here hx rfl (hb hby at_382) rfl ?_
                  show Steps p.tables e below (T226.setTop (mkF m 384 #[.val (.int p0), .val (.int p1), .val (.int p2), .val (.int p3), .val (.ref b1), .val (.int (gend p0 p3)), .val (.int (gat p3)), .val (.int (3 : Int32)), .val (.ref b28), .val (.ref b172), .val (.ref e203b), .val (.int (3 : Int32))] [(.int (3 : Int32)), (.int (3 : Int32))])) _
                  refine XS.icmpYes X226.here hx rfl (pc0 := 384) (pc' := 403) rfl (hb hby at_384) rfl (flt (by decide : ¬ ((3 : Int32) < (3 : Int32)))).2.1 (by decide) (by decide) ?_
                  show Steps p.tables e below (T226.setTop (mkF m 403 #[.val (.int p0), .val (.int p1), .val (.int p2), .val (.int p3), .val (.ref b1), .val (.int (gend p0 p3)), .val (.int (gat p3)), .val (.int (3 : Int32)), .val (.ref b28), .val (.ref b172), .val (.ref e203b), .val (.int (3 : Int32))] [])) _
                  refine XS.aload X226.here hx rfl (hb hby at_403) rfl rfl ?_
                  show Steps p.tables e below (T226.setTop (mkF m 405 #[.val (.int p0), .val (.int p1), .val (.int p2), .val (.int p3), .val (.ref b1), .val (.int (gend p0 p3)), .val (.int (gat p3)), .val (.int (3 : Int32)), .val (.ref b28), .val (.ref b172), .val (.ref e203b), .val (.int (3 : Int32))] [(.ref e203b)])) _
                  refine XS.aload X226.here hx rfl (hb hby at_405) rfl rfl ?_
                  show Steps p.tables e below (T226.setTop (mkF m 407 #[.val (.int p0), .val (.int p1), .val (.int p2), .val (.int p3), .val (.ref b1), .val (.int (gend p0 p3)), .val (.int (gat p3)), .val (.int (3 : Int32)), .val (.ref b28), .val (.ref b172), .val (.ref e203b), .val (.int (3 : Int32))] [(.ref b172), (.ref e203b)])) _
                  refine XS.aload X226.here hx rfl (hb hby at_407) rfl rfl ?_
                  show Steps p.tables e below (T226.setTop (mkF m 409 #[.val (.int p0), .val (.int p1), .val (.int p2), .val (.int p3), .val (.ref b1), .val (.int (gend p0 p3)), .val (.int (gat p3)), .val (.int (3 : Int32)), .val (.ref b28), .val (.ref b172), .val (.ref e203b), .val (.int (3 : Int32))] [(.ref b1), (.ref b172), (.ref e203b)])) _
                  refine XS.iload X226.here hx rfl (hb hby at_409) rfl ?_
                  show Steps p.tables e below (T226.setTop (mkF m 411 #[.val (.int p0), .val (.int p1), .val (.int p2), .val (.int p3), .val (.ref b1), .val (.int (gend p0 p3)), .val (.int (gat p3)), .val (.int (3 : Int32)), .val (.ref b28), .val (.ref b172), .val (.ref e203b), .val (.int (3 : Int32))] [(.int (gat p3)), (.ref b1), (.ref b172), (.ref e203b)])) _
                  refine XS.iload X226.here hx rfl (hb hby at_411) rfl ?_
                  show Steps p.tables e below (T226.setTop (mkF m 413 #[.val (.int p0), .val (.int p1), .val (.int p2), .val (.int p3), .val (.ref b1), .val (.int (gend p0 p3)), .val (.int (gat p3)), .val (.int (3 : Int32)), .val (.ref b28), .val (.ref b172), .val (.ref e203b), .val (.int (3 : Int32))] [(.int (3 : Int32)), (.int (gat p3)), (.ref b1), (.ref b172), (.ref e203b)])) _
                  refine XS.iconst X226.here hx rfl (hb hby at_413) ?_
                  show Steps p.tables e below (T226.setTop (mkF m 414 #[.val (.int p0), .val (.int p1), .val (.int p2), .val (.int p3), .val (.ref b1), .val (.int (gend p0 p3)), .val (.int (gat p3)), .val (.int (3 : Int32)), .val (.ref b28), .val (.ref b172), .val (.ref e203b), .val (.int (3 : Int32))] [(.int (0 : Int32)), (.int (3 : Int32)), (.int (gat p3)), (.ref b1), (.ref b172), (.ref e203b)])) _
                  refine XS.aload X226.here hx rfl (hb hby at_414) rfl rfl ?_
                  show Steps p.tables e below (T226.setTop (mkF m 416 #[.val (.int p0), .val (.int p1), .val (.int p2), .val (.int p3), .val (.ref b1), .val (.int (gend p0 p3)), .val (.int (gat p3)), .val (.int (3 : Int32)), .val (.ref b28), .val (.ref b172), .val (.ref e203b), .val (.int (3 : Int32))] [(.ref b28), (.int (0 : Int32)), (.int (3 : Int32)), (.int (gat p3)), (.ref b1), (.ref b172), (.ref e203b)])) _
                  refine st234 _ ?_
                  show Steps p.tables e below (T234.setTop (mkF m 419 #[.val (.int p0), .val (.int p1), .val (.int p2), .val (.int p3), .val (.ref b1), .val (.int (gend p0 p3)), .val (.int (gat p3)), .val (.int (3 : Int32)), .val (.ref b28), .val (.ref b172), .val (.ref e203b), .val (.int (3 : Int32))] [(.int (f3 (gat p3) (3 : Int32) (0 : Int32) (fun j => if j < 3 then fh (a + j) else fq j) fq fh fq 3 a 0))])) _
                  refine XS.ifNo X234.here hx rfl (hb hby at_419) rfl ((if0 _ _).trans (feq (show ¬ ((f3 (gat p3) (3 : Int32) (0 : Int32) (fun j => if j < 3 then fh (a + j) else fq j) fq fh fq 3 a 0) = (0 : Int32)) from (own_cell (K := 3) (i := 0) rfl rfl (by decide) (by decide) (fun j hj => rfl) (fun j hj => rfl)))).1) ?_
                  show Steps p.tables e below (T234.setTop (mkF m 422 #[.val (.int p0), .val (.int p1), .val (.int p2), .val (.int p3), .val (.ref b1), .val (.int (gend p0 p3)), .val (.int (gat p3)), .val (.int (3 : Int32)), .val (.ref b28), .val (.ref b172), .val (.ref e203b), .val (.int (3 : Int32))] [])) _
                  refine XS.aload X234.here hx rfl (hb hby at_422) rfl rfl ?_
                  show Steps p.tables e below (T234.setTop (mkF m 424 #[.val (.int p0), .val (.int p1), .val (.int p2), .val (.int p3), .val (.ref b1), .val (.int (gend p0 p3)), .val (.int (gat p3)), .val (.int (3 : Int32)), .val (.ref b28), .val (.ref b172), .val (.ref e203b), .val (.int (3 : Int32))] [(.ref e203b)])) _
                  refine XS.aload X234.here hx rfl (hb hby at_424) rfl rfl ?_
                  show Steps p.tables e below (T234.setTop (mkF m 426 #[.val (.int p0), .val (.int p1), .val (.int p2), .val (.int p3), .val (.ref b1), .val (.int (gend p0 p3)), .val (.int (gat p3)), .val (.int (3 : Int32)), .val (.ref b28), .val (.ref b172), .val (.ref e203b), .val (.int (3 : Int32))] [(.ref b172), (.ref e203b)])) _
                  refine XS.aload X234.here hx rfl (hb hby at_426) rfl rfl ?_
                  show Steps p.tables e below (T234.setTop (mkF m 428 #[.val (.int p0), .val (.int p1), .val (.int p2), .val (.int p3), .val (.ref b1), .val (.int (gend p0 p3)), .val (.int (gat p3)), .val (.int (3 : Int32)), .val (.ref b28), .val (.ref b172), .val (.ref e203b), .val (.int (3 : Int32))] [(.ref b1), (.ref b172), (.ref e203b)])) _
                  refine XS.iload X234.here hx rfl (hb hby at_428) rfl ?_
                  show Steps p.tables e below (T234.setTop (mkF m 430 #[.val (.int p0), .val (.int p1), .val (.int p2), .val (.int p3), .val (.ref b1), .val (.int (gend p0 p3)), .val (.int (gat p3)), .val (.int (3 : Int32)), .val (.ref b28), .val (.ref b172), .val (.ref e203b), .val (.int (3 : Int32))] [(.int (gat p3)), (.ref b1), (.ref b172), (.ref e203b)])) _
                  refine XS.iload X234.here hx rfl (hb hby at_430) rfl ?_
                  show Steps p.tables e below (T234.setTop (mkF m 432 #[.val (.int p0), .val (.int p1), .val (.int p2), .val (.int p3), .val (.ref b1), .val (.int (gend p0 p3)), .val (.int (gat p3)), .val (.int (3 : Int32)), .val (.ref b28), .val (.ref b172), .val (.ref e203b), .val (.int (3 : Int32))] [(.int (3 : Int32)), (.int (gat p3)), (.ref b1), (.ref b172), (.ref e203b)])) _
                  refine XS.iconst X234.here hx rfl (hb hby at_432) ?_
                  show Steps p.tables e below (T234.setTop (mkF m 433 #[.val (.int p0), .val (.int p1), .val (.int p2), .val (.int p3), .val (.ref b1), .val (.int (gend p0 p3)), .val (.int (gat p3)), .val (.int (3 : Int32)), .val (.ref b28), .val (.ref b172), .val (.ref e203b), .val (.int (3 : Int32))] [(.int (1 : Int32)), (.int (3 : Int32)), (.int (gat p3)), (.ref b1), (.ref b172), (.ref e203b)])) _
                  refine XS.aload X234.here hx rfl (hb hby at_433) rfl rfl ?_
                  show Steps p.tables e below (T234.setTop (mkF m 435 #[.val (.int p0), .val (.int p1), .val (.int p2), .val (.int p3), .val (.ref b1), .val (.int (gend p0 p3)), .val (.int (gat p3)), .val (.int (3 : Int32)), .val (.ref b28), .val (.ref b172), .val (.ref e203b), .val (.int (3 : Int32))] [(.ref b28), (.int (1 : Int32)), (.int (3 : Int32)), (.int (gat p3)), (.ref b1), (.ref b172), (.ref e203b)])) _
                  refine st235 _ ?_
                  show Steps p.tables e below (T235.setTop (mkF m 438 #[.val (.int p0), .val (.int p1), .val (.int p2), .val (.int p3), .val (.ref b1), .val (.int (gend p0 p3)), .val (.int (gat p3)), .val (.int (3 : Int32)), .val (.ref b28), .val (.ref b172), .val (.ref e203b), .val (.int (3 : Int32))] [(.int (f3 (gat p3) (3 : Int32) (1 : Int32) (fun j => if j < 3 then fh (a + j) else fq j) fq fh fq 3 a 1))])) _
                  refine XS.ifNo X235.here hx rfl (hb hby at_438) rfl ((if0 _ _).trans (feq (show ¬ ((f3 (gat p3) (3 : Int32) (1 : Int32) (fun j => if j < 3 then fh (a + j) else fq j) fq fh fq 3 a 1) = (0 : Int32)) from (own_cell (K := 3) (i := 1) rfl rfl (by decide) (by decide) (fun j hj => rfl) (fun j hj => rfl)))).1) ?_
                  show Steps p.tables e below (T235.setTop (mkF m 441 #[.val (.int p0), .val (.int p1), .val (.int p2), .val (.int p3), .val (.ref b1), .val (.int (gend p0 p3)), .val (.int (gat p3)), .val (.int (3 : Int32)), .val (.ref b28), .val (.ref b172), .val (.ref e203b), .val (.int (3 : Int32))] [])) _
                  refine XS.aload X235.here hx rfl (hb hby at_441) rfl rfl ?_
                  show Steps p.tables e below (T235.setTop (mkF m 443 #[.val (.int p0), .val (.int p1), .val (.int p2), .val (.int p3), .val (.ref b1), .val (.int (gend p0 p3)), .val (.int (gat p3)), .val (.int (3 : Int32)), .val (.ref b28), .val (.ref b172), .val (.ref e203b), .val (.int (3 : Int32))] [(.ref e203b)])) _
                  refine XS.aload X235.here hx rfl (hb hby at_443) rfl rfl ?_
                  show Steps p.tables e below (T235.setTop (mkF m 445 #[.val (.int p0), .val (.int p1), .val (.int p2), .val (.int p3), .val (.ref b1), .val (.int (gend p0 p3)), .val (.int (gat p3)), .val (.int (3 : Int32)), .val (.ref b28), .val (.ref b172), .val (.ref e203b), .val (.int (3 : Int32))] [(.ref b172), (.ref e203b)])) _
                  refine XS.aload X235.here hx rfl (hb hby at_445) rfl rfl ?_
                  show Steps p.tables e below (T235.setTop (mkF m 447 #[.val (.int p0), .val (.int p1), .val (.int p2), .val (.int p3), .val (.ref b1), .val (.int (gend p0 p3)), .val (.int (gat p3)), .val (.int (3 : Int32)), .val (.ref b28), .val (.ref b172), .val (.ref e203b), .val (.int (3 : Int32))] [(.ref b1), (.ref b172), (.ref e203b)])) _
                  refine XS.iload X235.here hx rfl (hb hby at_447) rfl ?_
                  show Steps p.tables e below (T235.setTop (mkF m 449 #[.val (.int p0), .val (.int p1), .val (.int p2), .val (.int p3), .val (.ref b1), .val (.int (gend p0 p3)), .val (.int (gat p3)), .val (.int (3 : Int32)), .val (.ref b28), .val (.ref b172), .val (.ref e203b), .val (.int (3 : Int32))] [(.int (gat p3)), (.ref b1), (.ref b172), (.ref e203b)])) _
                  refine XS.iload X235.here hx rfl (hb hby at_449) rfl ?_
                  show Steps p.tables e below (T235.setTop (mkF m 451 #[.val (.int p0), .val (.int p1), .val (.int p2), .val (.int p3), .val (.ref b1), .val (.int (gend p0 p3)), .val (.int (gat p3)), .val (.int (3 : Int32)), .val (.ref b28), .val (.ref b172), .val (.ref e203b), .val (.int (3 : Int32))] [(.int (3 : Int32)), (.int (gat p3)), (.ref b1), (.ref b172), (.ref e203b)])) _
                  refine XS.iconst X235.here hx rfl (hb hby at_451) ?_
                  show Steps p.tables e below (T235.setTop (mkF m 452 #[.val (.int p0), .val (.int p1), .val (.int p2), .val (.int p3), .val (.ref b1), .val (.int (gend p0 p3)), .val (.int (gat p3)), .val (.int (3 : Int32)), .val (.ref b28), .val (.ref b172), .val (.ref e203b), .val (.int (3 : Int32))] [(.int (2 : Int32)), (.int (3 : Int32)), (.int (gat p3)), (.ref b1), (.ref b172), (.ref e203b)])) _
                  refine XS.aload X235.here hx rfl (hb hby at_452) rfl rfl ?_
                  show Steps p.tables e below (T235.setTop (mkF m 454 #[.val (.int p0), .val (.int p1), .val (.int p2), .val (.int p3), .val (.ref b1), .val (.int (gend p0 p3)), .val (.int (gat p3)), .val (.int (3 : Int32)), .val (.ref b28), .val (.ref b172), .val (.ref e203b), .val (.int (3 : Int32))] [(.ref b28), (.int (2 : Int32)), (.int (3 : Int32)), (.int (gat p3)), (.ref b1), (.ref b172), (.ref e203b)])) _
                  refine st236 _ ?_
                  show Steps p.tables e below (T236.setTop (mkF m 457 #[.val (.int p0), .val (.int p1), .val (.int p2), .val (.int p3), .val (.ref b1), .val (.int (gend p0 p3)), .val (.int (gat p3)), .val (.int (3 : Int32)), .val (.ref b28), .val (.ref b172), .val (.ref e203b), .val (.int (3 : Int32))] [(.int (f3 (gat p3) (3 : Int32) (2 : Int32) (fun j => if j < 3 then fh (a + j) else fq j) fq fh fq 3 a 2))])) _
                  refine XS.ifNo X236.here hx rfl (hb hby at_457) rfl ((if0 _ _).trans (feq (show ¬ ((f3 (gat p3) (3 : Int32) (2 : Int32) (fun j => if j < 3 then fh (a + j) else fq j) fq fh fq 3 a 2) = (0 : Int32)) from (own_cell (K := 3) (i := 2) rfl rfl (by decide) (by decide) (fun j hj => rfl) (fun j hj => rfl)))).1) ?_
                  show Steps p.tables e below (T236.setTop (mkF m 460 #[.val (.int p0), .val (.int p1), .val (.int p2), .val (.int p3), .val (.ref b1), .val (.int (gend p0 p3)), .val (.int (gat p3)), .val (.int (3 : Int32)), .val (.ref b28), .val (.ref b172), .val (.ref e203b), .val (.int (3 : Int32))] [])) _
                  refine XS.aload X236.here hx rfl (hb hby at_460) rfl rfl ?_
                  show Steps p.tables e below (T236.setTop (mkF m 462 #[.val (.int p0), .val (.int p1), .val (.int p2), .val (.int p3), .val (.ref b1), .val (.int (gend p0 p3)), .val (.int (gat p3)), .val (.int (3 : Int32)), .val (.ref b28), .val (.ref b172), .val (.ref e203b), .val (.int (3 : Int32))] [(.ref e203b)])) _
                  refine XS.aload X236.here hx rfl (hb hby at_462) rfl rfl ?_
                  show Steps p.tables e below (T236.setTop (mkF m 464 #[.val (.int p0), .val (.int p1), .val (.int p2), .val (.int p3), .val (.ref b1), .val (.int (gend p0 p3)), .val (.int (gat p3)), .val (.int (3 : Int32)), .val (.ref b28), .val (.ref b172), .val (.ref e203b), .val (.int (3 : Int32))] [(.ref b172), (.ref e203b)])) _
                  refine XS.aload X236.here hx rfl (hb hby at_464) rfl rfl ?_
                  show Steps p.tables e below (T236.setTop (mkF m 466 #[.val (.int p0), .val (.int p1), .val (.int p2), .val (.int p3), .val (.ref b1), .val (.int (gend p0 p3)), .val (.int (gat p3)), .val (.int (3 : Int32)), .val (.ref b28), .val (.ref b172), .val (.ref e203b), .val (.int (3 : Int32))] [(.ref b1), (.ref b172), (.ref e203b)])) _
                  refine XS.iload X236.here hx rfl (hb hby at_466) rfl ?_
                  show Steps p.tables e below (T236.setTop (mkF m 468 #[.val (.int p0), .val (.int p1), .val (.int p2), .val (.int p3), .val (.ref b1), .val (.int (gend p0 p3)), .val (.int (gat p3)), .val (.int (3 : Int32)), .val (.ref b28), .val (.ref b172), .val (.ref e203b), .val (.int (3 : Int32))] [(.int (gat p3)), (.ref b1), (.ref b172), (.ref e203b)])) _
                  refine XS.iload X236.here hx rfl (hb hby at_468) rfl ?_
                  show Steps p.tables e below (T236.setTop (mkF m 470 #[.val (.int p0), .val (.int p1), .val (.int p2), .val (.int p3), .val (.ref b1), .val (.int (gend p0 p3)), .val (.int (gat p3)), .val (.int (3 : Int32)), .val (.ref b28), .val (.ref b172), .val (.ref e203b), .val (.int (3 : Int32))] [(.int (3 : Int32)), (.int (gat p3)), (.ref b1), (.ref b172), (.ref e203b)])) _
                  refine XS.iconst X236.here hx rfl (hb hby at_470) ?_
                  show Steps p.tables e below (T236.setTop (mkF m 471 #[.val (.int p0), .val (.int p1), .val (.int p2), .val (.int p3), .val (.ref b1), .val (.int (gend p0 p3)), .val (.int (gat p3)), .val (.int (3 : Int32)), .val (.ref b28), .val (.ref b172), .val (.ref e203b), .val (.int (3 : Int32))] [(.int (3 : Int32)), (.int (3 : Int32)), (.int (gat p3)), (.ref b1), (.ref b172), (.ref e203b)])) _
                  refine XS.aload X236.here hx rfl (hb hby at_471) rfl rfl ?_
                  show Steps p.tables e below (T236.setTop (mkF m 473 #[.val (.int p0), .val (.int p1), .val (.int p2), .val (.int p3), .val (.ref b1), .val (.int (gend p0 p3)), .val (.int (gat p3)), .val (.int (3 : Int32)), .val (.ref b28), .val (.ref b172), .val (.ref e203b), .val (.int (3 : Int32))] [(.ref b28), (.int (3 : Int32)), (.int (3 : Int32)), (.int (gat p3)), (.ref b1), (.ref b172), (.ref e203b)])) _
                  refine st237 _ ?_
                  show Steps p.tables e below (T237.setTop (mkF m 476 #[.val (.int p0), .val (.int p1), .val (.int p2), .val (.int p3), .val (.ref b1), .val (.int (gend p0 p3)), .val (.int (gat p3)), .val (.int (3 : Int32)), .val (.ref b28), .val (.ref b172), .val (.ref e203b), .val (.int (3 : Int32))] [(.int (f3 (gat p3) (3 : Int32) (3 : Int32) (fun j => if j < 3 then fh (a + j) else fq j) fq fh fq 3 a 3))])) _
                  refine XS.ifNo X237.here hx rfl (hb hby at_476) rfl ((if0 _ _).trans (feq (show ¬ ((f3 (gat p3) (3 : Int32) (3 : Int32) (fun j => if j < 3 then fh (a + j) else fq j) fq fh fq 3 a 3) = (0 : Int32)) from (own_cell (K := 3) (i := 3) rfl rfl (by decide) (by decide) (fun j hj => rfl) (fun j hj => rfl)))).1) ?_
                  show Steps p.tables e below (T237.setTop (mkF m 479 #[.val (.int p0), .val (.int p1), .val (.int p2), .val (.int p3), .val (.ref b1), .val (.int (gend p0 p3)), .val (.int (gat p3)), .val (.int (3 : Int32)), .val (.ref b28), .val (.ref b172), .val (.ref e203b), .val (.int (3 : Int32))] [])) _
                  refine XS.iconst X237.here hx rfl (hb hby at_479) ?_
                  show Steps p.tables e below (T237.setTop (mkF m 480 #[.val (.int p0), .val (.int p1), .val (.int p2), .val (.int p3), .val (.ref b1), .val (.int (gend p0 p3)), .val (.int (gat p3)), .val (.int (3 : Int32)), .val (.ref b28), .val (.ref b172), .val (.ref e203b), .val (.int (3 : Int32))] [(.int (1 : Int32))])) _
                  refine XS.goto X237.here hx rfl (pc0 := 480) (pc' := 484) rfl (hb hby at_480) (by decide) (by decide) ?_
                  exact kt
                obtain ⟨fsQ, hr, hrun, hended, hW, hsame⟩ := X237.leave (v := some (.int (1 : Int32))) (fun h => by rw [Bd.returns] at h; cases h)
                refine ⟨_, _, pre0 _ (K238 _ ?_), hrun, hended, _, _, rfl, ?_, ⟨_, rfl⟩, hW, hsame.mono (by decide) (by decide)⟩
                · show Steps p.tables e below (T237.setTop (mkF m 484 #[.val (.int p0), .val (.int p1), .val (.int p2), .val (.int p3), .val (.ref b1), .val (.int (gend p0 p3)), .val (.int (gat p3)), .val (.int (3 : Int32)), .val (.ref b28), .val (.ref b172), .val (.ref e203b), .val (.int (3 : Int32))] [(.int (1 : Int32))])) _
                  exact retN X237 hx (t := .boolean) Bd.returns (by simp) (hb hby at_484) hr
                · show Q0 Z p0 p1 p2 p3  h0 n0 _ T237.heap _
                  rw [e237]
                  exact ⟨rfl, N203⟩
        · skip
          obtain ⟨T239, h239, X239, e239, E239, A239, B239, st239⟩ := iaNewE X48 hx hZ (hw _ (List.mem_of_getElem? (i := 0) rfl)) e48 (g := (mkF m 248 #[.val (.int p0), .val (.int p1), .val (.int p2), .val (.int p3), .val (.ref b1), .val (.int (gend p0 p3)), .val (.int (gat p3)), .val (.int (gul p3)), .val (.ref b28), .unset, .unset, .unset] [(.int (4 : Int32))])) rfl (hb hby at_248) rfl 4 (by decide) 4 (Nat.le_refl _) (by decide) (by decide) (by decide) rfl (by decide) (ad := "[B") (by decide)
          obtain ⟨b239, g239⟩ : ∃ z, z = h48.size := ⟨_, rfl⟩
          rw [← g239] at A239 B239 st239
          have ne240 : b1 ≠ b239 := Nat.ne_of_lt (Nat.lt_of_lt_of_le G49.lt (Nat.le_of_eq g239.symm))
          have ne241 : b28 ≠ b239 := Nat.ne_of_lt (Nat.lt_of_lt_of_le G51.lt (Nat.le_of_eq g239.symm))
          have gn239 : n0 ≤ b239 := Nat.le_trans Z48 (Nat.le_of_eq g239.symm)
          have Z239 : n0 ≤ h239.size := Nat.le_trans Z48 E239.1
          have G242 : Exa Z h239 b1 "[B" := G49.ext E239
          have G243 : Ia Z h239 b1 .byte 6 fh := G50.ext E239
          have G244 : Exa Z h239 b28 "[B" := G51.ext E239
          have G245 : Ia Z h239 b28 .byte 4 fq := Afq.ext E239
          have G246 : Ia Z h239 b239 .byte 4 (fun _ => (0 : Int32)) := A239
          obtain ⟨T247, h247, X247, e247, W247, A247, st247⟩ := iaB X239 hx hZ e239 G246 (j := (0 : Int32)) 0 (by decide) (by decide) (g := (mkF m 256 #[.val (.int p0), .val (.int p1), .val (.int p2), .val (.int p3), .val (.ref b1), .val (.int (gend p0 p3)), .val (.int (gat p3)), .val (.int (gul p3)), .val (.ref b28), .unset, .unset, .unset] [(.int (fq 0)), (.int (0 : Int32)), (.ref b239), (.ref b239)])) rfl rfl (hb hby at_256)
          have G248 : Exa Z h247 b1 "[B" := G242.wr W247
          have G249 : Ia Z h247 b1 .byte 6 fh := G243.other W247 ne240
          have G250 : Exa Z h247 b28 "[B" := G244.wr W247
          have G251 : Ia Z h247 b28 .byte 4 fq := G245.other W247 ne241
          have G252 : Exa Z h247 b239 "[B" := B239.wr W247
          have G253 : Ia Z h247 b239 .byte 4 (up (fun _ => (0 : Int32)) 0 (nar .byte (fq 0))) := A247
          have Z247 : n0 ≤ h247.size := Nat.le_trans Z239 (Keep.of_wr W247).1
          have N247 := Fr.snoc X247 N48 gn239
          obtain ⟨T254, h254, X254, e254, W254, A254, st254⟩ := iaB X247 hx hZ e247 G253 (j := (1 : Int32)) 1 (by decide) (by decide) (g := (mkF m 263 #[.val (.int p0), .val (.int p1), .val (.int p2), .val (.int p3), .val (.ref b1), .val (.int (gend p0 p3)), .val (.int (gat p3)), .val (.int (gul p3)), .val (.ref b28), .unset, .unset, .unset] [(.int (fq 1)), (.int (1 : Int32)), (.ref b239), (.ref b239)])) rfl rfl (hb hby at_263)
          have G255 : Exa Z h254 b1 "[B" := G248.wr W254
          have G256 : Ia Z h254 b1 .byte 6 fh := G249.other W254 ne240
          have G257 : Exa Z h254 b28 "[B" := G250.wr W254
          have G258 : Ia Z h254 b28 .byte 4 fq := G251.other W254 ne241
          have G259 : Exa Z h254 b239 "[B" := G252.wr W254
          have G260 : Ia Z h254 b239 .byte 4 (up (up (fun _ => (0 : Int32)) 0 (nar .byte (fq 0))) 1 (nar .byte (fq 1))) := A254
          have Z254 : n0 ≤ h254.size := Nat.le_trans Z247 (Keep.of_wr W254).1
          have N254 := Fr.snoc X254 N247 gn239
          obtain ⟨T261, h261, X261, e261, W261, A261, st261⟩ := iaB X254 hx hZ e254 G260 (j := (2 : Int32)) 2 (by decide) (by decide) (g := (mkF m 270 #[.val (.int p0), .val (.int p1), .val (.int p2), .val (.int p3), .val (.ref b1), .val (.int (gend p0 p3)), .val (.int (gat p3)), .val (.int (gul p3)), .val (.ref b28), .unset, .unset, .unset] [(.int (fq 2)), (.int (2 : Int32)), (.ref b239), (.ref b239)])) rfl rfl (hb hby at_270)
          have G262 : Exa Z h261 b1 "[B" := G255.wr W261
          have G263 : Ia Z h261 b1 .byte 6 fh := G256.other W261 ne240
          have G264 : Exa Z h261 b28 "[B" := G257.wr W261
          have G265 : Ia Z h261 b28 .byte 4 fq := G258.other W261 ne241
          have G266 : Exa Z h261 b239 "[B" := G259.wr W261
          have G267 : Ia Z h261 b239 .byte 4 (up (up (up (fun _ => (0 : Int32)) 0 (nar .byte (fq 0))) 1 (nar .byte (fq 1))) 2 (nar .byte (fq 2))) := A261
          have Z261 : n0 ≤ h261.size := Nat.le_trans Z254 (Keep.of_wr W261).1
          have N261 := Fr.snoc X261 N254 gn239
          obtain ⟨T268, h268, X268, e268, W268, A268, st268⟩ := iaB X261 hx hZ e261 G267 (j := (3 : Int32)) 3 (by decide) (by decide) (g := (mkF m 277 #[.val (.int p0), .val (.int p1), .val (.int p2), .val (.int p3), .val (.ref b1), .val (.int (gend p0 p3)), .val (.int (gat p3)), .val (.int (gul p3)), .val (.ref b28), .unset, .unset, .unset] [(.int (fq 3)), (.int (3 : Int32)), (.ref b239), (.ref b239)])) rfl rfl (hb hby at_277)
          have G269 : Exa Z h268 b1 "[B" := G262.wr W268
          have G270 : Ia Z h268 b1 .byte 6 fh := G263.other W268 ne240
          have G271 : Exa Z h268 b28 "[B" := G264.wr W268
          have G272 : Ia Z h268 b28 .byte 4 fq := G265.other W268 ne241
          have G273 : Exa Z h268 b239 "[B" := G266.wr W268
          have G274 : Ia Z h268 b239 .byte 4 (up (up (up (up (fun _ => (0 : Int32)) 0 (nar .byte (fq 0))) 1 (nar .byte (fq 1))) 2 (nar .byte (fq 2))) 3 (nar .byte (fq 3))) := A268
          have Z268 : n0 ≤ h268.size := Nat.le_trans Z261 (Keep.of_wr W268).1
          have N268 := Fr.snoc X268 N261 gn239
          have K275 : ∀ t, Steps p.tables e below (T268.setTop (mkF m 280 #[.val (.int p0), .val (.int p1), .val (.int p2), .val (.int p3), .val (.ref b1), .val (.int (gend p0 p3)), .val (.int (gat p3)), .val (.int (gul p3)), .val (.ref b28), .val (.ref b239), .unset, .unset] [])) t → Steps p.tables e below (s₁.setTop (mkF m 0 #[.val (.int p0), .val (.int p1), .val (.int p2), .val (.int p3), .unset, .unset, .unset, .unset, .unset, .unset, .unset, .unset] [])) t := by
            intro t kt
            refine K170 _ ?_
            show Steps p.tables e below (T48.setTop (mkF m 215 #[.val (.int p0), .val (.int p1), .val (.int p2), .val (.int p3), .val (.ref b1), .val (.int (gend p0 p3)), .val (.int (gat p3)), .val (.int (gul p3)), .val (.ref b28), .unset, .unset, .unset] [(.int (3 : Int32)), (.int (gul p3))])) _
            refine XS.icmpYes X48.here hx rfl (pc0 := 215) (pc' := 247) rfl (hb hby at_215) rfl (feq hc171).2 (by decide) (by decide) ?_
            show Steps p.tables e below (T48.setTop (mkF m 247 #[.val (.int p0), .val (.int p1), .val (.int p2), .val (.int p3), .val (.ref b1), .val (.int (gend p0 p3)), .val (.int (gat p3)), .val (.int (gul p3)), .val (.ref b28), .unset, .unset, .unset] [])) _
            refine XS.iconst X48.here hx rfl (hb hby at_247) ?_
            show Steps p.tables e below (T48.setTop (mkF m 248 #[.val (.int p0), .val (.int p1), .val (.int p2), .val (.int p3), .val (.ref b1), .val (.int (gend p0 p3)), .val (.int (gat p3)), .val (.int (gul p3)), .val (.ref b28), .unset, .unset, .unset] [(.int (4 : Int32))])) _
            refine st239 _ ?_
            show Steps p.tables e below (T239.setTop (mkF m 250 #[.val (.int p0), .val (.int p1), .val (.int p2), .val (.int p3), .val (.ref b1), .val (.int (gend p0 p3)), .val (.int (gat p3)), .val (.int (gul p3)), .val (.ref b28), .unset, .unset, .unset] [(.ref b239)])) _
            refine XS.dup X239.here hx rfl (hb hby at_250) rfl rfl ?_
            show Steps p.tables e below (T239.setTop (mkF m 251 #[.val (.int p0), .val (.int p1), .val (.int p2), .val (.int p3), .val (.ref b1), .val (.int (gend p0 p3)), .val (.int (gat p3)), .val (.int (gul p3)), .val (.ref b28), .unset, .unset, .unset] [(.ref b239), (.ref b239)])) _
            refine XS.iconst X239.here hx rfl (hb hby at_251) ?_
            show Steps p.tables e below (T239.setTop (mkF m 252 #[.val (.int p0), .val (.int p1), .val (.int p2), .val (.int p3), .val (.ref b1), .val (.int (gend p0 p3)), .val (.int (gat p3)), .val (.int (gul p3)), .val (.ref b28), .unset, .unset, .unset] [(.int (0 : Int32)), (.ref b239), (.ref b239)])) _
            refine XS.aload X239.here hx rfl (hb hby at_252) rfl rfl ?_
            show Steps p.tables e below (T239.setTop (mkF m 254 #[.val (.int p0), .val (.int p1), .val (.int p2), .val (.int p3), .val (.ref b1), .val (.int (gend p0 p3)), .val (.int (gat p3)), .val (.int (gul p3)), .val (.ref b28), .unset, .unset, .unset] [(.ref b28), (.int (0 : Int32)), (.ref b239), (.ref b239)])) _
            refine XS.iconst X239.here hx rfl (hb hby at_254) ?_
            show Steps p.tables e below (T239.setTop (mkF m 255 #[.val (.int p0), .val (.int p1), .val (.int p2), .val (.int p3), .val (.ref b1), .val (.int (gend p0 p3)), .val (.int (gat p3)), .val (.int (gul p3)), .val (.ref b28), .unset, .unset, .unset] [(.int (0 : Int32)), (.ref b28), (.int (0 : Int32)), (.ref b239), (.ref b239)])) _
            refine iaLB X239 hx hZ e239 G245 (j := (0 : Int32)) 0 (by decide) (by decide) (g := (mkF m 255 #[.val (.int p0), .val (.int p1), .val (.int p2), .val (.int p3), .val (.ref b1), .val (.int (gend p0 p3)), .val (.int (gat p3)), .val (.int (gul p3)), .val (.ref b28), .unset, .unset, .unset] [(.int (0 : Int32)), (.ref b28), (.int (0 : Int32)), (.ref b239), (.ref b239)])) rfl rfl (hb hby at_255) _ ?_
            show Steps p.tables e below (T239.setTop (mkF m 256 #[.val (.int p0), .val (.int p1), .val (.int p2), .val (.int p3), .val (.ref b1), .val (.int (gend p0 p3)), .val (.int (gat p3)), .val (.int (gul p3)), .val (.ref b28), .unset, .unset, .unset] [(.int (fq 0)), (.int (0 : Int32)), (.ref b239), (.ref b239)])) _
            refine st247 _ ?_
            show Steps p.tables e below (T247.setTop (mkF m 257 #[.val (.int p0), .val (.int p1), .val (.int p2), .val (.int p3), .val (.ref b1), .val (.int (gend p0 p3)), .val (.int (gat p3)), .val (.int (gul p3)), .val (.ref b28), .unset, .unset, .unset] [(.ref b239)])) _
            refine XS.dup X247.here hx rfl (hb hby at_257) rfl rfl ?_
            show Steps p.tables e below (T247.setTop (mkF m 258 #[.val (.int p0), .val (.int p1), .val (.int p2), .val (.int p3), .val (.ref b1), .val (.int (gend p0 p3)), .val (.int (gat p3)), .val (.int (gul p3)), .val (.ref b28), .unset, .unset, .unset] [(.ref b239), (.ref b239)])) _
            refine XS.iconst X247.here hx rfl (hb hby at_258) ?_
            show Steps p.tables e below (T247.setTop (mkF m 259 #[.val (.int p0), .val (.int p1), .val (.int p2), .val (.int p3), .val (.ref b1), .val (.int (gend p0 p3)), .val (.int (gat p3)), .val (.int (gul p3)), .val (.ref b28), .unset, .unset, .unset] [(.int (1 : Int32)), (.ref b239), (.ref b239)])) _
            refine XS.aload X247.here hx rfl (hb hby at_259) rfl rfl ?_
            show Steps p.tables e below (T247.setTop (mkF m 261 #[.val (.int p0), .val (.int p1), .val (.int p2), .val (.int p3), .val (.ref b1), .val (.int (gend p0 p3)), .val (.int (gat p3)), .val (.int (gul p3)), .val (.ref b28), .unset, .unset, .unset] [(.ref b28), (.int (1 : Int32)), (.ref b239), (.ref b239)])) _
            refine XS.iconst X247.here hx rfl (hb hby at_261) ?_
            show Steps p.tables e below (T247.setTop (mkF m 262 #[.val (.int p0), .val (.int p1), .val (.int p2), .val (.int p3), .val (.ref b1), .val (.int (gend p0 p3)), .val (.int (gat p3)), .val (.int (gul p3)), .val (.ref b28), .unset, .unset, .unset] [(.int (1 : Int32)), (.ref b28), (.int (1 : Int32)), (.ref b239), (.ref b239)])) _
            refine iaLB X247 hx hZ e247 G251 (j := (1 : Int32)) 1 (by decide) (by decide) (g := (mkF m 262 #[.val (.int p0), .val (.int p1), .val (.int p2), .val (.int p3), .val (.ref b1), .val (.int (gend p0 p3)), .val (.int (gat p3)), .val (.int (gul p3)), .val (.ref b28), .unset, .unset, .unset] [(.int (1 : Int32)), (.ref b28), (.int (1 : Int32)), (.ref b239), (.ref b239)])) rfl rfl (hb hby at_262) _ ?_
            show Steps p.tables e below (T247.setTop (mkF m 263 #[.val (.int p0), .val (.int p1), .val (.int p2), .val (.int p3), .val (.ref b1), .val (.int (gend p0 p3)), .val (.int (gat p3)), .val (.int (gul p3)), .val (.ref b28), .unset, .unset, .unset] [(.int (fq 1)), (.int (1 : Int32)), (.ref b239), (.ref b239)])) _
            refine st254 _ ?_
            show Steps p.tables e below (T254.setTop (mkF m 264 #[.val (.int p0), .val (.int p1), .val (.int p2), .val (.int p3), .val (.ref b1), .val (.int (gend p0 p3)), .val (.int (gat p3)), .val (.int (gul p3)), .val (.ref b28), .unset, .unset, .unset] [(.ref b239)])) _
            refine XS.dup X254.here hx rfl (hb hby at_264) rfl rfl ?_
            show Steps p.tables e below (T254.setTop (mkF m 265 #[.val (.int p0), .val (.int p1), .val (.int p2), .val (.int p3), .val (.ref b1), .val (.int (gend p0 p3)), .val (.int (gat p3)), .val (.int (gul p3)), .val (.ref b28), .unset, .unset, .unset] [(.ref b239), (.ref b239)])) _
            refine XS.iconst X254.here hx rfl (hb hby at_265) ?_
            show Steps p.tables e below (T254.setTop (mkF m 266 #[.val (.int p0), .val (.int p1), .val (.int p2), .val (.int p3), .val (.ref b1), .val (.int (gend p0 p3)), .val (.int (gat p3)), .val (.int (gul p3)), .val (.ref b28), .unset, .unset, .unset] [(.int (2 : Int32)), (.ref b239), (.ref b239)])) _
            refine XS.aload X254.here hx rfl (hb hby at_266) rfl rfl ?_
            show Steps p.tables e below (T254.setTop (mkF m 268 #[.val (.int p0), .val (.int p1), .val (.int p2), .val (.int p3), .val (.ref b1), .val (.int (gend p0 p3)), .val (.int (gat p3)), .val (.int (gul p3)), .val (.ref b28), .unset, .unset, .unset] [(.ref b28), (.int (2 : Int32)), (.ref b239), (.ref b239)])) _
            refine XS.iconst X254.here hx rfl (hb hby at_268) ?_
            show Steps p.tables e below (T254.setTop (mkF m 269 #[.val (.int p0), .val (.int p1), .val (.int p2), .val (.int p3), .val (.ref b1), .val (.int (gend p0 p3)), .val (.int (gat p3)), .val (.int (gul p3)), .val (.ref b28), .unset, .unset, .unset] [(.int (2 : Int32)), (.ref b28), (.int (2 : Int32)), (.ref b239), (.ref b239)])) _
            refine iaLB X254 hx hZ e254 G258 (j := (2 : Int32)) 2 (by decide) (by decide) (g := (mkF m 269 #[.val (.int p0), .val (.int p1), .val (.int p2), .val (.int p3), .val (.ref b1), .val (.int (gend p0 p3)), .val (.int (gat p3)), .val (.int (gul p3)), .val (.ref b28), .unset, .unset, .unset] [(.int (2 : Int32)), (.ref b28), (.int (2 : Int32)), (.ref b239), (.ref b239)])) rfl rfl (hb hby at_269) _ ?_
            show Steps p.tables e below (T254.setTop (mkF m 270 #[.val (.int p0), .val (.int p1), .val (.int p2), .val (.int p3), .val (.ref b1), .val (.int (gend p0 p3)), .val (.int (gat p3)), .val (.int (gul p3)), .val (.ref b28), .unset, .unset, .unset] [(.int (fq 2)), (.int (2 : Int32)), (.ref b239), (.ref b239)])) _
            refine st261 _ ?_
            show Steps p.tables e below (T261.setTop (mkF m 271 #[.val (.int p0), .val (.int p1), .val (.int p2), .val (.int p3), .val (.ref b1), .val (.int (gend p0 p3)), .val (.int (gat p3)), .val (.int (gul p3)), .val (.ref b28), .unset, .unset, .unset] [(.ref b239)])) _
            refine XS.dup X261.here hx rfl (hb hby at_271) rfl rfl ?_
            show Steps p.tables e below (T261.setTop (mkF m 272 #[.val (.int p0), .val (.int p1), .val (.int p2), .val (.int p3), .val (.ref b1), .val (.int (gend p0 p3)), .val (.int (gat p3)), .val (.int (gul p3)), .val (.ref b28), .unset, .unset, .unset] [(.ref b239), (.ref b239)])) _
            refine XS.iconst X261.here hx rfl (hb hby at_272) ?_
            show Steps p.tables e below (T261.setTop (mkF m 273 #[.val (.int p0), .val (.int p1), .val (.int p2), .val (.int p3), .val (.ref b1), .val (.int (gend p0 p3)), .val (.int (gat p3)), .val (.int (gul p3)), .val (.ref b28), .unset, .unset, .unset] [(.int (3 : Int32)), (.ref b239), (.ref b239)])) _
            refine XS.aload X261.here hx rfl (hb hby at_273) rfl rfl ?_
            show Steps p.tables e below (T261.setTop (mkF m 275 #[.val (.int p0), .val (.int p1), .val (.int p2), .val (.int p3), .val (.ref b1), .val (.int (gend p0 p3)), .val (.int (gat p3)), .val (.int (gul p3)), .val (.ref b28), .unset, .unset, .unset] [(.ref b28), (.int (3 : Int32)), (.ref b239), (.ref b239)])) _
            refine XS.iconst X261.here hx rfl (hb hby at_275) ?_
            show Steps p.tables e below (T261.setTop (mkF m 276 #[.val (.int p0), .val (.int p1), .val (.int p2), .val (.int p3), .val (.ref b1), .val (.int (gend p0 p3)), .val (.int (gat p3)), .val (.int (gul p3)), .val (.ref b28), .unset, .unset, .unset] [(.int (3 : Int32)), (.ref b28), (.int (3 : Int32)), (.ref b239), (.ref b239)])) _
            refine iaLB X261 hx hZ e261 G265 (j := (3 : Int32)) 3 (by decide) (by decide) (g := (mkF m 276 #[.val (.int p0), .val (.int p1), .val (.int p2), .val (.int p3), .val (.ref b1), .val (.int (gend p0 p3)), .val (.int (gat p3)), .val (.int (gul p3)), .val (.ref b28), .unset, .unset, .unset] [(.int (3 : Int32)), (.ref b28), (.int (3 : Int32)), (.ref b239), (.ref b239)])) rfl rfl (hb hby at_276) _ ?_
            show Steps p.tables e below (T261.setTop (mkF m 277 #[.val (.int p0), .val (.int p1), .val (.int p2), .val (.int p3), .val (.ref b1), .val (.int (gend p0 p3)), .val (.int (gat p3)), .val (.int (gul p3)), .val (.ref b28), .unset, .unset, .unset] [(.int (fq 3)), (.int (3 : Int32)), (.ref b239), (.ref b239)])) _
            refine st268 _ ?_
            show Steps p.tables e below (T268.setTop (mkF m 278 #[.val (.int p0), .val (.int p1), .val (.int p2), .val (.int p3), .val (.ref b1), .val (.int (gend p0 p3)), .val (.int (gat p3)), .val (.int (gul p3)), .val (.ref b28), .unset, .unset, .unset] [(.ref b239)])) _
            refine XS.astore X268.here hx rfl (hb hby at_278) rfl rfl (l' := #[.val (.int p0), .val (.int p1), .val (.int p2), .val (.int p3), .val (.ref b1), .val (.int (gend p0 p3)), .val (.int (gat p3)), .val (.int (gul p3)), .val (.ref b28), .val (.ref b239), .unset, .unset]) rfl ?_
            exact kt
          have hul := own_ul4 hc54 hc78 hc117 hc171
          rw [hul] at K275
          have G276 : Ia Z h268 b239 .byte 4 fq := G274.fun (by intro j hj; rcases (by omega : j = 0 ∨ j = 1 ∨ j = 2 ∨ j = 3) with rfl | rfl | rfl | rfl <;> exact own_narb (G272.fit (by decide)))
          obtain ⟨_, _, ⟨T277, L277, k277, n277⟩, -, X277, ⟨Lc277, hQ277, l277, y277, z277⟩, st277⟩ := Jvm.LawKit.callS X268 hx (y := (⟨"com/example/benchwire/benchwire/protocols/DelimitedText", "declaredDelimiters", "([BIB[B)[B"⟩ : MethodName)) hown (mvT hZ (hw _ (List.mem_of_getElem? (i := 5) rfl))) (mvT hZ (hw _ (List.mem_of_getElem? (i := 6) rfl))) (mvT hZ (hw _ (List.mem_of_getElem? (i := 7) rfl))) (mvT hZ (hw _ (List.mem_of_getElem? (i := 8) rfl))) (by decide) (backOf (W := 0) (rm2 l Z a0 hw [] b1 (gat p3) (gend p0 p3) b239 fh fq 4 a h268 n0 Z268 G270 G276 G273 (by decide) ha ha7) hZ (hw _ (List.mem_of_getElem? (i := 8) rfl)) (hw _ (List.mem_of_getElem? (i := 7) rfl)) (by decide) (by decide)) (g := (mkF m 288 #[.val (.int p0), .val (.int p1), .val (.int p2), .val (.int p3), .val (.ref b1), .val (.int (gend p0 p3)), .val (.int (gat p3)), .val (.int (4 : Int32)), .val (.ref b28), .val (.ref b239), .unset, .unset] [(.ref b239), (.int (gend p0 p3)), (.int (gat p3)), (.ref b1)])) rfl (by rw [hml]; rfl) (argsL := [(.ref b1), (.int (gat p3)), (.int (gend p0 p3)), (.ref b239)]) (rest := []) (lenOf pd_1 rfl) rfl (by show 2 * 0 + _ ≤ _; exact Nat.le_of_eq rfl) (hb hby at_288) (fun _ _ => ⟨rfl, e268, (by decide : 3 + 1 ≤ _), (by decide : 14 + 4 ≤ _)⟩)
          dsimp only [Pt.U, Pt.locs, Pt.cells, Pt.slots] at X277 l277 y277 z277 st277 hQ277
          subst l277 y277 z277
          obtain ⟨e277b, kk, rfl, N277q, K277q, S277q, DDq, A277q⟩ := hQ277
          have N277 := Fr.app N268 N277q
          have Z277 : n0 ≤ T277.heap.size := Nat.le_trans Z268 K277q.1
          have G278 : Exa Z T277.heap b1 "[B" := G269.keep K277q
          have G279 : Ia Z T277.heap b1 .byte 6 fh := G270.keep K277q nin0
          have G280 : Exa Z T277.heap b28 "[B" := G271.keep K277q
          have G281 : Ia Z T277.heap b28 .byte 4 fq := G272.keep K277q nin0
          have G282 : Exa Z T277.heap b239 "[B" := G273.keep K277q
          have G283 : Ia Z T277.heap b239 .byte 4 fq := G276.keep K277q nin0
          obtain ⟨_, _, ⟨T284, L284, k284, n284⟩, -, X284, ⟨Lc284, hQ284, l284, y284, z284⟩, st284⟩ := Jvm.LawKit.callS X277 hx (y := (⟨"com/example/benchwire/benchwire/protocols/DelimitedTextDeclaredDelimitersPinLaw", "ok", "([BIIB)Z"⟩ : MethodName)) hown (mvT hZ (hw _ (List.mem_of_getElem? (i := 21) rfl))) (mvT hZ (hw _ (List.mem_of_getElem? (i := 22) rfl))) (mvT hZ (hw _ (List.mem_of_getElem? (i := 3) rfl))) (mvT hZ (hw _ (List.mem_of_getElem? (i := 23) rfl))) (by decide) (backOf (W := 0) (rm4 l Z a0 hw [] b1 (gat p3) (0 : Int32) (gend p0 p3) fh a 0 T277.heap G279 ha (by decide) ha7 (by decide)) hZ (hw _ (List.mem_of_getElem? (i := 23) rfl)) (hw _ (List.mem_of_getElem? (i := 3) rfl)) (by decide) (by decide)) (g := (mkF m 325 #[.val (.int p0), .val (.int p1), .val (.int p2), .val (.int p3), .val (.ref b1), .val (.int (gend p0 p3)), .val (.int (gat p3)), .val (.int (4 : Int32)), .val (.ref b28), .val (.ref b239), .val (.ref e277b), .val (.int (0 : Int32))] [(.int (gend p0 p3)), (.int (0 : Int32)), (.int (gat p3)), (.ref b1)])) rfl (by rw [hml]; rfl) (argsL := [(.ref b1), (.int (gat p3)), (.int (0 : Int32)), (.int (gend p0 p3))]) (rest := []) (lenOf pd_3 rfl) rfl (by show 2 * 0 + _ ≤ _; exact Nat.le_of_eq rfl) (hb hby at_325) (fun _ _ => ⟨rfl, rfl, (by decide : 4 + 0 ≤ _), (by decide : 18 + 0 ≤ _)⟩)
          dsimp only [Pt.U, Pt.locs, Pt.cells, Pt.slots] at X284 l284 y284 z284 st284 hQ284
          subst l284 y284 z284
          obtain ⟨rfl, rfl, e284⟩ := hQ284
          try rw [List.append_nil] at X284
          have K285 : ∀ t, Steps p.tables e below (T284.setTop (mkF m 328 #[.val (.int p0), .val (.int p1), .val (.int p2), .val (.int p3), .val (.ref b1), .val (.int (gend p0 p3)), .val (.int (gat p3)), .val (.int (4 : Int32)), .val (.ref b28), .val (.ref b239), .val (.ref e277b), .val (.int (0 : Int32))] [(.int (f4 (gat p3) (0 : Int32) (gend p0 p3) fh a 0))])) t → Steps p.tables e below (s₁.setTop (mkF m 0 #[.val (.int p0), .val (.int p1), .val (.int p2), .val (.int p3), .unset, .unset, .unset, .unset, .unset, .unset, .unset, .unset] [])) t := by
            intro t kt
            refine K275 _ ?_
            show Steps p.tables e below (T268.setTop (mkF m 280 #[.val (.int p0), .val (.int p1), .val (.int p2), .val (.int p3), .val (.ref b1), .val (.int (gend p0 p3)), .val (.int (gat p3)), .val (.int (4 : Int32)), .val (.ref b28), .val (.ref b239), .unset, .unset] [])) _
            refine XS.aload X268.here hx rfl (hb hby at_280) rfl rfl ?_
            show Steps p.tables e below (T268.setTop (mkF m 282 #[.val (.int p0), .val (.int p1), .val (.int p2), .val (.int p3), .val (.ref b1), .val (.int (gend p0 p3)), .val (.int (gat p3)), .val (.int (4 : Int32)), .val (.ref b28), .val (.ref b239), .unset, .unset] [(.ref b1)])) _
            refine XS.iload X268.here hx rfl (hb hby at_282) rfl ?_
            show Steps p.tables e below (T268.setTop (mkF m 284 #[.val (.int p0), .val (.int p1), .val (.int p2), .val (.int p3), .val (.ref b1), .val (.int (gend p0 p3)), .val (.int (gat p3)), .val (.int (4 : Int32)), .val (.ref b28), .val (.ref b239), .unset, .unset] [(.int (gat p3)), (.ref b1)])) _
            refine XS.iload X268.here hx rfl (hb hby at_284) rfl ?_
            show Steps p.tables e below (T268.setTop (mkF m 286 #[.val (.int p0), .val (.int p1), .val (.int p2), .val (.int p3), .val (.ref b1), .val (.int (gend p0 p3)), .val (.int (gat p3)), .val (.int (4 : Int32)), .val (.ref b28), .val (.ref b239), .unset, .unset] [(.int (gend p0 p3)), (.int (gat p3)), (.ref b1)])) _
            refine XS.aload X268.here hx rfl (hb hby at_286) rfl rfl ?_
            show Steps p.tables e below (T268.setTop (mkF m 288 #[.val (.int p0), .val (.int p1), .val (.int p2), .val (.int p3), .val (.ref b1), .val (.int (gend p0 p3)), .val (.int (gat p3)), .val (.int (4 : Int32)), .val (.ref b28), .val (.ref b239), .unset, .unset] [(.ref b239), (.int (gend p0 p3)), (.int (gat p3)), (.ref b1)])) _
            refine st277 _ ?_
            show Steps p.tables e below (T277.setTop (mkF m 291 #[.val (.int p0), .val (.int p1), .val (.int p2), .val (.int p3), .val (.ref b1), .val (.int (gend p0 p3)), .val (.int (gat p3)), .val (.int (4 : Int32)), .val (.ref b28), .val (.ref b239), .unset, .unset] [(.ref e277b)])) _
            refine XS.astore X277.here hx rfl (hb hby at_291) rfl rfl (l' := #[.val (.int p0), .val (.int p1), .val (.int p2), .val (.int p3), .val (.ref b1), .val (.int (gend p0 p3)), .val (.int (gat p3)), .val (.int (4 : Int32)), .val (.ref b28), .val (.ref b239), .val (.ref e277b), .unset]) rfl ?_
            show Steps p.tables e below (T277.setTop (mkF m 293 #[.val (.int p0), .val (.int p1), .val (.int p2), .val (.int p3), .val (.ref b1), .val (.int (gend p0 p3)), .val (.int (gat p3)), .val (.int (4 : Int32)), .val (.ref b28), .val (.ref b239), .val (.ref e277b), .unset] [])) _
            refine XS.aload X277.here hx rfl (hb hby at_293) rfl rfl ?_
            show Steps p.tables e below (T277.setTop (mkF m 295 #[.val (.int p0), .val (.int p1), .val (.int p2), .val (.int p3), .val (.ref b1), .val (.int (gend p0 p3)), .val (.int (gat p3)), .val (.int (4 : Int32)), .val (.ref b28), .val (.ref b239), .val (.ref e277b), .unset] [(.ref e277b)])) _
            refine XS.ifnullNo X277.here hx rfl (hb hby at_295) rfl ?_
            show Steps p.tables e below (T277.setTop (mkF m 298 #[.val (.int p0), .val (.int p1), .val (.int p2), .val (.int p3), .val (.ref b1), .val (.int (gend p0 p3)), .val (.int (gat p3)), .val (.int (4 : Int32)), .val (.ref b28), .val (.ref b239), .val (.ref e277b), .unset] [])) _
            refine XS.aload X277.here hx rfl (hb hby at_298) rfl rfl ?_
            show Steps p.tables e below (T277.setTop (mkF m 300 #[.val (.int p0), .val (.int p1), .val (.int p2), .val (.int p3), .val (.ref b1), .val (.int (gend p0 p3)), .val (.int (gat p3)), .val (.int (4 : Int32)), .val (.ref b28), .val (.ref b239), .val (.ref e277b), .unset] [(.ref e277b)])) _
            refine iaLen X277 hx hZ rfl A277q (g := (mkF m 300 #[.val (.int p0), .val (.int p1), .val (.int p2), .val (.int p3), .val (.ref b1), .val (.int (gend p0 p3)), .val (.int (gat p3)), .val (.int (4 : Int32)), .val (.ref b28), .val (.ref b239), .val (.ref e277b), .unset] [(.ref e277b)])) rfl rfl (hb hby at_300) _ ?_
            show Steps p.tables e below (T277.setTop (mkF m 301 #[.val (.int p0), .val (.int p1), .val (.int p2), .val (.int p3), .val (.ref b1), .val (.int (gend p0 p3)), .val (.int (gat p3)), .val (.int (4 : Int32)), .val (.ref b28), .val (.ref b239), .val (.ref e277b), .unset] [(.int (4 : Int32))])) _
            refine XS.iload X277.here hx rfl (hb hby at_301) rfl ?_
            show Steps p.tables e below (T277.setTop (mkF m 303 #[.val (.int p0), .val (.int p1), .val (.int p2), .val (.int p3), .val (.ref b1), .val (.int (gend p0 p3)), .val (.int (gat p3)), .val (.int (4 : Int32)), .val (.ref b28), .val (.ref b239), .val (.ref e277b), .unset] [(.int (4 : Int32)), (.int (4 : Int32))])) _
            refine XS.icmpYes X277.here hx rfl (pc0 := 303) (pc' := 308) rfl (hb hby at_303) rfl (teq (rfl : (4 : Int32) = (4 : Int32))).1 (by decide) (by decide) ?_
            show Steps p.tables e below (T277.setTop (mkF m 308 #[.val (.int p0), .val (.int p1), .val (.int p2), .val (.int p3), .val (.ref b1), .val (.int (gend p0 p3)), .val (.int (gat p3)), .val (.int (4 : Int32)), .val (.ref b28), .val (.ref b239), .val (.ref e277b), .unset] [])) _
            refine XS.iconst X277.here hx rfl (hb hby at_308) ?_
            show Steps p.tables e below (T277.setTop (mkF m 309 #[.val (.int p0), .val (.int p1), .val (.int p2), .val (.int p3), .val (.ref b1), .val (.int (gend p0 p3)), .val (.int (gat p3)), .val (.int (4 : Int32)), .val (.ref b28), .val (.ref b239), .val (.ref e277b), .unset] [(.int (0 : Int32))])) _
            refine XS.istore X277.here hx rfl (hb hby at_309) rfl (l' := #[.val (.int p0), .val (.int p1), .val (.int p2), .val (.int p3), .val (.ref b1), .val (.int (gend p0 p3)), .val (.int (gat p3)), .val (.int (4 : Int32)), .val (.ref b28), .val (.ref b239), .val (.ref e277b), .val (.int (0 : Int32))]) rfl ?_
            show Steps p.tables e below (T277.setTop (mkF m 311 #[.val (.int p0), .val (.int p1), .val (.int p2), .val (.int p3), .val (.ref b1), .val (.int (gend p0 p3)), .val (.int (gat p3)), .val (.int (4 : Int32)), .val (.ref b28), .val (.ref b239), .val (.ref e277b), .val (.int (0 : Int32))] [])) _
            refine XS.iload X277.here hx rfl (hb hby at_311) rfl ?_
            show Steps p.tables e below (T277.setTop (mkF m 313 #[.val (.int p0), .val (.int p1), .val (.int p2), .val (.int p3), .val (.ref b1), .val (.int (gend p0 p3)), .val (.int (gat p3)), .val (.int (4 : Int32)), .val (.ref b28), .val (.ref b239), .val (.ref e277b), .val (.int (0 : Int32))] [(.int (0 : Int32))])) _
            refine XS.iload X277.here hx rfl (hb hby at_313) rfl ?_
            show Steps p.tables e below (T277.setTop (mkF m 315 #[.val (.int p0), .val (.int p1), .val (.int p2), .val (.int p3), .val (.ref b1), .val (.int (gend p0 p3)), .val (.int (gat p3)), .val (.int (4 : Int32)), .val (.ref b28), .val (.ref b239), .val (.ref e277b), .val (.int (0 : Int32))] [(.int (4 : Int32)), (.int (0 : Int32))])) _
            refine XS.icmpNo X277.here hx rfl (hb hby at_315) rfl (tlt (by decide : (0 : Int32) < (4 : Int32))).2.1 ?_
            show Steps p.tables e below (T277.setTop (mkF m 318 #[.val (.int p0), .val (.int p1), .val (.int p2), .val (.int p3), .val (.ref b1), .val (.int (gend p0 p3)), .val (.int (gat p3)), .val (.int (4 : Int32)), .val (.ref b28), .val (.ref b239), .val (.ref e277b), .val (.int (0 : Int32))] [])) _
            refine XS.aload X277.here hx rfl (hb hby at_318) rfl rfl ?_
            show Steps p.tables e below (T277.setTop (mkF m 320 #[.val (.int p0), .val (.int p1), .val (.int p2), .val (.int p3), .val (.ref b1), .val (.int (gend p0 p3)), .val (.int (gat p3)), .val (.int (4 : Int32)), .val (.ref b28), .val (.ref b239), .val (.ref e277b), .val (.int (0 : Int32))] [(.ref b1)])) _
            refine XS.iload X277.here hx rfl (hb hby at_320) rfl ?_
            show Steps p.tables e below (T277.setTop (mkF m 322 #[.val (.int p0), .val (.int p1), .val (.int p2), .val (.int p3), .val (.ref b1), .val (.int (gend p0 p3)), .val (.int (gat p3)), .val (.int (4 : Int32)), .val (.ref b28), .val (.ref b239), .val (.ref e277b), .val (.int (0 : Int32))] [(.int (gat p3)), (.ref b1)])) _
            refine XS.iconst X277.here hx rfl (hb hby at_322) ?_
            show Steps p.tables e below (T277.setTop (mkF m 323 #[.val (.int p0), .val (.int p1), .val (.int p2), .val (.int p3), .val (.ref b1), .val (.int (gend p0 p3)), .val (.int (gat p3)), .val (.int (4 : Int32)), .val (.ref b28), .val (.ref b239), .val (.ref e277b), .val (.int (0 : Int32))] [(.int (0 : Int32)), (.int (gat p3)), (.ref b1)])) _
            refine XS.iload X277.here hx rfl (hb hby at_323) rfl ?_
            show Steps p.tables e below (T277.setTop (mkF m 325 #[.val (.int p0), .val (.int p1), .val (.int p2), .val (.int p3), .val (.ref b1), .val (.int (gend p0 p3)), .val (.int (gat p3)), .val (.int (4 : Int32)), .val (.ref b28), .val (.ref b239), .val (.ref e277b), .val (.int (0 : Int32))] [(.int (gend p0 p3)), (.int (0 : Int32)), (.int (gat p3)), (.ref b1)])) _
            refine st284 _ ?_
            exact kt
          by_cases hc286 : (f4 (gat p3) (0 : Int32) (gend p0 p3) fh a 0) = (0 : Int32)
          · skip
            have hok : ∀ j, j < 0 → okP fh a (gend p0 p3) j := by
              intro j hj
              exact absurd hj (Nat.not_lt_zero _)
            obtain rfl : kk = 0 := own_dd DDq (by decide) hok (Or.inr ((own_ok ha (i := 0) (by decide) ha7 (by decide)).mp hc286))
            obtain ⟨_, _, ⟨T287, L287, k287, n287⟩, -, X287, ⟨Lc287, hQ287, l287, y287, z287⟩, st287⟩ := Jvm.LawKit.callS X284 hx (y := (⟨"com/example/benchwire/benchwire/protocols/DelimitedTextDeclaredDelimitersPinLaw", "cell", "([B[B[BIII[B)Z"⟩ : MethodName)) hown (mvT hZ (hw _ (List.mem_of_getElem? (i := 18) rfl))) (mvT hZ (hw _ (List.mem_of_getElem? (i := 19) rfl))) (mvT hZ (hw _ (List.mem_of_getElem? (i := 3) rfl))) (mvT hZ (hw _ (List.mem_of_getElem? (i := 20) rfl))) (by decide) (backOf (W := 0) (rm3 l Z a0 hw [] e277b b239 b1 (gat p3) (0 : Int32) (0 : Int32) b28 (fun j => if j < 0 then fh (a + j) else fq j) fq fh fq 4 a 0 T277.heap A277q G283 G279 G281 ha (by decide) ha7 (by decide) (by decide) (fun z => absurd z (by decide))) hZ (hw _ (List.mem_of_getElem? (i := 20) rfl)) (hw _ (List.mem_of_getElem? (i := 3) rfl)) (by decide) (by decide)) (g := (mkF m 416 #[.val (.int p0), .val (.int p1), .val (.int p2), .val (.int p3), .val (.ref b1), .val (.int (gend p0 p3)), .val (.int (gat p3)), .val (.int (4 : Int32)), .val (.ref b28), .val (.ref b239), .val (.ref e277b), .val (.int (0 : Int32))] [(.ref b28), (.int (0 : Int32)), (.int (0 : Int32)), (.int (gat p3)), (.ref b1), (.ref b239), (.ref e277b)])) rfl (by rw [hml]; rfl) (argsL := [(.ref e277b), (.ref b239), (.ref b1), (.int (gat p3)), (.int (0 : Int32)), (.int (0 : Int32)), (.ref b28)]) (rest := []) (lenOf pd_2 rfl) rfl (by show 2 * 0 + _ ≤ _; exact Nat.le_of_eq rfl) (hb hby at_416) (fun _ _ => ⟨rfl, e284, (by decide : 4 + 0 ≤ _), (by decide : 18 + 0 ≤ _)⟩)
            dsimp only [Pt.U, Pt.locs, Pt.cells, Pt.slots] at X287 l287 y287 z287 st287 hQ287
            subst l287 y287 z287
            obtain ⟨rfl, rfl, e287⟩ := hQ287
            try rw [List.append_nil] at X287
            obtain ⟨_, _, ⟨T288, L288, k288, n288⟩, -, X288, ⟨Lc288, hQ288, l288, y288, z288⟩, st288⟩ := Jvm.LawKit.callS X287 hx (y := (⟨"com/example/benchwire/benchwire/protocols/DelimitedTextDeclaredDelimitersPinLaw", "cell", "([B[B[BIII[B)Z"⟩ : MethodName)) hown (mvT hZ (hw _ (List.mem_of_getElem? (i := 18) rfl))) (mvT hZ (hw _ (List.mem_of_getElem? (i := 19) rfl))) (mvT hZ (hw _ (List.mem_of_getElem? (i := 3) rfl))) (mvT hZ (hw _ (List.mem_of_getElem? (i := 20) rfl))) (by decide) (backOf (W := 0) (rm3 l Z a0 hw [] e277b b239 b1 (gat p3) (0 : Int32) (1 : Int32) b28 (fun j => if j < 0 then fh (a + j) else fq j) fq fh fq 4 a 1 T277.heap A277q G283 G279 G281 ha (by decide) ha7 (by decide) (by decide) (fun z => absurd z (by decide))) hZ (hw _ (List.mem_of_getElem? (i := 20) rfl)) (hw _ (List.mem_of_getElem? (i := 3) rfl)) (by decide) (by decide)) (g := (mkF m 435 #[.val (.int p0), .val (.int p1), .val (.int p2), .val (.int p3), .val (.ref b1), .val (.int (gend p0 p3)), .val (.int (gat p3)), .val (.int (4 : Int32)), .val (.ref b28), .val (.ref b239), .val (.ref e277b), .val (.int (0 : Int32))] [(.ref b28), (.int (1 : Int32)), (.int (0 : Int32)), (.int (gat p3)), (.ref b1), (.ref b239), (.ref e277b)])) rfl (by rw [hml]; rfl) (argsL := [(.ref e277b), (.ref b239), (.ref b1), (.int (gat p3)), (.int (0 : Int32)), (.int (1 : Int32)), (.ref b28)]) (rest := []) (lenOf pd_2 rfl) rfl (by show 2 * 0 + _ ≤ _; exact Nat.le_of_eq rfl) (hb hby at_435) (fun _ _ => ⟨rfl, e287, (by decide : 4 + 0 ≤ _), (by decide : 18 + 0 ≤ _)⟩)
            dsimp only [Pt.U, Pt.locs, Pt.cells, Pt.slots] at X288 l288 y288 z288 st288 hQ288
            subst l288 y288 z288
            obtain ⟨rfl, rfl, e288⟩ := hQ288
            try rw [List.append_nil] at X288
            obtain ⟨_, _, ⟨T289, L289, k289, n289⟩, -, X289, ⟨Lc289, hQ289, l289, y289, z289⟩, st289⟩ := Jvm.LawKit.callS X288 hx (y := (⟨"com/example/benchwire/benchwire/protocols/DelimitedTextDeclaredDelimitersPinLaw", "cell", "([B[B[BIII[B)Z"⟩ : MethodName)) hown (mvT hZ (hw _ (List.mem_of_getElem? (i := 18) rfl))) (mvT hZ (hw _ (List.mem_of_getElem? (i := 19) rfl))) (mvT hZ (hw _ (List.mem_of_getElem? (i := 3) rfl))) (mvT hZ (hw _ (List.mem_of_getElem? (i := 20) rfl))) (by decide) (backOf (W := 0) (rm3 l Z a0 hw [] e277b b239 b1 (gat p3) (0 : Int32) (2 : Int32) b28 (fun j => if j < 0 then fh (a + j) else fq j) fq fh fq 4 a 2 T277.heap A277q G283 G279 G281 ha (by decide) ha7 (by decide) (by decide) (fun z => absurd z (by decide))) hZ (hw _ (List.mem_of_getElem? (i := 20) rfl)) (hw _ (List.mem_of_getElem? (i := 3) rfl)) (by decide) (by decide)) (g := (mkF m 454 #[.val (.int p0), .val (.int p1), .val (.int p2), .val (.int p3), .val (.ref b1), .val (.int (gend p0 p3)), .val (.int (gat p3)), .val (.int (4 : Int32)), .val (.ref b28), .val (.ref b239), .val (.ref e277b), .val (.int (0 : Int32))] [(.ref b28), (.int (2 : Int32)), (.int (0 : Int32)), (.int (gat p3)), (.ref b1), (.ref b239), (.ref e277b)])) rfl (by rw [hml]; rfl) (argsL := [(.ref e277b), (.ref b239), (.ref b1), (.int (gat p3)), (.int (0 : Int32)), (.int (2 : Int32)), (.ref b28)]) (rest := []) (lenOf pd_2 rfl) rfl (by show 2 * 0 + _ ≤ _; exact Nat.le_of_eq rfl) (hb hby at_454) (fun _ _ => ⟨rfl, e288, (by decide : 4 + 0 ≤ _), (by decide : 18 + 0 ≤ _)⟩)
            dsimp only [Pt.U, Pt.locs, Pt.cells, Pt.slots] at X289 l289 y289 z289 st289 hQ289
            subst l289 y289 z289
            obtain ⟨rfl, rfl, e289⟩ := hQ289
            try rw [List.append_nil] at X289
            obtain ⟨_, _, ⟨T290, L290, k290, n290⟩, -, X290, ⟨Lc290, hQ290, l290, y290, z290⟩, st290⟩ := Jvm.LawKit.callS X289 hx (y := (⟨"com/example/benchwire/benchwire/protocols/DelimitedTextDeclaredDelimitersPinLaw", "cell", "([B[B[BIII[B)Z"⟩ : MethodName)) hown (mvT hZ (hw _ (List.mem_of_getElem? (i := 18) rfl))) (mvT hZ (hw _ (List.mem_of_getElem? (i := 19) rfl))) (mvT hZ (hw _ (List.mem_of_getElem? (i := 3) rfl))) (mvT hZ (hw _ (List.mem_of_getElem? (i := 20) rfl))) (by decide) (backOf (W := 0) (rm3 l Z a0 hw [] e277b b239 b1 (gat p3) (0 : Int32) (3 : Int32) b28 (fun j => if j < 0 then fh (a + j) else fq j) fq fh fq 4 a 3 T277.heap A277q G283 G279 G281 ha (by decide) ha7 (by decide) (by decide) (fun z => absurd z (by decide))) hZ (hw _ (List.mem_of_getElem? (i := 20) rfl)) (hw _ (List.mem_of_getElem? (i := 3) rfl)) (by decide) (by decide)) (g := (mkF m 473 #[.val (.int p0), .val (.int p1), .val (.int p2), .val (.int p3), .val (.ref b1), .val (.int (gend p0 p3)), .val (.int (gat p3)), .val (.int (4 : Int32)), .val (.ref b28), .val (.ref b239), .val (.ref e277b), .val (.int (0 : Int32))] [(.ref b28), (.int (3 : Int32)), (.int (0 : Int32)), (.int (gat p3)), (.ref b1), (.ref b239), (.ref e277b)])) rfl (by rw [hml]; rfl) (argsL := [(.ref e277b), (.ref b239), (.ref b1), (.int (gat p3)), (.int (0 : Int32)), (.int (3 : Int32)), (.ref b28)]) (rest := []) (lenOf pd_2 rfl) rfl (by show 2 * 0 + _ ≤ _; exact Nat.le_of_eq rfl) (hb hby at_473) (fun _ _ => ⟨rfl, e289, (by decide : 4 + 0 ≤ _), (by decide : 18 + 0 ≤ _)⟩)
            dsimp only [Pt.U, Pt.locs, Pt.cells, Pt.slots] at X290 l290 y290 z290 st290 hQ290
            subst l290 y290 z290
            obtain ⟨rfl, rfl, e290⟩ := hQ290
            try rw [List.append_nil] at X290
            have K291 : ∀ t, Steps p.tables e below (T290.setTop (mkF m 484 #[.val (.int p0), .val (.int p1), .val (.int p2), .val (.int p3), .val (.ref b1), .val (.int (gend p0 p3)), .val (.int (gat p3)), .val (.int (4 : Int32)), .val (.ref b28), .val (.ref b239), .val (.ref e277b), .val (.int (0 : Int32))] [(.int (1 : Int32))])) t → Steps p.tables e below (s₁.setTop (mkF m 0 #[.val (.int p0), .val (.int p1), .val (.int p2), .val (.int p3), .unset, .unset, .unset, .unset, .unset, .unset, .unset, .unset] [])) t := by
              intro t kt
              refine K285 _ ?_
              show Steps p.tables e below (T284.setTop (mkF m 328 #[.val (.int p0), .val (.int p1), .val (.int p2), .val (.int p3), .val (.ref b1), .val (.int (gend p0 p3)), .val (.int (gat p3)), .val (.int (4 : Int32)), .val (.ref b28), .val (.ref b239), .val (.ref e277b), .val (.int (0 : Int32))] [(.int (f4 (gat p3) (0 : Int32) (gend p0 p3) fh a 0))])) _
              refine XS.ifYes X284.here hx rfl (pc0 := 328) (pc' := 403) rfl (hb hby at_328) rfl ((if0 _ _).trans (teq hc286).1) (by decide) (by decide) ?_
              show Steps p.tables e below (T284.setTop (mkF m 403 #[.val (.int p0), .val (.int p1), .val (.int p2), .val (.int p3), .val (.ref b1), .val (.int (gend p0 p3)), .val (.int (gat p3)), .val (.int (4 : Int32)), .val (.ref b28), .val (.ref b239), .val (.ref e277b), .val (.int (0 : Int32))] [])) _
              refine XS.aload X284.here hx rfl (hb hby at_403) rfl rfl ?_
              show Steps p.tables e below (T284.setTop (mkF m 405 #[.val (.int p0), .val (.int p1), .val (.int p2), .val (.int p3), .val (.ref b1), .val (.int (gend p0 p3)), .val (.int (gat p3)), .val (.int (4 : Int32)), .val (.ref b28), .val (.ref b239), .val (.ref e277b), .val (.int (0 : Int32))] [(.ref e277b)])) _
              refine XS.aload X284.here hx rfl (hb hby at_405) rfl rfl ?_
              show Steps p.tables e below (T284.setTop (mkF m 407 #[.val (.int p0), .val (.int p1), .val (.int p2), .val (.int p3), .val (.ref b1), .val (.int (gend p0 p3)), .val (.int (gat p3)), .val (.int (4 : Int32)), .val (.ref b28), .val (.ref b239), .val (.ref e277b), .val (.int (0 : Int32))] [(.ref b239), (.ref e277b)])) _
              refine XS.aload X284.here hx rfl (hb hby at_407) rfl rfl ?_
              show Steps p.tables e below (T284.setTop (mkF m 409 #[.val (.int p0), .val (.int p1), .val (.int p2), .val (.int p3), .val (.ref b1), .val (.int (gend p0 p3)), .val (.int (gat p3)), .val (.int (4 : Int32)), .val (.ref b28), .val (.ref b239), .val (.ref e277b), .val (.int (0 : Int32))] [(.ref b1), (.ref b239), (.ref e277b)])) _
              refine XS.iload X284.here hx rfl (hb hby at_409) rfl ?_
              show Steps p.tables e below (T284.setTop (mkF m 411 #[.val (.int p0), .val (.int p1), .val (.int p2), .val (.int p3), .val (.ref b1), .val (.int (gend p0 p3)), .val (.int (gat p3)), .val (.int (4 : Int32)), .val (.ref b28), .val (.ref b239), .val (.ref e277b), .val (.int (0 : Int32))] [(.int (gat p3)), (.ref b1), (.ref b239), (.ref e277b)])) _
              refine XS.iload X284.here hx rfl (hb hby at_411) rfl ?_
              show Steps p.tables e below (T284.setTop (mkF m 413 #[.val (.int p0), .val (.int p1), .val (.int p2), .val (.int p3), .val (.ref b1), .val (.int (gend p0 p3)), .val (.int (gat p3)), .val (.int (4 : Int32)), .val (.ref b28), .val (.ref b239), .val (.ref e277b), .val (.int (0 : Int32))] [(.int (0 : Int32)), (.int (gat p3)), (.ref b1), (.ref b239), (.ref e277b)])) _
              refine XS.iconst X284.here hx rfl (hb hby at_413) ?_
              show Steps p.tables e below (T284.setTop (mkF m 414 #[.val (.int p0), .val (.int p1), .val (.int p2), .val (.int p3), .val (.ref b1), .val (.int (gend p0 p3)), .val (.int (gat p3)), .val (.int (4 : Int32)), .val (.ref b28), .val (.ref b239), .val (.ref e277b), .val (.int (0 : Int32))] [(.int (0 : Int32)), (.int (0 : Int32)), (.int (gat p3)), (.ref b1), (.ref b239), (.ref e277b)])) _
              refine XS.aload X284.here hx rfl (hb hby at_414) rfl rfl ?_
              show Steps p.tables e below (T284.setTop (mkF m 416 #[.val (.int p0), .val (.int p1), .val (.int p2), .val (.int p3), .val (.ref b1), .val (.int (gend p0 p3)), .val (.int (gat p3)), .val (.int (4 : Int32)), .val (.ref b28), .val (.ref b239), .val (.ref e277b), .val (.int (0 : Int32))] [(.ref b28), (.int (0 : Int32)), (.int (0 : Int32)), (.int (gat p3)), (.ref b1), (.ref b239), (.ref e277b)])) _
              refine st287 _ ?_
              show Steps p.tables e below (T287.setTop (mkF m 419 #[.val (.int p0), .val (.int p1), .val (.int p2), .val (.int p3), .val (.ref b1), .val (.int (gend p0 p3)), .val (.int (gat p3)), .val (.int (4 : Int32)), .val (.ref b28), .val (.ref b239), .val (.ref e277b), .val (.int (0 : Int32))] [(.int (f3 (gat p3) (0 : Int32) (0 : Int32) (fun j => if j < 0 then fh (a + j) else fq j) fq fh fq 4 a 0))])) _
              refine XS.ifNo X287.here hx rfl (hb hby at_419) rfl ((if0 _ _).trans (feq (show ¬ ((f3 (gat p3) (0 : Int32) (0 : Int32) (fun j => if j < 0 then fh (a + j) else fq j) fq fh fq 4 a 0) = (0 : Int32)) from (own_cell (K := 0) (i := 0) rfl rfl (by decide) (by decide) (fun j hj => rfl) (fun j hj => rfl)))).1) ?_
              show Steps p.tables e below (T287.setTop (mkF m 422 #[.val (.int p0), .val (.int p1), .val (.int p2), .val (.int p3), .val (.ref b1), .val (.int (gend p0 p3)), .val (.int (gat p3)), .val (.int (4 : Int32)), .val (.ref b28), .val (.ref b239), .val (.ref e277b), .val (.int (0 : Int32))] [])) _
              refine XS.aload X287.here hx rfl (hb hby at_422) rfl rfl ?_
              show Steps p.tables e below (T287.setTop (mkF m 424 #[.val (.int p0), .val (.int p1), .val (.int p2), .val (.int p3), .val (.ref b1), .val (.int (gend p0 p3)), .val (.int (gat p3)), .val (.int (4 : Int32)), .val (.ref b28), .val (.ref b239), .val (.ref e277b), .val (.int (0 : Int32))] [(.ref e277b)])) _
              refine XS.aload X287.here hx rfl (hb hby at_424) rfl rfl ?_
              show Steps p.tables e below (T287.setTop (mkF m 426 #[.val (.int p0), .val (.int p1), .val (.int p2), .val (.int p3), .val (.ref b1), .val (.int (gend p0 p3)), .val (.int (gat p3)), .val (.int (4 : Int32)), .val (.ref b28), .val (.ref b239), .val (.ref e277b), .val (.int (0 : Int32))] [(.ref b239), (.ref e277b)])) _
              refine XS.aload X287.here hx rfl (hb hby at_426) rfl rfl ?_
              show Steps p.tables e below (T287.setTop (mkF m 428 #[.val (.int p0), .val (.int p1), .val (.int p2), .val (.int p3), .val (.ref b1), .val (.int (gend p0 p3)), .val (.int (gat p3)), .val (.int (4 : Int32)), .val (.ref b28), .val (.ref b239), .val (.ref e277b), .val (.int (0 : Int32))] [(.ref b1), (.ref b239), (.ref e277b)])) _
              refine XS.iload X287.here hx rfl (hb hby at_428) rfl ?_
              show Steps p.tables e below (T287.setTop (mkF m 430 #[.val (.int p0), .val (.int p1), .val (.int p2), .val (.int p3), .val (.ref b1), .val (.int (gend p0 p3)), .val (.int (gat p3)), .val (.int (4 : Int32)), .val (.ref b28), .val (.ref b239), .val (.ref e277b), .val (.int (0 : Int32))] [(.int (gat p3)), (.ref b1), (.ref b239), (.ref e277b)])) _
              refine XS.iload X287.here hx rfl (hb hby at_430) rfl ?_
              show Steps p.tables e below (T287.setTop (mkF m 432 #[.val (.int p0), .val (.int p1), .val (.int p2), .val (.int p3), .val (.ref b1), .val (.int (gend p0 p3)), .val (.int (gat p3)), .val (.int (4 : Int32)), .val (.ref b28), .val (.ref b239), .val (.ref e277b), .val (.int (0 : Int32))] [(.int (0 : Int32)), (.int (gat p3)), (.ref b1), (.ref b239), (.ref e277b)])) _
              refine XS.iconst X287.here hx rfl (hb hby at_432) ?_
              show Steps p.tables e below (T287.setTop (mkF m 433 #[.val (.int p0), .val (.int p1), .val (.int p2), .val (.int p3), .val (.ref b1), .val (.int (gend p0 p3)), .val (.int (gat p3)), .val (.int (4 : Int32)), .val (.ref b28), .val (.ref b239), .val (.ref e277b), .val (.int (0 : Int32))] [(.int (1 : Int32)), (.int (0 : Int32)), (.int (gat p3)), (.ref b1), (.ref b239), (.ref e277b)])) _
              refine XS.aload X287.here hx rfl (hb hby at_433) rfl rfl ?_
              show Steps p.tables e below (T287.setTop (mkF m 435 #[.val (.int p0), .val (.int p1), .val (.int p2), .val (.int p3), .val (.ref b1), .val (.int (gend p0 p3)), .val (.int (gat p3)), .val (.int (4 : Int32)), .val (.ref b28), .val (.ref b239), .val (.ref e277b), .val (.int (0 : Int32))] [(.ref b28), (.int (1 : Int32)), (.int (0 : Int32)), (.int (gat p3)), (.ref b1), (.ref b239), (.ref e277b)])) _
              refine st288 _ ?_
              show Steps p.tables e below (T288.setTop (mkF m 438 #[.val (.int p0), .val (.int p1), .val (.int p2), .val (.int p3), .val (.ref b1), .val (.int (gend p0 p3)), .val (.int (gat p3)), .val (.int (4 : Int32)), .val (.ref b28), .val (.ref b239), .val (.ref e277b), .val (.int (0 : Int32))] [(.int (f3 (gat p3) (0 : Int32) (1 : Int32) (fun j => if j < 0 then fh (a + j) else fq j) fq fh fq 4 a 1))])) _
              refine XS.ifNo X288.here hx rfl (hb hby at_438) rfl ((if0 _ _).trans (feq (show ¬ ((f3 (gat p3) (0 : Int32) (1 : Int32) (fun j => if j < 0 then fh (a + j) else fq j) fq fh fq 4 a 1) = (0 : Int32)) from (own_cell (K := 0) (i := 1) rfl rfl (by decide) (by decide) (fun j hj => rfl) (fun j hj => rfl)))).1) ?_
              show Steps p.tables e below (T288.setTop (mkF m 441 #[.val (.int p0), .val (.int p1), .val (.int p2), .val (.int p3), .val (.ref b1), .val (.int (gend p0 p3)), .val (.int (gat p3)), .val (.int (4 : Int32)), .val (.ref b28), .val (.ref b239), .val (.ref e277b), .val (.int (0 : Int32))] [])) _
              refine XS.aload X288.here hx rfl (hb hby at_441) rfl rfl ?_
              show Steps p.tables e below (T288.setTop (mkF m 443 #[.val (.int p0), .val (.int p1), .val (.int p2), .val (.int p3), .val (.ref b1), .val (.int (gend p0 p3)), .val (.int (gat p3)), .val (.int (4 : Int32)), .val (.ref b28), .val (.ref b239), .val (.ref e277b), .val (.int (0 : Int32))] [(.ref e277b)])) _
              refine XS.aload X288.here hx rfl (hb hby at_443) rfl rfl ?_
              show Steps p.tables e below (T288.setTop (mkF m 445 #[.val (.int p0), .val (.int p1), .val (.int p2), .val (.int p3), .val (.ref b1), .val (.int (gend p0 p3)), .val (.int (gat p3)), .val (.int (4 : Int32)), .val (.ref b28), .val (.ref b239), .val (.ref e277b), .val (.int (0 : Int32))] [(.ref b239), (.ref e277b)])) _
              refine XS.aload X288.here hx rfl (hb hby at_445) rfl rfl ?_
              show Steps p.tables e below (T288.setTop (mkF m 447 #[.val (.int p0), .val (.int p1), .val (.int p2), .val (.int p3), .val (.ref b1), .val (.int (gend p0 p3)), .val (.int (gat p3)), .val (.int (4 : Int32)), .val (.ref b28), .val (.ref b239), .val (.ref e277b), .val (.int (0 : Int32))] [(.ref b1), (.ref b239), (.ref e277b)])) _
              refine XS.iload X288.here hx rfl (hb hby at_447) rfl ?_
              show Steps p.tables e below (T288.setTop (mkF m 449 #[.val (.int p0), .val (.int p1), .val (.int p2), .val (.int p3), .val (.ref b1), .val (.int (gend p0 p3)), .val (.int (gat p3)), .val (.int (4 : Int32)), .val (.ref b28), .val (.ref b239), .val (.ref e277b), .val (.int (0 : Int32))] [(.int (gat p3)), (.ref b1), (.ref b239), (.ref e277b)])) _
              refine XS.iload X288.here hx rfl (hb hby at_449) rfl ?_
              show Steps p.tables e below (T288.setTop (mkF m 451 #[.val (.int p0), .val (.int p1), .val (.int p2), .val (.int p3), .val (.ref b1), .val (.int (gend p0 p3)), .val (.int (gat p3)), .val (.int (4 : Int32)), .val (.ref b28), .val (.ref b239), .val (.ref e277b), .val (.int (0 : Int32))] [(.int (0 : Int32)), (.int (gat p3)), (.ref b1), (.ref b239), (.ref e277b)])) _
              refine XS.iconst X288.here hx rfl (hb hby at_451) ?_
              show Steps p.tables e below (T288.setTop (mkF m 452 #[.val (.int p0), .val (.int p1), .val (.int p2), .val (.int p3), .val (.ref b1), .val (.int (gend p0 p3)), .val (.int (gat p3)), .val (.int (4 : Int32)), .val (.ref b28), .val (.ref b239), .val (.ref e277b), .val (.int (0 : Int32))] [(.int (2 : Int32)), (.int (0 : Int32)), (.int (gat p3)), (.ref b1), (.ref b239), (.ref e277b)])) _
              refine XS.aload X288.here hx rfl (hb hby at_452) rfl rfl ?_
              show Steps p.tables e below (T288.setTop (mkF m 454 #[.val (.int p0), .val (.int p1), .val (.int p2), .val (.int p3), .val (.ref b1), .val (.int (gend p0 p3)), .val (.int (gat p3)), .val (.int (4 : Int32)), .val (.ref b28), .val (.ref b239), .val (.ref e277b), .val (.int (0 : Int32))] [(.ref b28), (.int (2 : Int32)), (.int (0 : Int32)), (.int (gat p3)), (.ref b1), (.ref b239), (.ref e277b)])) _
              refine st289 _ ?_
              show Steps p.tables e below (T289.setTop (mkF m 457 #[.val (.int p0), .val (.int p1), .val (.int p2), .val (.int p3), .val (.ref b1), .val (.int (gend p0 p3)), .val (.int (gat p3)), .val (.int (4 : Int32)), .val (.ref b28), .val (.ref b239), .val (.ref e277b), .val (.int (0 : Int32))] [(.int (f3 (gat p3) (0 : Int32) (2 : Int32) (fun j => if j < 0 then fh (a + j) else fq j) fq fh fq 4 a 2))])) _
              refine XS.ifNo X289.here hx rfl (hb hby at_457) rfl ((if0 _ _).trans (feq (show ¬ ((f3 (gat p3) (0 : Int32) (2 : Int32) (fun j => if j < 0 then fh (a + j) else fq j) fq fh fq 4 a 2) = (0 : Int32)) from (own_cell (K := 0) (i := 2) rfl rfl (by decide) (by decide) (fun j hj => rfl) (fun j hj => rfl)))).1) ?_
              show Steps p.tables e below (T289.setTop (mkF m 460 #[.val (.int p0), .val (.int p1), .val (.int p2), .val (.int p3), .val (.ref b1), .val (.int (gend p0 p3)), .val (.int (gat p3)), .val (.int (4 : Int32)), .val (.ref b28), .val (.ref b239), .val (.ref e277b), .val (.int (0 : Int32))] [])) _
              refine XS.aload X289.here hx rfl (hb hby at_460) rfl rfl ?_
              show Steps p.tables e below (T289.setTop (mkF m 462 #[.val (.int p0), .val (.int p1), .val (.int p2), .val (.int p3), .val (.ref b1), .val (.int (gend p0 p3)), .val (.int (gat p3)), .val (.int (4 : Int32)), .val (.ref b28), .val (.ref b239), .val (.ref e277b), .val (.int (0 : Int32))] [(.ref e277b)])) _
              refine XS.aload X289.here hx rfl (hb hby at_462) rfl rfl ?_
              show Steps p.tables e below (T289.setTop (mkF m 464 #[.val (.int p0), .val (.int p1), .val (.int p2), .val (.int p3), .val (.ref b1), .val (.int (gend p0 p3)), .val (.int (gat p3)), .val (.int (4 : Int32)), .val (.ref b28), .val (.ref b239), .val (.ref e277b), .val (.int (0 : Int32))] [(.ref b239), (.ref e277b)])) _
              refine XS.aload X289.here hx rfl (hb hby at_464) rfl rfl ?_
              show Steps p.tables e below (T289.setTop (mkF m 466 #[.val (.int p0), .val (.int p1), .val (.int p2), .val (.int p3), .val (.ref b1), .val (.int (gend p0 p3)), .val (.int (gat p3)), .val (.int (4 : Int32)), .val (.ref b28), .val (.ref b239), .val (.ref e277b), .val (.int (0 : Int32))] [(.ref b1), (.ref b239), (.ref e277b)])) _
              refine XS.iload X289.here hx rfl (hb hby at_466) rfl ?_
              show Steps p.tables e below (T289.setTop (mkF m 468 #[.val (.int p0), .val (.int p1), .val (.int p2), .val (.int p3), .val (.ref b1), .val (.int (gend p0 p3)), .val (.int (gat p3)), .val (.int (4 : Int32)), .val (.ref b28), .val (.ref b239), .val (.ref e277b), .val (.int (0 : Int32))] [(.int (gat p3)), (.ref b1), (.ref b239), (.ref e277b)])) _
              refine XS.iload X289.here hx rfl (hb hby at_468) rfl ?_
              show Steps p.tables e below (T289.setTop (mkF m 470 #[.val (.int p0), .val (.int p1), .val (.int p2), .val (.int p3), .val (.ref b1), .val (.int (gend p0 p3)), .val (.int (gat p3)), .val (.int (4 : Int32)), .val (.ref b28), .val (.ref b239), .val (.ref e277b), .val (.int (0 : Int32))] [(.int (0 : Int32)), (.int (gat p3)), (.ref b1), (.ref b239), (.ref e277b)])) _
              refine XS.iconst X289.here hx rfl (hb hby at_470) ?_
              show Steps p.tables e below (T289.setTop (mkF m 471 #[.val (.int p0), .val (.int p1), .val (.int p2), .val (.int p3), .val (.ref b1), .val (.int (gend p0 p3)), .val (.int (gat p3)), .val (.int (4 : Int32)), .val (.ref b28), .val (.ref b239), .val (.ref e277b), .val (.int (0 : Int32))] [(.int (3 : Int32)), (.int (0 : Int32)), (.int (gat p3)), (.ref b1), (.ref b239), (.ref e277b)])) _
              refine XS.aload X289.here hx rfl (hb hby at_471) rfl rfl ?_
              show Steps p.tables e below (T289.setTop (mkF m 473 #[.val (.int p0), .val (.int p1), .val (.int p2), .val (.int p3), .val (.ref b1), .val (.int (gend p0 p3)), .val (.int (gat p3)), .val (.int (4 : Int32)), .val (.ref b28), .val (.ref b239), .val (.ref e277b), .val (.int (0 : Int32))] [(.ref b28), (.int (3 : Int32)), (.int (0 : Int32)), (.int (gat p3)), (.ref b1), (.ref b239), (.ref e277b)])) _
              refine st290 _ ?_
              show Steps p.tables e below (T290.setTop (mkF m 476 #[.val (.int p0), .val (.int p1), .val (.int p2), .val (.int p3), .val (.ref b1), .val (.int (gend p0 p3)), .val (.int (gat p3)), .val (.int (4 : Int32)), .val (.ref b28), .val (.ref b239), .val (.ref e277b), .val (.int (0 : Int32))] [(.int (f3 (gat p3) (0 : Int32) (3 : Int32) (fun j => if j < 0 then fh (a + j) else fq j) fq fh fq 4 a 3))])) _
              refine XS.ifNo X290.here hx rfl (hb hby at_476) rfl ((if0 _ _).trans (feq (show ¬ ((f3 (gat p3) (0 : Int32) (3 : Int32) (fun j => if j < 0 then fh (a + j) else fq j) fq fh fq 4 a 3) = (0 : Int32)) from (own_cell (K := 0) (i := 3) rfl rfl (by decide) (by decide) (fun j hj => rfl) (fun j hj => rfl)))).1) ?_
              show Steps p.tables e below (T290.setTop (mkF m 479 #[.val (.int p0), .val (.int p1), .val (.int p2), .val (.int p3), .val (.ref b1), .val (.int (gend p0 p3)), .val (.int (gat p3)), .val (.int (4 : Int32)), .val (.ref b28), .val (.ref b239), .val (.ref e277b), .val (.int (0 : Int32))] [])) _
              refine XS.iconst X290.here hx rfl (hb hby at_479) ?_
              show Steps p.tables e below (T290.setTop (mkF m 480 #[.val (.int p0), .val (.int p1), .val (.int p2), .val (.int p3), .val (.ref b1), .val (.int (gend p0 p3)), .val (.int (gat p3)), .val (.int (4 : Int32)), .val (.ref b28), .val (.ref b239), .val (.ref e277b), .val (.int (0 : Int32))] [(.int (1 : Int32))])) _
              refine XS.goto X290.here hx rfl (pc0 := 480) (pc' := 484) rfl (hb hby at_480) (by decide) (by decide) ?_
              exact kt
            obtain ⟨fsQ, hr, hrun, hended, hW, hsame⟩ := X290.leave (v := some (.int (1 : Int32))) (fun h => by rw [Bd.returns] at h; cases h)
            refine ⟨_, _, pre0 _ (K291 _ ?_), hrun, hended, _, _, rfl, ?_, ⟨_, rfl⟩, hW, hsame.mono (by decide) (by decide)⟩
            · show Steps p.tables e below (T290.setTop (mkF m 484 #[.val (.int p0), .val (.int p1), .val (.int p2), .val (.int p3), .val (.ref b1), .val (.int (gend p0 p3)), .val (.int (gat p3)), .val (.int (4 : Int32)), .val (.ref b28), .val (.ref b239), .val (.ref e277b), .val (.int (0 : Int32))] [(.int (1 : Int32))])) _
              exact retN X290 hx (t := .boolean) Bd.returns (by simp) (hb hby at_484) hr
            · show Q0 Z p0 p1 p2 p3  h0 n0 _ T290.heap _
              rw [e290]
              exact ⟨rfl, N277⟩
          · skip
            obtain ⟨_, _, ⟨T292, L292, k292, n292⟩, -, X292, ⟨Lc292, hQ292, l292, y292, z292⟩, st292⟩ := Jvm.LawKit.callS X284 hx (y := (⟨"com/example/benchwire/benchwire/protocols/DelimitedTextDeclaredDelimitersPinLaw", "ok", "([BIIB)Z"⟩ : MethodName)) hown (mvT hZ (hw _ (List.mem_of_getElem? (i := 21) rfl))) (mvT hZ (hw _ (List.mem_of_getElem? (i := 22) rfl))) (mvT hZ (hw _ (List.mem_of_getElem? (i := 3) rfl))) (mvT hZ (hw _ (List.mem_of_getElem? (i := 23) rfl))) (by decide) (backOf (W := 0) (rm4 l Z a0 hw [] b1 (gat p3) (1 : Int32) (gend p0 p3) fh a 1 T277.heap G279 ha (by decide) ha7 (by decide)) hZ (hw _ (List.mem_of_getElem? (i := 23) rfl)) (hw _ (List.mem_of_getElem? (i := 3) rfl)) (by decide) (by decide)) (g := (mkF m 348 #[.val (.int p0), .val (.int p1), .val (.int p2), .val (.int p3), .val (.ref b1), .val (.int (gend p0 p3)), .val (.int (gat p3)), .val (.int (4 : Int32)), .val (.ref b28), .val (.ref b239), .val (.ref e277b), .val (.int (1 : Int32))] [(.int (gend p0 p3)), (.int (1 : Int32)), (.int (gat p3)), (.ref b1)])) rfl (by rw [hml]; rfl) (argsL := [(.ref b1), (.int (gat p3)), (.int (1 : Int32)), (.int (gend p0 p3))]) (rest := []) (lenOf pd_3 rfl) rfl (by show 2 * 0 + _ ≤ _; exact Nat.le_of_eq rfl) (hb hby at_348) (fun _ _ => ⟨rfl, e284, (by decide : 4 + 0 ≤ _), (by decide : 18 + 0 ≤ _)⟩)
            dsimp only [Pt.U, Pt.locs, Pt.cells, Pt.slots] at X292 l292 y292 z292 st292 hQ292
            subst l292 y292 z292
            obtain ⟨rfl, rfl, e292⟩ := hQ292
            try rw [List.append_nil] at X292
            have K293 : ∀ t, Steps p.tables e below (T292.setTop (mkF m 351 #[.val (.int p0), .val (.int p1), .val (.int p2), .val (.int p3), .val (.ref b1), .val (.int (gend p0 p3)), .val (.int (gat p3)), .val (.int (4 : Int32)), .val (.ref b28), .val (.ref b239), .val (.ref e277b), .val (.int (1 : Int32))] [(.int (f4 (gat p3) (1 : Int32) (gend p0 p3) fh a 1))])) t → Steps p.tables e below (s₁.setTop (mkF m 0 #[.val (.int p0), .val (.int p1), .val (.int p2), .val (.int p3), .unset, .unset, .unset, .unset, .unset, .unset, .unset, .unset] [])) t := by
              intro t kt
              refine K285 _ ?_
              show Steps p.tables e below (T284.setTop (mkF m 328 #[.val (.int p0), .val (.int p1), .val (.int p2), .val (.int p3), .val (.ref b1), .val (.int (gend p0 p3)), .val (.int (gat p3)), .val (.int (4 : Int32)), .val (.ref b28), .val (.ref b239), .val (.ref e277b), .val (.int (0 : Int32))] [(.int (f4 (gat p3) (0 : Int32) (gend p0 p3) fh a 0))])) _
              refine XS.ifNo X284.here hx rfl (hb hby at_328) rfl ((if0 _ _).trans (feq hc286).1) ?_
              show Steps p.tables e below (T284.setTop (mkF m 331 #[.val (.int p0), .val (.int p1), .val (.int p2), .val (.int p3), .val (.ref b1), .val (.int (gend p0 p3)), .val (.int (gat p3)), .val (.int (4 : Int32)), .val (.ref b28), .val (.ref b239), .val (.ref e277b), .val (.int (0 : Int32))] [])) _
              refine XS.iconst X284.here hx rfl (hb hby at_331) ?_
              show Steps p.tables e below (T284.setTop (mkF m 332 #[.val (.int p0), .val (.int p1), .val (.int p2), .val (.int p3), .val (.ref b1), .val (.int (gend p0 p3)), .val (.int (gat p3)), .val (.int (4 : Int32)), .val (.ref b28), .val (.ref b239), .val (.ref e277b), .val (.int (0 : Int32))] [(.int (1 : Int32))])) _
              refine XS.istore X284.here hx rfl (hb hby at_332) rfl (l' := #[.val (.int p0), .val (.int p1), .val (.int p2), .val (.int p3), .val (.ref b1), .val (.int (gend p0 p3)), .val (.int (gat p3)), .val (.int (4 : Int32)), .val (.ref b28), .val (.ref b239), .val (.ref e277b), .val (.int (1 : Int32))]) rfl ?_
              show Steps p.tables e below (T284.setTop (mkF m 334 #[.val (.int p0), .val (.int p1), .val (.int p2), .val (.int p3), .val (.ref b1), .val (.int (gend p0 p3)), .val (.int (gat p3)), .val (.int (4 : Int32)), .val (.ref b28), .val (.ref b239), .val (.ref e277b), .val (.int (1 : Int32))] [])) _
              refine XS.iload X284.here hx rfl (hb hby at_334) rfl ?_
              show Steps p.tables e below (T284.setTop (mkF m 336 #[.val (.int p0), .val (.int p1), .val (.int p2), .val (.int p3), .val (.ref b1), .val (.int (gend p0 p3)), .val (.int (gat p3)), .val (.int (4 : Int32)), .val (.ref b28), .val (.ref b239), .val (.ref e277b), .val (.int (1 : Int32))] [(.int (1 : Int32))])) _
              refine XS.iload X284.here hx rfl (hb hby at_336) rfl ?_
              show Steps p.tables e below (T284.setTop (mkF m 338 #[.val (.int p0), .val (.int p1), .val (.int p2), .val (.int p3), .val (.ref b1), .val (.int (gend p0 p3)), .val (.int (gat p3)), .val (.int (4 : Int32)), .val (.ref b28), .val (.ref b239), .val (.ref e277b), .val (.int (1 : Int32))] [(.int (4 : Int32)), (.int (1 : Int32))])) _
              refine XS.icmpNo X284.here hx rfl (hb hby at_338) rfl (tlt (by decide : (1 : Int32) < (4 : Int32))).2.1 ?_
              show Steps p.tables e below (T284.setTop (mkF m 341 #[.val (.int p0), .val (.int p1), .val (.int p2), .val (.int p3), .val (.ref b1), .val (.int (gend p0 p3)), .val (.int (gat p3)), .val (.int (4 : Int32)), .val (.ref b28), .val (.ref b239), .val (.ref e277b), .val (.int (1 : Int32))] [])) _
              refine XS.aload X284.here hx rfl (hb hby at_341) rfl rfl ?_
              show Steps p.tables e below (T284.setTop (mkF m 343 #[.val (.int p0), .val (.int p1), .val (.int p2), .val (.int p3), .val (.ref b1), .val (.int (gend p0 p3)), .val (.int (gat p3)), .val (.int (4 : Int32)), .val (.ref b28), .val (.ref b239), .val (.ref e277b), .val (.int (1 : Int32))] [(.ref b1)])) _
              refine XS.iload X284.here hx rfl (hb hby at_343) rfl ?_
              show Steps p.tables e below (T284.setTop (mkF m 345 #[.val (.int p0), .val (.int p1), .val (.int p2), .val (.int p3), .val (.ref b1), .val (.int (gend p0 p3)), .val (.int (gat p3)), .val (.int (4 : Int32)), .val (.ref b28), .val (.ref b239), .val (.ref e277b), .val (.int (1 : Int32))] [(.int (gat p3)), (.ref b1)])) _
              refine XS.iconst X284.here hx rfl (hb hby at_345) ?_
              show Steps p.tables e below (T284.setTop (mkF m 346 #[.val (.int p0), .val (.int p1), .val (.int p2), .val (.int p3), .val (.ref b1), .val (.int (gend p0 p3)), .val (.int (gat p3)), .val (.int (4 : Int32)), .val (.ref b28), .val (.ref b239), .val (.ref e277b), .val (.int (1 : Int32))] [(.int (1 : Int32)), (.int (gat p3)), (.ref b1)])) _
              refine XS.iload X284.here hx rfl (hb hby at_346) rfl ?_
              show Steps p.tables e below (T284.setTop (mkF m 348 #[.val (.int p0), .val (.int p1), .val (.int p2), .val (.int p3), .val (.ref b1), .val (.int (gend p0 p3)), .val (.int (gat p3)), .val (.int (4 : Int32)), .val (.ref b28), .val (.ref b239), .val (.ref e277b), .val (.int (1 : Int32))] [(.int (gend p0 p3)), (.int (1 : Int32)), (.int (gat p3)), (.ref b1)])) _
              refine st292 _ ?_
              exact kt
            by_cases hc294 : (f4 (gat p3) (1 : Int32) (gend p0 p3) fh a 1) = (0 : Int32)
            · skip
              have hok : ∀ j, j < 1 → okP fh a (gend p0 p3) j := by
                intro j hj
                rcases (by omega : j = 0) with rfl
                · exact (Classical.byContradiction fun y => hc286 ((own_ok ha (i := 0) (by decide) ha7 (by decide)).mpr y))
              obtain rfl : kk = 1 := own_dd DDq (by decide) hok (Or.inr ((own_ok ha (i := 1) (by decide) ha7 (by decide)).mp hc294))
              obtain ⟨_, _, ⟨T295, L295, k295, n295⟩, -, X295, ⟨Lc295, hQ295, l295, y295, z295⟩, st295⟩ := Jvm.LawKit.callS X292 hx (y := (⟨"com/example/benchwire/benchwire/protocols/DelimitedTextDeclaredDelimitersPinLaw", "cell", "([B[B[BIII[B)Z"⟩ : MethodName)) hown (mvT hZ (hw _ (List.mem_of_getElem? (i := 18) rfl))) (mvT hZ (hw _ (List.mem_of_getElem? (i := 19) rfl))) (mvT hZ (hw _ (List.mem_of_getElem? (i := 3) rfl))) (mvT hZ (hw _ (List.mem_of_getElem? (i := 20) rfl))) (by decide) (backOf (W := 0) (rm3 l Z a0 hw [] e277b b239 b1 (gat p3) (1 : Int32) (0 : Int32) b28 (fun j => if j < 1 then fh (a + j) else fq j) fq fh fq 4 a 0 T277.heap A277q G283 G279 G281 ha (by decide) ha7 (by decide) (by decide) (fun _ => (hok 0 (by decide)).1)) hZ (hw _ (List.mem_of_getElem? (i := 20) rfl)) (hw _ (List.mem_of_getElem? (i := 3) rfl)) (by decide) (by decide)) (g := (mkF m 416 #[.val (.int p0), .val (.int p1), .val (.int p2), .val (.int p3), .val (.ref b1), .val (.int (gend p0 p3)), .val (.int (gat p3)), .val (.int (4 : Int32)), .val (.ref b28), .val (.ref b239), .val (.ref e277b), .val (.int (1 : Int32))] [(.ref b28), (.int (0 : Int32)), (.int (1 : Int32)), (.int (gat p3)), (.ref b1), (.ref b239), (.ref e277b)])) rfl (by rw [hml]; rfl) (argsL := [(.ref e277b), (.ref b239), (.ref b1), (.int (gat p3)), (.int (1 : Int32)), (.int (0 : Int32)), (.ref b28)]) (rest := []) (lenOf pd_2 rfl) rfl (by show 2 * 0 + _ ≤ _; exact Nat.le_of_eq rfl) (hb hby at_416) (fun _ _ => ⟨rfl, e292, (by decide : 4 + 0 ≤ _), (by decide : 18 + 0 ≤ _)⟩)
              dsimp only [Pt.U, Pt.locs, Pt.cells, Pt.slots] at X295 l295 y295 z295 st295 hQ295
              subst l295 y295 z295
              obtain ⟨rfl, rfl, e295⟩ := hQ295
              try rw [List.append_nil] at X295
              obtain ⟨_, _, ⟨T296, L296, k296, n296⟩, -, X296, ⟨Lc296, hQ296, l296, y296, z296⟩, st296⟩ := Jvm.LawKit.callS X295 hx (y := (⟨"com/example/benchwire/benchwire/protocols/DelimitedTextDeclaredDelimitersPinLaw", "cell", "([B[B[BIII[B)Z"⟩ : MethodName)) hown (mvT hZ (hw _ (List.mem_of_getElem? (i := 18) rfl))) (mvT hZ (hw _ (List.mem_of_getElem? (i := 19) rfl))) (mvT hZ (hw _ (List.mem_of_getElem? (i := 3) rfl))) (mvT hZ (hw _ (List.mem_of_getElem? (i := 20) rfl))) (by decide) (backOf (W := 0) (rm3 l Z a0 hw [] e277b b239 b1 (gat p3) (1 : Int32) (1 : Int32) b28 (fun j => if j < 1 then fh (a + j) else fq j) fq fh fq 4 a 1 T277.heap A277q G283 G279 G281 ha (by decide) ha7 (by decide) (by decide) (fun z => absurd z (by decide))) hZ (hw _ (List.mem_of_getElem? (i := 20) rfl)) (hw _ (List.mem_of_getElem? (i := 3) rfl)) (by decide) (by decide)) (g := (mkF m 435 #[.val (.int p0), .val (.int p1), .val (.int p2), .val (.int p3), .val (.ref b1), .val (.int (gend p0 p3)), .val (.int (gat p3)), .val (.int (4 : Int32)), .val (.ref b28), .val (.ref b239), .val (.ref e277b), .val (.int (1 : Int32))] [(.ref b28), (.int (1 : Int32)), (.int (1 : Int32)), (.int (gat p3)), (.ref b1), (.ref b239), (.ref e277b)])) rfl (by rw [hml]; rfl) (argsL := [(.ref e277b), (.ref b239), (.ref b1), (.int (gat p3)), (.int (1 : Int32)), (.int (1 : Int32)), (.ref b28)]) (rest := []) (lenOf pd_2 rfl) rfl (by show 2 * 0 + _ ≤ _; exact Nat.le_of_eq rfl) (hb hby at_435) (fun _ _ => ⟨rfl, e295, (by decide : 4 + 0 ≤ _), (by decide : 18 + 0 ≤ _)⟩)
              dsimp only [Pt.U, Pt.locs, Pt.cells, Pt.slots] at X296 l296 y296 z296 st296 hQ296
              subst l296 y296 z296
              obtain ⟨rfl, rfl, e296⟩ := hQ296
              try rw [List.append_nil] at X296
              obtain ⟨_, _, ⟨T297, L297, k297, n297⟩, -, X297, ⟨Lc297, hQ297, l297, y297, z297⟩, st297⟩ := Jvm.LawKit.callS X296 hx (y := (⟨"com/example/benchwire/benchwire/protocols/DelimitedTextDeclaredDelimitersPinLaw", "cell", "([B[B[BIII[B)Z"⟩ : MethodName)) hown (mvT hZ (hw _ (List.mem_of_getElem? (i := 18) rfl))) (mvT hZ (hw _ (List.mem_of_getElem? (i := 19) rfl))) (mvT hZ (hw _ (List.mem_of_getElem? (i := 3) rfl))) (mvT hZ (hw _ (List.mem_of_getElem? (i := 20) rfl))) (by decide) (backOf (W := 0) (rm3 l Z a0 hw [] e277b b239 b1 (gat p3) (1 : Int32) (2 : Int32) b28 (fun j => if j < 1 then fh (a + j) else fq j) fq fh fq 4 a 2 T277.heap A277q G283 G279 G281 ha (by decide) ha7 (by decide) (by decide) (fun z => absurd z (by decide))) hZ (hw _ (List.mem_of_getElem? (i := 20) rfl)) (hw _ (List.mem_of_getElem? (i := 3) rfl)) (by decide) (by decide)) (g := (mkF m 454 #[.val (.int p0), .val (.int p1), .val (.int p2), .val (.int p3), .val (.ref b1), .val (.int (gend p0 p3)), .val (.int (gat p3)), .val (.int (4 : Int32)), .val (.ref b28), .val (.ref b239), .val (.ref e277b), .val (.int (1 : Int32))] [(.ref b28), (.int (2 : Int32)), (.int (1 : Int32)), (.int (gat p3)), (.ref b1), (.ref b239), (.ref e277b)])) rfl (by rw [hml]; rfl) (argsL := [(.ref e277b), (.ref b239), (.ref b1), (.int (gat p3)), (.int (1 : Int32)), (.int (2 : Int32)), (.ref b28)]) (rest := []) (lenOf pd_2 rfl) rfl (by show 2 * 0 + _ ≤ _; exact Nat.le_of_eq rfl) (hb hby at_454) (fun _ _ => ⟨rfl, e296, (by decide : 4 + 0 ≤ _), (by decide : 18 + 0 ≤ _)⟩)
              dsimp only [Pt.U, Pt.locs, Pt.cells, Pt.slots] at X297 l297 y297 z297 st297 hQ297
              subst l297 y297 z297
              obtain ⟨rfl, rfl, e297⟩ := hQ297
              try rw [List.append_nil] at X297
              obtain ⟨_, _, ⟨T298, L298, k298, n298⟩, -, X298, ⟨Lc298, hQ298, l298, y298, z298⟩, st298⟩ := Jvm.LawKit.callS X297 hx (y := (⟨"com/example/benchwire/benchwire/protocols/DelimitedTextDeclaredDelimitersPinLaw", "cell", "([B[B[BIII[B)Z"⟩ : MethodName)) hown (mvT hZ (hw _ (List.mem_of_getElem? (i := 18) rfl))) (mvT hZ (hw _ (List.mem_of_getElem? (i := 19) rfl))) (mvT hZ (hw _ (List.mem_of_getElem? (i := 3) rfl))) (mvT hZ (hw _ (List.mem_of_getElem? (i := 20) rfl))) (by decide) (backOf (W := 0) (rm3 l Z a0 hw [] e277b b239 b1 (gat p3) (1 : Int32) (3 : Int32) b28 (fun j => if j < 1 then fh (a + j) else fq j) fq fh fq 4 a 3 T277.heap A277q G283 G279 G281 ha (by decide) ha7 (by decide) (by decide) (fun z => absurd z (by decide))) hZ (hw _ (List.mem_of_getElem? (i := 20) rfl)) (hw _ (List.mem_of_getElem? (i := 3) rfl)) (by decide) (by decide)) (g := (mkF m 473 #[.val (.int p0), .val (.int p1), .val (.int p2), .val (.int p3), .val (.ref b1), .val (.int (gend p0 p3)), .val (.int (gat p3)), .val (.int (4 : Int32)), .val (.ref b28), .val (.ref b239), .val (.ref e277b), .val (.int (1 : Int32))] [(.ref b28), (.int (3 : Int32)), (.int (1 : Int32)), (.int (gat p3)), (.ref b1), (.ref b239), (.ref e277b)])) rfl (by rw [hml]; rfl) (argsL := [(.ref e277b), (.ref b239), (.ref b1), (.int (gat p3)), (.int (1 : Int32)), (.int (3 : Int32)), (.ref b28)]) (rest := []) (lenOf pd_2 rfl) rfl (by show 2 * 0 + _ ≤ _; exact Nat.le_of_eq rfl) (hb hby at_473) (fun _ _ => ⟨rfl, e297, (by decide : 4 + 0 ≤ _), (by decide : 18 + 0 ≤ _)⟩)
              dsimp only [Pt.U, Pt.locs, Pt.cells, Pt.slots] at X298 l298 y298 z298 st298 hQ298
              subst l298 y298 z298
              obtain ⟨rfl, rfl, e298⟩ := hQ298
              try rw [List.append_nil] at X298
              have K299 : ∀ t, Steps p.tables e below (T298.setTop (mkF m 484 #[.val (.int p0), .val (.int p1), .val (.int p2), .val (.int p3), .val (.ref b1), .val (.int (gend p0 p3)), .val (.int (gat p3)), .val (.int (4 : Int32)), .val (.ref b28), .val (.ref b239), .val (.ref e277b), .val (.int (1 : Int32))] [(.int (1 : Int32))])) t → Steps p.tables e below (s₁.setTop (mkF m 0 #[.val (.int p0), .val (.int p1), .val (.int p2), .val (.int p3), .unset, .unset, .unset, .unset, .unset, .unset, .unset, .unset] [])) t := by
                intro t kt
                refine K293 _ ?_
                show Steps p.tables e below (T292.setTop (mkF m 351 #[.val (.int p0), .val (.int p1), .val (.int p2), .val (.int p3), .val (.ref b1), .val (.int (gend p0 p3)), .val (.int (gat p3)), .val (.int (4 : Int32)), .val (.ref b28), .val (.ref b239), .val (.ref e277b), .val (.int (1 : Int32))] [(.int (f4 (gat p3) (1 : Int32) (gend p0 p3) fh a 1))])) _
                refine XS.ifYes X292.here hx rfl (pc0 := 351) (pc' := 403) rfl (hb hby at_351) rfl ((if0 _ _).trans (teq hc294).1) (by decide) (by decide) ?_
                show Steps p.tables e below (T292.setTop (mkF m 403 #[.val (.int p0), .val (.int p1), .val (.int p2), .val (.int p3), .val (.ref b1), .val (.int (gend p0 p3)), .val (.int (gat p3)), .val (.int (4 : Int32)), .val (.ref b28), .val (.ref b239), .val (.ref e277b), .val (.int (1 : Int32))] [])) _
                refine XS.aload X292.here hx rfl (hb hby at_403) rfl rfl ?_
                show Steps p.tables e below (T292.setTop (mkF m 405 #[.val (.int p0), .val (.int p1), .val (.int p2), .val (.int p3), .val (.ref b1), .val (.int (gend p0 p3)), .val (.int (gat p3)), .val (.int (4 : Int32)), .val (.ref b28), .val (.ref b239), .val (.ref e277b), .val (.int (1 : Int32))] [(.ref e277b)])) _
                refine XS.aload X292.here hx rfl (hb hby at_405) rfl rfl ?_
                show Steps p.tables e below (T292.setTop (mkF m 407 #[.val (.int p0), .val (.int p1), .val (.int p2), .val (.int p3), .val (.ref b1), .val (.int (gend p0 p3)), .val (.int (gat p3)), .val (.int (4 : Int32)), .val (.ref b28), .val (.ref b239), .val (.ref e277b), .val (.int (1 : Int32))] [(.ref b239), (.ref e277b)])) _
                refine XS.aload X292.here hx rfl (hb hby at_407) rfl rfl ?_
                show Steps p.tables e below (T292.setTop (mkF m 409 #[.val (.int p0), .val (.int p1), .val (.int p2), .val (.int p3), .val (.ref b1), .val (.int (gend p0 p3)), .val (.int (gat p3)), .val (.int (4 : Int32)), .val (.ref b28), .val (.ref b239), .val (.ref e277b), .val (.int (1 : Int32))] [(.ref b1), (.ref b239), (.ref e277b)])) _
                refine XS.iload X292.here hx rfl (hb hby at_409) rfl ?_
                show Steps p.tables e below (T292.setTop (mkF m 411 #[.val (.int p0), .val (.int p1), .val (.int p2), .val (.int p3), .val (.ref b1), .val (.int (gend p0 p3)), .val (.int (gat p3)), .val (.int (4 : Int32)), .val (.ref b28), .val (.ref b239), .val (.ref e277b), .val (.int (1 : Int32))] [(.int (gat p3)), (.ref b1), (.ref b239), (.ref e277b)])) _
                refine XS.iload X292.here hx rfl (hb hby at_411) rfl ?_
                show Steps p.tables e below (T292.setTop (mkF m 413 #[.val (.int p0), .val (.int p1), .val (.int p2), .val (.int p3), .val (.ref b1), .val (.int (gend p0 p3)), .val (.int (gat p3)), .val (.int (4 : Int32)), .val (.ref b28), .val (.ref b239), .val (.ref e277b), .val (.int (1 : Int32))] [(.int (1 : Int32)), (.int (gat p3)), (.ref b1), (.ref b239), (.ref e277b)])) _
                refine XS.iconst X292.here hx rfl (hb hby at_413) ?_
                show Steps p.tables e below (T292.setTop (mkF m 414 #[.val (.int p0), .val (.int p1), .val (.int p2), .val (.int p3), .val (.ref b1), .val (.int (gend p0 p3)), .val (.int (gat p3)), .val (.int (4 : Int32)), .val (.ref b28), .val (.ref b239), .val (.ref e277b), .val (.int (1 : Int32))] [(.int (0 : Int32)), (.int (1 : Int32)), (.int (gat p3)), (.ref b1), (.ref b239), (.ref e277b)])) _
                refine XS.aload X292.here hx rfl (hb hby at_414) rfl rfl ?_
                show Steps p.tables e below (T292.setTop (mkF m 416 #[.val (.int p0), .val (.int p1), .val (.int p2), .val (.int p3), .val (.ref b1), .val (.int (gend p0 p3)), .val (.int (gat p3)), .val (.int (4 : Int32)), .val (.ref b28), .val (.ref b239), .val (.ref e277b), .val (.int (1 : Int32))] [(.ref b28), (.int (0 : Int32)), (.int (1 : Int32)), (.int (gat p3)), (.ref b1), (.ref b239), (.ref e277b)])) _
                refine st295 _ ?_
                show Steps p.tables e below (T295.setTop (mkF m 419 #[.val (.int p0), .val (.int p1), .val (.int p2), .val (.int p3), .val (.ref b1), .val (.int (gend p0 p3)), .val (.int (gat p3)), .val (.int (4 : Int32)), .val (.ref b28), .val (.ref b239), .val (.ref e277b), .val (.int (1 : Int32))] [(.int (f3 (gat p3) (1 : Int32) (0 : Int32) (fun j => if j < 1 then fh (a + j) else fq j) fq fh fq 4 a 0))])) _
                refine XS.ifNo X295.here hx rfl (hb hby at_419) rfl ((if0 _ _).trans (feq (show ¬ ((f3 (gat p3) (1 : Int32) (0 : Int32) (fun j => if j < 1 then fh (a + j) else fq j) fq fh fq 4 a 0) = (0 : Int32)) from (own_cell (K := 1) (i := 0) rfl rfl (by decide) (by decide) (fun j hj => rfl) (fun j hj => rfl)))).1) ?_
                show Steps p.tables e below (T295.setTop (mkF m 422 #[.val (.int p0), .val (.int p1), .val (.int p2), .val (.int p3), .val (.ref b1), .val (.int (gend p0 p3)), .val (.int (gat p3)), .val (.int (4 : Int32)), .val (.ref b28), .val (.ref b239), .val (.ref e277b), .val (.int (1 : Int32))] [])) _
                refine XS.aload X295.here hx rfl (hb hby at_422) rfl rfl ?_
                show Steps p.tables e below (T295.setTop (mkF m 424 #[.val (.int p0), .val (.int p1), .val (.int p2), .val (.int p3), .val (.ref b1), .val (.int (gend p0 p3)), .val (.int (gat p3)), .val (.int (4 : Int32)), .val (.ref b28), .val (.ref b239), .val (.ref e277b), .val (.int (1 : Int32))] [(.ref e277b)])) _
                refine XS.aload X295.here hx rfl (hb hby at_424) rfl rfl ?_
                show Steps p.tables e below (T295.setTop (mkF m 426 #[.val (.int p0), .val (.int p1), .val (.int p2), .val (.int p3), .val (.ref b1), .val (.int (gend p0 p3)), .val (.int (gat p3)), .val (.int (4 : Int32)), .val (.ref b28), .val (.ref b239), .val (.ref e277b), .val (.int (1 : Int32))] [(.ref b239), (.ref e277b)])) _
                refine XS.aload X295.here hx rfl (hb hby at_426) rfl rfl ?_
                show Steps p.tables e below (T295.setTop (mkF m 428 #[.val (.int p0), .val (.int p1), .val (.int p2), .val (.int p3), .val (.ref b1), .val (.int (gend p0 p3)), .val (.int (gat p3)), .val (.int (4 : Int32)), .val (.ref b28), .val (.ref b239), .val (.ref e277b), .val (.int (1 : Int32))] [(.ref b1), (.ref b239), (.ref e277b)])) _
                refine XS.iload X295.here hx rfl (hb hby at_428) rfl ?_
                show Steps p.tables e below (T295.setTop (mkF m 430 #[.val (.int p0), .val (.int p1), .val (.int p2), .val (.int p3), .val (.ref b1), .val (.int (gend p0 p3)), .val (.int (gat p3)), .val (.int (4 : Int32)), .val (.ref b28), .val (.ref b239), .val (.ref e277b), .val (.int (1 : Int32))] [(.int (gat p3)), (.ref b1), (.ref b239), (.ref e277b)])) _
                refine XS.iload X295.here hx rfl (hb hby at_430) rfl ?_
                show Steps p.tables e below (T295.setTop (mkF m 432 #[.val (.int p0), .val (.int p1), .val (.int p2), .val (.int p3), .val (.ref b1), .val (.int (gend p0 p3)), .val (.int (gat p3)), .val (.int (4 : Int32)), .val (.ref b28), .val (.ref b239), .val (.ref e277b), .val (.int (1 : Int32))] [(.int (1 : Int32)), (.int (gat p3)), (.ref b1), (.ref b239), (.ref e277b)])) _
                refine XS.iconst X295.here hx rfl (hb hby at_432) ?_
                show Steps p.tables e below (T295.setTop (mkF m 433 #[.val (.int p0), .val (.int p1), .val (.int p2), .val (.int p3), .val (.ref b1), .val (.int (gend p0 p3)), .val (.int (gat p3)), .val (.int (4 : Int32)), .val (.ref b28), .val (.ref b239), .val (.ref e277b), .val (.int (1 : Int32))] [(.int (1 : Int32)), (.int (1 : Int32)), (.int (gat p3)), (.ref b1), (.ref b239), (.ref e277b)])) _
                refine XS.aload X295.here hx rfl (hb hby at_433) rfl rfl ?_
                show Steps p.tables e below (T295.setTop (mkF m 435 #[.val (.int p0), .val (.int p1), .val (.int p2), .val (.int p3), .val (.ref b1), .val (.int (gend p0 p3)), .val (.int (gat p3)), .val (.int (4 : Int32)), .val (.ref b28), .val (.ref b239), .val (.ref e277b), .val (.int (1 : Int32))] [(.ref b28), (.int (1 : Int32)), (.int (1 : Int32)), (.int (gat p3)), (.ref b1), (.ref b239), (.ref e277b)])) _
                refine st296 _ ?_
                show Steps p.tables e below (T296.setTop (mkF m 438 #[.val (.int p0), .val (.int p1), .val (.int p2), .val (.int p3), .val (.ref b1), .val (.int (gend p0 p3)), .val (.int (gat p3)), .val (.int (4 : Int32)), .val (.ref b28), .val (.ref b239), .val (.ref e277b), .val (.int (1 : Int32))] [(.int (f3 (gat p3) (1 : Int32) (1 : Int32) (fun j => if j < 1 then fh (a + j) else fq j) fq fh fq 4 a 1))])) _
                refine XS.ifNo X296.here hx rfl (hb hby at_438) rfl ((if0 _ _).trans (feq (show ¬ ((f3 (gat p3) (1 : Int32) (1 : Int32) (fun j => if j < 1 then fh (a + j) else fq j) fq fh fq 4 a 1) = (0 : Int32)) from (own_cell (K := 1) (i := 1) rfl rfl (by decide) (by decide) (fun j hj => rfl) (fun j hj => rfl)))).1) ?_
                show Steps p.tables e below (T296.setTop (mkF m 441 #[.val (.int p0), .val (.int p1), .val (.int p2), .val (.int p3), .val (.ref b1), .val (.int (gend p0 p3)), .val (.int (gat p3)), .val (.int (4 : Int32)), .val (.ref b28), .val (.ref b239), .val (.ref e277b), .val (.int (1 : Int32))] [])) _
                refine XS.aload X296.here hx rfl (hb hby at_441) rfl rfl ?_
                show Steps p.tables e below (T296.setTop (mkF m 443 #[.val (.int p0), .val (.int p1), .val (.int p2), .val (.int p3), .val (.ref b1), .val (.int (gend p0 p3)), .val (.int (gat p3)), .val (.int (4 : Int32)), .val (.ref b28), .val (.ref b239), .val (.ref e277b), .val (.int (1 : Int32))] [(.ref e277b)])) _
                refine XS.aload X296.here hx rfl (hb hby at_443) rfl rfl ?_
                show Steps p.tables e below (T296.setTop (mkF m 445 #[.val (.int p0), .val (.int p1), .val (.int p2), .val (.int p3), .val (.ref b1), .val (.int (gend p0 p3)), .val (.int (gat p3)), .val (.int (4 : Int32)), .val (.ref b28), .val (.ref b239), .val (.ref e277b), .val (.int (1 : Int32))] [(.ref b239), (.ref e277b)])) _
                refine XS.aload X296.here hx rfl (hb hby at_445) rfl rfl ?_
                show Steps p.tables e below (T296.setTop (mkF m 447 #[.val (.int p0), .val (.int p1), .val (.int p2), .val (.int p3), .val (.ref b1), .val (.int (gend p0 p3)), .val (.int (gat p3)), .val (.int (4 : Int32)), .val (.ref b28), .val (.ref b239), .val (.ref e277b), .val (.int (1 : Int32))] [(.ref b1), (.ref b239), (.ref e277b)])) _
                refine XS.iload X296.here hx rfl (hb hby at_447) rfl ?_
                show Steps p.tables e below (T296.setTop (mkF m 449 #[.val (.int p0), .val (.int p1), .val (.int p2), .val (.int p3), .val (.ref b1), .val (.int (gend p0 p3)), .val (.int (gat p3)), .val (.int (4 : Int32)), .val (.ref b28), .val (.ref b239), .val (.ref e277b), .val (.int (1 : Int32))] [(.int (gat p3)), (.ref b1), (.ref b239), (.ref e277b)])) _
                refine XS.iload X296.here hx rfl (hb hby at_449) rfl ?_
                show Steps p.tables e below (T296.setTop (mkF m 451 #[.val (.int p0), .val (.int p1), .val (.int p2), .val (.int p3), .val (.ref b1), .val (.int (gend p0 p3)), .val (.int (gat p3)), .val (.int (4 : Int32)), .val (.ref b28), .val (.ref b239), .val (.ref e277b), .val (.int (1 : Int32))] [(.int (1 : Int32)), (.int (gat p3)), (.ref b1), (.ref b239), (.ref e277b)])) _
                refine XS.iconst X296.here hx rfl (hb hby at_451) ?_
                show Steps p.tables e below (T296.setTop (mkF m 452 #[.val (.int p0), .val (.int p1), .val (.int p2), .val (.int p3), .val (.ref b1), .val (.int (gend p0 p3)), .val (.int (gat p3)), .val (.int (4 : Int32)), .val (.ref b28), .val (.ref b239), .val (.ref e277b), .val (.int (1 : Int32))] [(.int (2 : Int32)), (.int (1 : Int32)), (.int (gat p3)), (.ref b1), (.ref b239), (.ref e277b)])) _
                refine XS.aload X296.here hx rfl (hb hby at_452) rfl rfl ?_
                show Steps p.tables e below (T296.setTop (mkF m 454 #[.val (.int p0), .val (.int p1), .val (.int p2), .val (.int p3), .val (.ref b1), .val (.int (gend p0 p3)), .val (.int (gat p3)), .val (.int (4 : Int32)), .val (.ref b28), .val (.ref b239), .val (.ref e277b), .val (.int (1 : Int32))] [(.ref b28), (.int (2 : Int32)), (.int (1 : Int32)), (.int (gat p3)), (.ref b1), (.ref b239), (.ref e277b)])) _
                refine st297 _ ?_
                show Steps p.tables e below (T297.setTop (mkF m 457 #[.val (.int p0), .val (.int p1), .val (.int p2), .val (.int p3), .val (.ref b1), .val (.int (gend p0 p3)), .val (.int (gat p3)), .val (.int (4 : Int32)), .val (.ref b28), .val (.ref b239), .val (.ref e277b), .val (.int (1 : Int32))] [(.int (f3 (gat p3) (1 : Int32) (2 : Int32) (fun j => if j < 1 then fh (a + j) else fq j) fq fh fq 4 a 2))])) _
                refine XS.ifNo X297.here hx rfl (hb hby at_457) rfl ((if0 _ _).trans (feq (show ¬ ((f3 (gat p3) (1 : Int32) (2 : Int32) (fun j => if j < 1 then fh (a + j) else fq j) fq fh fq 4 a 2) = (0 : Int32)) from (own_cell (K := 1) (i := 2) rfl rfl (by decide) (by decide) (fun j hj => rfl) (fun j hj => rfl)))).1) ?_
                show Steps p.tables e below (T297.setTop (mkF m 460 #[.val (.int p0), .val (.int p1), .val (.int p2), .val (.int p3), .val (.ref b1), .val (.int (gend p0 p3)), .val (.int (gat p3)), .val (.int (4 : Int32)), .val (.ref b28), .val (.ref b239), .val (.ref e277b), .val (.int (1 : Int32))] [])) _
                refine XS.aload X297.here hx rfl (hb hby at_460) rfl rfl ?_
                show Steps p.tables e below (T297.setTop (mkF m 462 #[.val (.int p0), .val (.int p1), .val (.int p2), .val (.int p3), .val (.ref b1), .val (.int (gend p0 p3)), .val (.int (gat p3)), .val (.int (4 : Int32)), .val (.ref b28), .val (.ref b239), .val (.ref e277b), .val (.int (1 : Int32))] [(.ref e277b)])) _
                refine XS.aload X297.here hx rfl (hb hby at_462) rfl rfl ?_
                show Steps p.tables e below (T297.setTop (mkF m 464 #[.val (.int p0), .val (.int p1), .val (.int p2), .val (.int p3), .val (.ref b1), .val (.int (gend p0 p3)), .val (.int (gat p3)), .val (.int (4 : Int32)), .val (.ref b28), .val (.ref b239), .val (.ref e277b), .val (.int (1 : Int32))] [(.ref b239), (.ref e277b)])) _
                refine XS.aload X297.here hx rfl (hb hby at_464) rfl rfl ?_
                show Steps p.tables e below (T297.setTop (mkF m 466 #[.val (.int p0), .val (.int p1), .val (.int p2), .val (.int p3), .val (.ref b1), .val (.int (gend p0 p3)), .val (.int (gat p3)), .val (.int (4 : Int32)), .val (.ref b28), .val (.ref b239), .val (.ref e277b), .val (.int (1 : Int32))] [(.ref b1), (.ref b239), (.ref e277b)])) _
                refine XS.iload X297.here hx rfl (hb hby at_466) rfl ?_
                show Steps p.tables e below (T297.setTop (mkF m 468 #[.val (.int p0), .val (.int p1), .val (.int p2), .val (.int p3), .val (.ref b1), .val (.int (gend p0 p3)), .val (.int (gat p3)), .val (.int (4 : Int32)), .val (.ref b28), .val (.ref b239), .val (.ref e277b), .val (.int (1 : Int32))] [(.int (gat p3)), (.ref b1), (.ref b239), (.ref e277b)])) _
                refine XS.iload X297.here hx rfl (hb hby at_468) rfl ?_
                show Steps p.tables e below (T297.setTop (mkF m 470 #[.val (.int p0), .val (.int p1), .val (.int p2), .val (.int p3), .val (.ref b1), .val (.int (gend p0 p3)), .val (.int (gat p3)), .val (.int (4 : Int32)), .val (.ref b28), .val (.ref b239), .val (.ref e277b), .val (.int (1 : Int32))] [(.int (1 : Int32)), (.int (gat p3)), (.ref b1), (.ref b239), (.ref e277b)])) _
                refine XS.iconst X297.here hx rfl (hb hby at_470) ?_
                show Steps p.tables e below (T297.setTop (mkF m 471 #[.val (.int p0), .val (.int p1), .val (.int p2), .val (.int p3), .val (.ref b1), .val (.int (gend p0 p3)), .val (.int (gat p3)), .val (.int (4 : Int32)), .val (.ref b28), .val (.ref b239), .val (.ref e277b), .val (.int (1 : Int32))] [(.int (3 : Int32)), (.int (1 : Int32)), (.int (gat p3)), (.ref b1), (.ref b239), (.ref e277b)])) _
                refine XS.aload X297.here hx rfl (hb hby at_471) rfl rfl ?_
                show Steps p.tables e below (T297.setTop (mkF m 473 #[.val (.int p0), .val (.int p1), .val (.int p2), .val (.int p3), .val (.ref b1), .val (.int (gend p0 p3)), .val (.int (gat p3)), .val (.int (4 : Int32)), .val (.ref b28), .val (.ref b239), .val (.ref e277b), .val (.int (1 : Int32))] [(.ref b28), (.int (3 : Int32)), (.int (1 : Int32)), (.int (gat p3)), (.ref b1), (.ref b239), (.ref e277b)])) _
                refine st298 _ ?_
                show Steps p.tables e below (T298.setTop (mkF m 476 #[.val (.int p0), .val (.int p1), .val (.int p2), .val (.int p3), .val (.ref b1), .val (.int (gend p0 p3)), .val (.int (gat p3)), .val (.int (4 : Int32)), .val (.ref b28), .val (.ref b239), .val (.ref e277b), .val (.int (1 : Int32))] [(.int (f3 (gat p3) (1 : Int32) (3 : Int32) (fun j => if j < 1 then fh (a + j) else fq j) fq fh fq 4 a 3))])) _
                refine XS.ifNo X298.here hx rfl (hb hby at_476) rfl ((if0 _ _).trans (feq (show ¬ ((f3 (gat p3) (1 : Int32) (3 : Int32) (fun j => if j < 1 then fh (a + j) else fq j) fq fh fq 4 a 3) = (0 : Int32)) from (own_cell (K := 1) (i := 3) rfl rfl (by decide) (by decide) (fun j hj => rfl) (fun j hj => rfl)))).1) ?_
                show Steps p.tables e below (T298.setTop (mkF m 479 #[.val (.int p0), .val (.int p1), .val (.int p2), .val (.int p3), .val (.ref b1), .val (.int (gend p0 p3)), .val (.int (gat p3)), .val (.int (4 : Int32)), .val (.ref b28), .val (.ref b239), .val (.ref e277b), .val (.int (1 : Int32))] [])) _
                refine XS.iconst X298.here hx rfl (hb hby at_479) ?_
                show Steps p.tables e below (T298.setTop (mkF m 480 #[.val (.int p0), .val (.int p1), .val (.int p2), .val (.int p3), .val (.ref b1), .val (.int (gend p0 p3)), .val (.int (gat p3)), .val (.int (4 : Int32)), .val (.ref b28), .val (.ref b239), .val (.ref e277b), .val (.int (1 : Int32))] [(.int (1 : Int32))])) _
                refine XS.goto X298.here hx rfl (pc0 := 480) (pc' := 484) rfl (hb hby at_480) (by decide) (by decide) ?_
                exact kt
              obtain ⟨fsQ, hr, hrun, hended, hW, hsame⟩ := X298.leave (v := some (.int (1 : Int32))) (fun h => by rw [Bd.returns] at h; cases h)
              refine ⟨_, _, pre0 _ (K299 _ ?_), hrun, hended, _, _, rfl, ?_, ⟨_, rfl⟩, hW, hsame.mono (by decide) (by decide)⟩
              · show Steps p.tables e below (T298.setTop (mkF m 484 #[.val (.int p0), .val (.int p1), .val (.int p2), .val (.int p3), .val (.ref b1), .val (.int (gend p0 p3)), .val (.int (gat p3)), .val (.int (4 : Int32)), .val (.ref b28), .val (.ref b239), .val (.ref e277b), .val (.int (1 : Int32))] [(.int (1 : Int32))])) _
                exact retN X298 hx (t := .boolean) Bd.returns (by simp) (hb hby at_484) hr
              · show Q0 Z p0 p1 p2 p3  h0 n0 _ T298.heap _
                rw [e298]
                exact ⟨rfl, N277⟩
            · skip
              obtain ⟨_, _, ⟨T300, L300, k300, n300⟩, -, X300, ⟨Lc300, hQ300, l300, y300, z300⟩, st300⟩ := Jvm.LawKit.callS X292 hx (y := (⟨"com/example/benchwire/benchwire/protocols/DelimitedTextDeclaredDelimitersPinLaw", "ok", "([BIIB)Z"⟩ : MethodName)) hown (mvT hZ (hw _ (List.mem_of_getElem? (i := 21) rfl))) (mvT hZ (hw _ (List.mem_of_getElem? (i := 22) rfl))) (mvT hZ (hw _ (List.mem_of_getElem? (i := 3) rfl))) (mvT hZ (hw _ (List.mem_of_getElem? (i := 23) rfl))) (by decide) (backOf (W := 0) (rm4 l Z a0 hw [] b1 (gat p3) (2 : Int32) (gend p0 p3) fh a 2 T277.heap G279 ha (by decide) ha7 (by decide)) hZ (hw _ (List.mem_of_getElem? (i := 23) rfl)) (hw _ (List.mem_of_getElem? (i := 3) rfl)) (by decide) (by decide)) (g := (mkF m 371 #[.val (.int p0), .val (.int p1), .val (.int p2), .val (.int p3), .val (.ref b1), .val (.int (gend p0 p3)), .val (.int (gat p3)), .val (.int (4 : Int32)), .val (.ref b28), .val (.ref b239), .val (.ref e277b), .val (.int (2 : Int32))] [(.int (gend p0 p3)), (.int (2 : Int32)), (.int (gat p3)), (.ref b1)])) rfl (by rw [hml]; rfl) (argsL := [(.ref b1), (.int (gat p3)), (.int (2 : Int32)), (.int (gend p0 p3))]) (rest := []) (lenOf pd_3 rfl) rfl (by show 2 * 0 + _ ≤ _; exact Nat.le_of_eq rfl) (hb hby at_371) (fun _ _ => ⟨rfl, e292, (by decide : 4 + 0 ≤ _), (by decide : 18 + 0 ≤ _)⟩)
              dsimp only [Pt.U, Pt.locs, Pt.cells, Pt.slots] at X300 l300 y300 z300 st300 hQ300
              subst l300 y300 z300
              obtain ⟨rfl, rfl, e300⟩ := hQ300
              try rw [List.append_nil] at X300
              have K301 : ∀ t, Steps p.tables e below (T300.setTop (mkF m 374 #[.val (.int p0), .val (.int p1), .val (.int p2), .val (.int p3), .val (.ref b1), .val (.int (gend p0 p3)), .val (.int (gat p3)), .val (.int (4 : Int32)), .val (.ref b28), .val (.ref b239), .val (.ref e277b), .val (.int (2 : Int32))] [(.int (f4 (gat p3) (2 : Int32) (gend p0 p3) fh a 2))])) t → Steps p.tables e below (s₁.setTop (mkF m 0 #[.val (.int p0), .val (.int p1), .val (.int p2), .val (.int p3), .unset, .unset, .unset, .unset, .unset, .unset, .unset, .unset] [])) t := by
                intro t kt
                refine K293 _ ?_
                show Steps p.tables e below (T292.setTop (mkF m 351 #[.val (.int p0), .val (.int p1), .val (.int p2), .val (.int p3), .val (.ref b1), .val (.int (gend p0 p3)), .val (.int (gat p3)), .val (.int (4 : Int32)), .val (.ref b28), .val (.ref b239), .val (.ref e277b), .val (.int (1 : Int32))] [(.int (f4 (gat p3) (1 : Int32) (gend p0 p3) fh a 1))])) _
                refine XS.ifNo X292.here hx rfl (hb hby at_351) rfl ((if0 _ _).trans (feq hc294).1) ?_
                show Steps p.tables e below (T292.setTop (mkF m 354 #[.val (.int p0), .val (.int p1), .val (.int p2), .val (.int p3), .val (.ref b1), .val (.int (gend p0 p3)), .val (.int (gat p3)), .val (.int (4 : Int32)), .val (.ref b28), .val (.ref b239), .val (.ref e277b), .val (.int (1 : Int32))] [])) _
                refine XS.iconst X292.here hx rfl (hb hby at_354) ?_
                show Steps p.tables e below (T292.setTop (mkF m 355 #[.val (.int p0), .val (.int p1), .val (.int p2), .val (.int p3), .val (.ref b1), .val (.int (gend p0 p3)), .val (.int (gat p3)), .val (.int (4 : Int32)), .val (.ref b28), .val (.ref b239), .val (.ref e277b), .val (.int (1 : Int32))] [(.int (2 : Int32))])) _
                refine XS.istore X292.here hx rfl (hb hby at_355) rfl (l' := #[.val (.int p0), .val (.int p1), .val (.int p2), .val (.int p3), .val (.ref b1), .val (.int (gend p0 p3)), .val (.int (gat p3)), .val (.int (4 : Int32)), .val (.ref b28), .val (.ref b239), .val (.ref e277b), .val (.int (2 : Int32))]) rfl ?_
                show Steps p.tables e below (T292.setTop (mkF m 357 #[.val (.int p0), .val (.int p1), .val (.int p2), .val (.int p3), .val (.ref b1), .val (.int (gend p0 p3)), .val (.int (gat p3)), .val (.int (4 : Int32)), .val (.ref b28), .val (.ref b239), .val (.ref e277b), .val (.int (2 : Int32))] [])) _
                refine XS.iload X292.here hx rfl (hb hby at_357) rfl ?_
                show Steps p.tables e below (T292.setTop (mkF m 359 #[.val (.int p0), .val (.int p1), .val (.int p2), .val (.int p3), .val (.ref b1), .val (.int (gend p0 p3)), .val (.int (gat p3)), .val (.int (4 : Int32)), .val (.ref b28), .val (.ref b239), .val (.ref e277b), .val (.int (2 : Int32))] [(.int (2 : Int32))])) _
                refine XS.iload X292.here hx rfl (hb hby at_359) rfl ?_
                show Steps p.tables e below (T292.setTop (mkF m 361 #[.val (.int p0), .val (.int p1), .val (.int p2), .val (.int p3), .val (.ref b1), .val (.int (gend p0 p3)), .val (.int (gat p3)), .val (.int (4 : Int32)), .val (.ref b28), .val (.ref b239), .val (.ref e277b), .val (.int (2 : Int32))] [(.int (4 : Int32)), (.int (2 : Int32))])) _
                refine XS.icmpNo X292.here hx rfl (hb hby at_361) rfl (tlt (by decide : (2 : Int32) < (4 : Int32))).2.1 ?_
                show Steps p.tables e below (T292.setTop (mkF m 364 #[.val (.int p0), .val (.int p1), .val (.int p2), .val (.int p3), .val (.ref b1), .val (.int (gend p0 p3)), .val (.int (gat p3)), .val (.int (4 : Int32)), .val (.ref b28), .val (.ref b239), .val (.ref e277b), .val (.int (2 : Int32))] [])) _
                refine XS.aload X292.here hx rfl (hb hby at_364) rfl rfl ?_
                show Steps p.tables e below (T292.setTop (mkF m 366 #[.val (.int p0), .val (.int p1), .val (.int p2), .val (.int p3), .val (.ref b1), .val (.int (gend p0 p3)), .val (.int (gat p3)), .val (.int (4 : Int32)), .val (.ref b28), .val (.ref b239), .val (.ref e277b), .val (.int (2 : Int32))] [(.ref b1)])) _
                refine XS.iload X292.here hx rfl (hb hby at_366) rfl ?_
                show Steps p.tables e below (T292.setTop (mkF m 368 #[.val (.int p0), .val (.int p1), .val (.int p2), .val (.int p3), .val (.ref b1), .val (.int (gend p0 p3)), .val (.int (gat p3)), .val (.int (4 : Int32)), .val (.ref b28), .val (.ref b239), .val (.ref e277b), .val (.int (2 : Int32))] [(.int (gat p3)), (.ref b1)])) _
                refine XS.iconst X292.here hx rfl (hb hby at_368) ?_
                show Steps p.tables e below (T292.setTop (mkF m 369 #[.val (.int p0), .val (.int p1), .val (.int p2), .val (.int p3), .val (.ref b1), .val (.int (gend p0 p3)), .val (.int (gat p3)), .val (.int (4 : Int32)), .val (.ref b28), .val (.ref b239), .val (.ref e277b), .val (.int (2 : Int32))] [(.int (2 : Int32)), (.int (gat p3)), (.ref b1)])) _
                refine XS.iload X292.here hx rfl (hb hby at_369) rfl ?_
                show Steps p.tables e below (T292.setTop (mkF m 371 #[.val (.int p0), .val (.int p1), .val (.int p2), .val (.int p3), .val (.ref b1), .val (.int (gend p0 p3)), .val (.int (gat p3)), .val (.int (4 : Int32)), .val (.ref b28), .val (.ref b239), .val (.ref e277b), .val (.int (2 : Int32))] [(.int (gend p0 p3)), (.int (2 : Int32)), (.int (gat p3)), (.ref b1)])) _
                refine st300 _ ?_
                exact kt
              by_cases hc302 : (f4 (gat p3) (2 : Int32) (gend p0 p3) fh a 2) = (0 : Int32)
              · skip
                have hok : ∀ j, j < 2 → okP fh a (gend p0 p3) j := by
                  intro j hj
                  rcases (by omega : j = 0 ∨ j = 1) with rfl | rfl
                  · exact (Classical.byContradiction fun y => hc286 ((own_ok ha (i := 0) (by decide) ha7 (by decide)).mpr y))
                  · exact (Classical.byContradiction fun y => hc294 ((own_ok ha (i := 1) (by decide) ha7 (by decide)).mpr y))
                obtain rfl : kk = 2 := own_dd DDq (by decide) hok (Or.inr ((own_ok ha (i := 2) (by decide) ha7 (by decide)).mp hc302))
                obtain ⟨_, _, ⟨T303, L303, k303, n303⟩, -, X303, ⟨Lc303, hQ303, l303, y303, z303⟩, st303⟩ := Jvm.LawKit.callS X300 hx (y := (⟨"com/example/benchwire/benchwire/protocols/DelimitedTextDeclaredDelimitersPinLaw", "cell", "([B[B[BIII[B)Z"⟩ : MethodName)) hown (mvT hZ (hw _ (List.mem_of_getElem? (i := 18) rfl))) (mvT hZ (hw _ (List.mem_of_getElem? (i := 19) rfl))) (mvT hZ (hw _ (List.mem_of_getElem? (i := 3) rfl))) (mvT hZ (hw _ (List.mem_of_getElem? (i := 20) rfl))) (by decide) (backOf (W := 0) (rm3 l Z a0 hw [] e277b b239 b1 (gat p3) (2 : Int32) (0 : Int32) b28 (fun j => if j < 2 then fh (a + j) else fq j) fq fh fq 4 a 0 T277.heap A277q G283 G279 G281 ha (by decide) ha7 (by decide) (by decide) (fun _ => (hok 0 (by decide)).1)) hZ (hw _ (List.mem_of_getElem? (i := 20) rfl)) (hw _ (List.mem_of_getElem? (i := 3) rfl)) (by decide) (by decide)) (g := (mkF m 416 #[.val (.int p0), .val (.int p1), .val (.int p2), .val (.int p3), .val (.ref b1), .val (.int (gend p0 p3)), .val (.int (gat p3)), .val (.int (4 : Int32)), .val (.ref b28), .val (.ref b239), .val (.ref e277b), .val (.int (2 : Int32))] [(.ref b28), (.int (0 : Int32)), (.int (2 : Int32)), (.int (gat p3)), (.ref b1), (.ref b239), (.ref e277b)])) rfl (by rw [hml]; rfl) (argsL := [(.ref e277b), (.ref b239), (.ref b1), (.int (gat p3)), (.int (2 : Int32)), (.int (0 : Int32)), (.ref b28)]) (rest := []) (lenOf pd_2 rfl) rfl (by show 2 * 0 + _ ≤ _; exact Nat.le_of_eq rfl) (hb hby at_416) (fun _ _ => ⟨rfl, e300, (by decide : 4 + 0 ≤ _), (by decide : 18 + 0 ≤ _)⟩)
                dsimp only [Pt.U, Pt.locs, Pt.cells, Pt.slots] at X303 l303 y303 z303 st303 hQ303
                subst l303 y303 z303
                obtain ⟨rfl, rfl, e303⟩ := hQ303
                try rw [List.append_nil] at X303
                obtain ⟨_, _, ⟨T304, L304, k304, n304⟩, -, X304, ⟨Lc304, hQ304, l304, y304, z304⟩, st304⟩ := Jvm.LawKit.callS X303 hx (y := (⟨"com/example/benchwire/benchwire/protocols/DelimitedTextDeclaredDelimitersPinLaw", "cell", "([B[B[BIII[B)Z"⟩ : MethodName)) hown (mvT hZ (hw _ (List.mem_of_getElem? (i := 18) rfl))) (mvT hZ (hw _ (List.mem_of_getElem? (i := 19) rfl))) (mvT hZ (hw _ (List.mem_of_getElem? (i := 3) rfl))) (mvT hZ (hw _ (List.mem_of_getElem? (i := 20) rfl))) (by decide) (backOf (W := 0) (rm3 l Z a0 hw [] e277b b239 b1 (gat p3) (2 : Int32) (1 : Int32) b28 (fun j => if j < 2 then fh (a + j) else fq j) fq fh fq 4 a 1 T277.heap A277q G283 G279 G281 ha (by decide) ha7 (by decide) (by decide) (fun _ => (hok 1 (by decide)).1)) hZ (hw _ (List.mem_of_getElem? (i := 20) rfl)) (hw _ (List.mem_of_getElem? (i := 3) rfl)) (by decide) (by decide)) (g := (mkF m 435 #[.val (.int p0), .val (.int p1), .val (.int p2), .val (.int p3), .val (.ref b1), .val (.int (gend p0 p3)), .val (.int (gat p3)), .val (.int (4 : Int32)), .val (.ref b28), .val (.ref b239), .val (.ref e277b), .val (.int (2 : Int32))] [(.ref b28), (.int (1 : Int32)), (.int (2 : Int32)), (.int (gat p3)), (.ref b1), (.ref b239), (.ref e277b)])) rfl (by rw [hml]; rfl) (argsL := [(.ref e277b), (.ref b239), (.ref b1), (.int (gat p3)), (.int (2 : Int32)), (.int (1 : Int32)), (.ref b28)]) (rest := []) (lenOf pd_2 rfl) rfl (by show 2 * 0 + _ ≤ _; exact Nat.le_of_eq rfl) (hb hby at_435) (fun _ _ => ⟨rfl, e303, (by decide : 4 + 0 ≤ _), (by decide : 18 + 0 ≤ _)⟩)
                dsimp only [Pt.U, Pt.locs, Pt.cells, Pt.slots] at X304 l304 y304 z304 st304 hQ304
                subst l304 y304 z304
                obtain ⟨rfl, rfl, e304⟩ := hQ304
                try rw [List.append_nil] at X304
                obtain ⟨_, _, ⟨T305, L305, k305, n305⟩, -, X305, ⟨Lc305, hQ305, l305, y305, z305⟩, st305⟩ := Jvm.LawKit.callS X304 hx (y := (⟨"com/example/benchwire/benchwire/protocols/DelimitedTextDeclaredDelimitersPinLaw", "cell", "([B[B[BIII[B)Z"⟩ : MethodName)) hown (mvT hZ (hw _ (List.mem_of_getElem? (i := 18) rfl))) (mvT hZ (hw _ (List.mem_of_getElem? (i := 19) rfl))) (mvT hZ (hw _ (List.mem_of_getElem? (i := 3) rfl))) (mvT hZ (hw _ (List.mem_of_getElem? (i := 20) rfl))) (by decide) (backOf (W := 0) (rm3 l Z a0 hw [] e277b b239 b1 (gat p3) (2 : Int32) (2 : Int32) b28 (fun j => if j < 2 then fh (a + j) else fq j) fq fh fq 4 a 2 T277.heap A277q G283 G279 G281 ha (by decide) ha7 (by decide) (by decide) (fun z => absurd z (by decide))) hZ (hw _ (List.mem_of_getElem? (i := 20) rfl)) (hw _ (List.mem_of_getElem? (i := 3) rfl)) (by decide) (by decide)) (g := (mkF m 454 #[.val (.int p0), .val (.int p1), .val (.int p2), .val (.int p3), .val (.ref b1), .val (.int (gend p0 p3)), .val (.int (gat p3)), .val (.int (4 : Int32)), .val (.ref b28), .val (.ref b239), .val (.ref e277b), .val (.int (2 : Int32))] [(.ref b28), (.int (2 : Int32)), (.int (2 : Int32)), (.int (gat p3)), (.ref b1), (.ref b239), (.ref e277b)])) rfl (by rw [hml]; rfl) (argsL := [(.ref e277b), (.ref b239), (.ref b1), (.int (gat p3)), (.int (2 : Int32)), (.int (2 : Int32)), (.ref b28)]) (rest := []) (lenOf pd_2 rfl) rfl (by show 2 * 0 + _ ≤ _; exact Nat.le_of_eq rfl) (hb hby at_454) (fun _ _ => ⟨rfl, e304, (by decide : 4 + 0 ≤ _), (by decide : 18 + 0 ≤ _)⟩)
                dsimp only [Pt.U, Pt.locs, Pt.cells, Pt.slots] at X305 l305 y305 z305 st305 hQ305
                subst l305 y305 z305
                obtain ⟨rfl, rfl, e305⟩ := hQ305
                try rw [List.append_nil] at X305
                obtain ⟨_, _, ⟨T306, L306, k306, n306⟩, -, X306, ⟨Lc306, hQ306, l306, y306, z306⟩, st306⟩ := Jvm.LawKit.callS X305 hx (y := (⟨"com/example/benchwire/benchwire/protocols/DelimitedTextDeclaredDelimitersPinLaw", "cell", "([B[B[BIII[B)Z"⟩ : MethodName)) hown (mvT hZ (hw _ (List.mem_of_getElem? (i := 18) rfl))) (mvT hZ (hw _ (List.mem_of_getElem? (i := 19) rfl))) (mvT hZ (hw _ (List.mem_of_getElem? (i := 3) rfl))) (mvT hZ (hw _ (List.mem_of_getElem? (i := 20) rfl))) (by decide) (backOf (W := 0) (rm3 l Z a0 hw [] e277b b239 b1 (gat p3) (2 : Int32) (3 : Int32) b28 (fun j => if j < 2 then fh (a + j) else fq j) fq fh fq 4 a 3 T277.heap A277q G283 G279 G281 ha (by decide) ha7 (by decide) (by decide) (fun z => absurd z (by decide))) hZ (hw _ (List.mem_of_getElem? (i := 20) rfl)) (hw _ (List.mem_of_getElem? (i := 3) rfl)) (by decide) (by decide)) (g := (mkF m 473 #[.val (.int p0), .val (.int p1), .val (.int p2), .val (.int p3), .val (.ref b1), .val (.int (gend p0 p3)), .val (.int (gat p3)), .val (.int (4 : Int32)), .val (.ref b28), .val (.ref b239), .val (.ref e277b), .val (.int (2 : Int32))] [(.ref b28), (.int (3 : Int32)), (.int (2 : Int32)), (.int (gat p3)), (.ref b1), (.ref b239), (.ref e277b)])) rfl (by rw [hml]; rfl) (argsL := [(.ref e277b), (.ref b239), (.ref b1), (.int (gat p3)), (.int (2 : Int32)), (.int (3 : Int32)), (.ref b28)]) (rest := []) (lenOf pd_2 rfl) rfl (by show 2 * 0 + _ ≤ _; exact Nat.le_of_eq rfl) (hb hby at_473) (fun _ _ => ⟨rfl, e305, (by decide : 4 + 0 ≤ _), (by decide : 18 + 0 ≤ _)⟩)
                dsimp only [Pt.U, Pt.locs, Pt.cells, Pt.slots] at X306 l306 y306 z306 st306 hQ306
                subst l306 y306 z306
                obtain ⟨rfl, rfl, e306⟩ := hQ306
                try rw [List.append_nil] at X306
                have K307 : ∀ t, Steps p.tables e below (T306.setTop (mkF m 484 #[.val (.int p0), .val (.int p1), .val (.int p2), .val (.int p3), .val (.ref b1), .val (.int (gend p0 p3)), .val (.int (gat p3)), .val (.int (4 : Int32)), .val (.ref b28), .val (.ref b239), .val (.ref e277b), .val (.int (2 : Int32))] [(.int (1 : Int32))])) t → Steps p.tables e below (s₁.setTop (mkF m 0 #[.val (.int p0), .val (.int p1), .val (.int p2), .val (.int p3), .unset, .unset, .unset, .unset, .unset, .unset, .unset, .unset] [])) t := by
                  intro t kt
                  refine K301 _ ?_
                  show Steps p.tables e below (T300.setTop (mkF m 374 #[.val (.int p0), .val (.int p1), .val (.int p2), .val (.int p3), .val (.ref b1), .val (.int (gend p0 p3)), .val (.int (gat p3)), .val (.int (4 : Int32)), .val (.ref b28), .val (.ref b239), .val (.ref e277b), .val (.int (2 : Int32))] [(.int (f4 (gat p3) (2 : Int32) (gend p0 p3) fh a 2))])) _
                  refine XS.ifYes X300.here hx rfl (pc0 := 374) (pc' := 403) rfl (hb hby at_374) rfl ((if0 _ _).trans (teq hc302).1) (by decide) (by decide) ?_
                  show Steps p.tables e below (T300.setTop (mkF m 403 #[.val (.int p0), .val (.int p1), .val (.int p2), .val (.int p3), .val (.ref b1), .val (.int (gend p0 p3)), .val (.int (gat p3)), .val (.int (4 : Int32)), .val (.ref b28), .val (.ref b239), .val (.ref e277b), .val (.int (2 : Int32))] [])) _
                  refine XS.aload X300.here hx rfl (hb hby at_403) rfl rfl ?_
                  show Steps p.tables e below (T300.setTop (mkF m 405 #[.val (.int p0), .val (.int p1), .val (.int p2), .val (.int p3), .val (.ref b1), .val (.int (gend p0 p3)), .val (.int (gat p3)), .val (.int (4 : Int32)), .val (.ref b28), .val (.ref b239), .val (.ref e277b), .val (.int (2 : Int32))] [(.ref e277b)])) _
                  refine XS.aload X300.here hx rfl (hb hby at_405) rfl rfl ?_
                  show Steps p.tables e below (T300.setTop (mkF m 407 #[.val (.int p0), .val (.int p1), .val (.int p2), .val (.int p3), .val (.ref b1), .val (.int (gend p0 p3)), .val (.int (gat p3)), .val (.int (4 : Int32)), .val (.ref b28), .val (.ref b239), .val (.ref e277b), .val (.int (2 : Int32))] [(.ref b239), (.ref e277b)])) _
                  refine XS.aload X300.here hx rfl (hb hby at_407) rfl rfl ?_
                  show Steps p.tables e below (T300.setTop (mkF m 409 #[.val (.int p0), .val (.int p1), .val (.int p2), .val (.int p3), .val (.ref b1), .val (.int (gend p0 p3)), .val (.int (gat p3)), .val (.int (4 : Int32)), .val (.ref b28), .val (.ref b239), .val (.ref e277b), .val (.int (2 : Int32))] [(.ref b1), (.ref b239), (.ref e277b)])) _
                  refine XS.iload X300.here hx rfl (hb hby at_409) rfl ?_
                  show Steps p.tables e below (T300.setTop (mkF m 411 #[.val (.int p0), .val (.int p1), .val (.int p2), .val (.int p3), .val (.ref b1), .val (.int (gend p0 p3)), .val (.int (gat p3)), .val (.int (4 : Int32)), .val (.ref b28), .val (.ref b239), .val (.ref e277b), .val (.int (2 : Int32))] [(.int (gat p3)), (.ref b1), (.ref b239), (.ref e277b)])) _
                  refine XS.iload X300.here hx rfl (hb hby at_411) rfl ?_
                  show Steps p.tables e below (T300.setTop (mkF m 413 #[.val (.int p0), .val (.int p1), .val (.int p2), .val (.int p3), .val (.ref b1), .val (.int (gend p0 p3)), .val (.int (gat p3)), .val (.int (4 : Int32)), .val (.ref b28), .val (.ref b239), .val (.ref e277b), .val (.int (2 : Int32))] [(.int (2 : Int32)), (.int (gat p3)), (.ref b1), (.ref b239), (.ref e277b)])) _
                  refine XS.iconst X300.here hx rfl (hb hby at_413) ?_
                  show Steps p.tables e below (T300.setTop (mkF m 414 #[.val (.int p0), .val (.int p1), .val (.int p2), .val (.int p3), .val (.ref b1), .val (.int (gend p0 p3)), .val (.int (gat p3)), .val (.int (4 : Int32)), .val (.ref b28), .val (.ref b239), .val (.ref e277b), .val (.int (2 : Int32))] [(.int (0 : Int32)), (.int (2 : Int32)), (.int (gat p3)), (.ref b1), (.ref b239), (.ref e277b)])) _
                  refine XS.aload X300.here hx rfl (hb hby at_414) rfl rfl ?_
                  show Steps p.tables e below (T300.setTop (mkF m 416 #[.val (.int p0), .val (.int p1), .val (.int p2), .val (.int p3), .val (.ref b1), .val (.int (gend p0 p3)), .val (.int (gat p3)), .val (.int (4 : Int32)), .val (.ref b28), .val (.ref b239), .val (.ref e277b), .val (.int (2 : Int32))] [(.ref b28), (.int (0 : Int32)), (.int (2 : Int32)), (.int (gat p3)), (.ref b1), (.ref b239), (.ref e277b)])) _
                  refine st303 _ ?_
                  show Steps p.tables e below (T303.setTop (mkF m 419 #[.val (.int p0), .val (.int p1), .val (.int p2), .val (.int p3), .val (.ref b1), .val (.int (gend p0 p3)), .val (.int (gat p3)), .val (.int (4 : Int32)), .val (.ref b28), .val (.ref b239), .val (.ref e277b), .val (.int (2 : Int32))] [(.int (f3 (gat p3) (2 : Int32) (0 : Int32) (fun j => if j < 2 then fh (a + j) else fq j) fq fh fq 4 a 0))])) _
                  refine XS.ifNo X303.here hx rfl (hb hby at_419) rfl ((if0 _ _).trans (feq (show ¬ ((f3 (gat p3) (2 : Int32) (0 : Int32) (fun j => if j < 2 then fh (a + j) else fq j) fq fh fq 4 a 0) = (0 : Int32)) from (own_cell (K := 2) (i := 0) rfl rfl (by decide) (by decide) (fun j hj => rfl) (fun j hj => rfl)))).1) ?_
                  show Steps p.tables e below (T303.setTop (mkF m 422 #[.val (.int p0), .val (.int p1), .val (.int p2), .val (.int p3), .val (.ref b1), .val (.int (gend p0 p3)), .val (.int (gat p3)), .val (.int (4 : Int32)), .val (.ref b28), .val (.ref b239), .val (.ref e277b), .val (.int (2 : Int32))] [])) _
                  refine XS.aload X303.here hx rfl (hb hby at_422) rfl rfl ?_
                  show Steps p.tables e below (T303.setTop (mkF m 424 #[.val (.int p0), .val (.int p1), .val (.int p2), .val (.int p3), .val (.ref b1), .val (.int (gend p0 p3)), .val (.int (gat p3)), .val (.int (4 : Int32)), .val (.ref b28), .val (.ref b239), .val (.ref e277b), .val (.int (2 : Int32))] [(.ref e277b)])) _
                  refine XS.aload X303.here hx rfl (hb hby at_424) rfl rfl ?_
                  show Steps p.tables e below (T303.setTop (mkF m 426 #[.val (.int p0), .val (.int p1), .val (.int p2), .val (.int p3), .val (.ref b1), .val (.int (gend p0 p3)), .val (.int (gat p3)), .val (.int (4 : Int32)), .val (.ref b28), .val (.ref b239), .val (.ref e277b), .val (.int (2 : Int32))] [(.ref b239), (.ref e277b)])) _
                  refine XS.aload X303.here hx rfl (hb hby at_426) rfl rfl ?_
                  show Steps p.tables e below (T303.setTop (mkF m 428 #[.val (.int p0), .val (.int p1), .val (.int p2), .val (.int p3), .val (.ref b1), .val (.int (gend p0 p3)), .val (.int (gat p3)), .val (.int (4 : Int32)), .val (.ref b28), .val (.ref b239), .val (.ref e277b), .val (.int (2 : Int32))] [(.ref b1), (.ref b239), (.ref e277b)])) _
                  refine XS.iload X303.here hx rfl (hb hby at_428) rfl ?_
                  show Steps p.tables e below (T303.setTop (mkF m 430 #[.val (.int p0), .val (.int p1), .val (.int p2), .val (.int p3), .val (.ref b1), .val (.int (gend p0 p3)), .val (.int (gat p3)), .val (.int (4 : Int32)), .val (.ref b28), .val (.ref b239), .val (.ref e277b), .val (.int (2 : Int32))] [(.int (gat p3)), (.ref b1), (.ref b239), (.ref e277b)])) _
                  refine XS.iload X303.here hx rfl (hb hby at_430) rfl ?_
                  show Steps p.tables e below (T303.setTop (mkF m 432 #[.val (.int p0), .val (.int p1), .val (.int p2), .val (.int p3), .val (.ref b1), .val (.int (gend p0 p3)), .val (.int (gat p3)), .val (.int (4 : Int32)), .val (.ref b28), .val (.ref b239), .val (.ref e277b), .val (.int (2 : Int32))] [(.int (2 : Int32)), (.int (gat p3)), (.ref b1), (.ref b239), (.ref e277b)])) _
                  refine XS.iconst X303.here hx rfl (hb hby at_432) ?_
                  show Steps p.tables e below (T303.setTop (mkF m 433 #[.val (.int p0), .val (.int p1), .val (.int p2), .val (.int p3), .val (.ref b1), .val (.int (gend p0 p3)), .val (.int (gat p3)), .val (.int (4 : Int32)), .val (.ref b28), .val (.ref b239), .val (.ref e277b), .val (.int (2 : Int32))] [(.int (1 : Int32)), (.int (2 : Int32)), (.int (gat p3)), (.ref b1), (.ref b239), (.ref e277b)])) _
                  refine XS.aload X303.here hx rfl (hb hby at_433) rfl rfl ?_
                  show Steps p.tables e below (T303.setTop (mkF m 435 #[.val (.int p0), .val (.int p1), .val (.int p2), .val (.int p3), .val (.ref b1), .val (.int (gend p0 p3)), .val (.int (gat p3)), .val (.int (4 : Int32)), .val (.ref b28), .val (.ref b239), .val (.ref e277b), .val (.int (2 : Int32))] [(.ref b28), (.int (1 : Int32)), (.int (2 : Int32)), (.int (gat p3)), (.ref b1), (.ref b239), (.ref e277b)])) _
                  refine st304 _ ?_
                  show Steps p.tables e below (T304.setTop (mkF m 438 #[.val (.int p0), .val (.int p1), .val (.int p2), .val (.int p3), .val (.ref b1), .val (.int (gend p0 p3)), .val (.int (gat p3)), .val (.int (4 : Int32)), .val (.ref b28), .val (.ref b239), .val (.ref e277b), .val (.int (2 : Int32))] [(.int (f3 (gat p3) (2 : Int32) (1 : Int32) (fun j => if j < 2 then fh (a + j) else fq j) fq fh fq 4 a 1))])) _
                  refine XS.ifNo X304.here hx rfl (hb hby at_438) rfl ((if0 _ _).trans (feq (show ¬ ((f3 (gat p3) (2 : Int32) (1 : Int32) (fun j => if j < 2 then fh (a + j) else fq j) fq fh fq 4 a 1) = (0 : Int32)) from (own_cell (K := 2) (i := 1) rfl rfl (by decide) (by decide) (fun j hj => rfl) (fun j hj => rfl)))).1) ?_
                  show Steps p.tables e below (T304.setTop (mkF m 441 #[.val (.int p0), .val (.int p1), .val (.int p2), .val (.int p3), .val (.ref b1), .val (.int (gend p0 p3)), .val (.int (gat p3)), .val (.int (4 : Int32)), .val (.ref b28), .val (.ref b239), .val (.ref e277b), .val (.int (2 : Int32))] [])) _
                  refine XS.aload X304.here hx rfl (hb hby at_441) rfl rfl ?_
                  show Steps p.tables e below (T304.setTop (mkF m 443 #[.val (.int p0), .val (.int p1), .val (.int p2), .val (.int p3), .val (.ref b1), .val (.int (gend p0 p3)), .val (.int (gat p3)), .val (.int (4 : Int32)), .val (.ref b28), .val (.ref b239), .val (.ref e277b), .val (.int (2 : Int32))] [(.ref e277b)])) _
                  refine XS.aload X304.here hx rfl (hb hby at_443) rfl rfl ?_
                  show Steps p.tables e below (T304.setTop (mkF m 445 #[.val (.int p0), .val (.int p1), .val (.int p2), .val (.int p3), .val (.ref b1), .val (.int (gend p0 p3)), .val (.int (gat p3)), .val (.int (4 : Int32)), .val (.ref b28), .val (.ref b239), .val (.ref e277b), .val (.int (2 : Int32))] [(.ref b239), (.ref e277b)])) _
                  refine XS.aload X304.here hx rfl (hb hby at_445) rfl rfl ?_
                  show Steps p.tables e below (T304.setTop (mkF m 447 #[.val (.int p0), .val (.int p1), .val (.int p2), .val (.int p3), .val (.ref b1), .val (.int (gend p0 p3)), .val (.int (gat p3)), .val (.int (4 : Int32)), .val (.ref b28), .val (.ref b239), .val (.ref e277b), .val (.int (2 : Int32))] [(.ref b1), (.ref b239), (.ref e277b)])) _
                  refine XS.iload X304.here hx rfl (hb hby at_447) rfl ?_
                  show Steps p.tables e below (T304.setTop (mkF m 449 #[.val (.int p0), .val (.int p1), .val (.int p2), .val (.int p3), .val (.ref b1), .val (.int (gend p0 p3)), .val (.int (gat p3)), .val (.int (4 : Int32)), .val (.ref b28), .val (.ref b239), .val (.ref e277b), .val (.int (2 : Int32))] [(.int (gat p3)), (.ref b1), (.ref b239), (.ref e277b)])) _
                  refine XS.iload X304.here hx rfl (hb hby at_449) rfl ?_
                  show Steps p.tables e below (T304.setTop (mkF m 451 #[.val (.int p0), .val (.int p1), .val (.int p2), .val (.int p3), .val (.ref b1), .val (.int (gend p0 p3)), .val (.int (gat p3)), .val (.int (4 : Int32)), .val (.ref b28), .val (.ref b239), .val (.ref e277b), .val (.int (2 : Int32))] [(.int (2 : Int32)), (.int (gat p3)), (.ref b1), (.ref b239), (.ref e277b)])) _
                  refine XS.iconst X304.here hx rfl (hb hby at_451) ?_
                  show Steps p.tables e below (T304.setTop (mkF m 452 #[.val (.int p0), .val (.int p1), .val (.int p2), .val (.int p3), .val (.ref b1), .val (.int (gend p0 p3)), .val (.int (gat p3)), .val (.int (4 : Int32)), .val (.ref b28), .val (.ref b239), .val (.ref e277b), .val (.int (2 : Int32))] [(.int (2 : Int32)), (.int (2 : Int32)), (.int (gat p3)), (.ref b1), (.ref b239), (.ref e277b)])) _
                  refine XS.aload X304.here hx rfl (hb hby at_452) rfl rfl ?_
                  show Steps p.tables e below (T304.setTop (mkF m 454 #[.val (.int p0), .val (.int p1), .val (.int p2), .val (.int p3), .val (.ref b1), .val (.int (gend p0 p3)), .val (.int (gat p3)), .val (.int (4 : Int32)), .val (.ref b28), .val (.ref b239), .val (.ref e277b), .val (.int (2 : Int32))] [(.ref b28), (.int (2 : Int32)), (.int (2 : Int32)), (.int (gat p3)), (.ref b1), (.ref b239), (.ref e277b)])) _
                  refine st305 _ ?_
                  show Steps p.tables e below (T305.setTop (mkF m 457 #[.val (.int p0), .val (.int p1), .val (.int p2), .val (.int p3), .val (.ref b1), .val (.int (gend p0 p3)), .val (.int (gat p3)), .val (.int (4 : Int32)), .val (.ref b28), .val (.ref b239), .val (.ref e277b), .val (.int (2 : Int32))] [(.int (f3 (gat p3) (2 : Int32) (2 : Int32) (fun j => if j < 2 then fh (a + j) else fq j) fq fh fq 4 a 2))])) _
                  refine XS.ifNo X305.here hx rfl (hb hby at_457) rfl ((if0 _ _).trans (feq (show ¬ ((f3 (gat p3) (2 : Int32) (2 : Int32) (fun j => if j < 2 then fh (a + j) else fq j) fq fh fq 4 a 2) = (0 : Int32)) from (own_cell (K := 2) (i := 2) rfl rfl (by decide) (by decide) (fun j hj => rfl) (fun j hj => rfl)))).1) ?_
                  show Steps p.tables e below (T305.setTop (mkF m 460 #[.val (.int p0), .val (.int p1), .val (.int p2), .val (.int p3), .val (.ref b1), .val (.int (gend p0 p3)), .val (.int (gat p3)), .val (.int (4 : Int32)), .val (.ref b28), .val (.ref b239), .val (.ref e277b), .val (.int (2 : Int32))] [])) _
                  refine XS.aload X305.here hx rfl (hb hby at_460) rfl rfl ?_
                  show Steps p.tables e below (T305.setTop (mkF m 462 #[.val (.int p0), .val (.int p1), .val (.int p2), .val (.int p3), .val (.ref b1), .val (.int (gend p0 p3)), .val (.int (gat p3)), .val (.int (4 : Int32)), .val (.ref b28), .val (.ref b239), .val (.ref e277b), .val (.int (2 : Int32))] [(.ref e277b)])) _
                  refine XS.aload X305.here hx rfl (hb hby at_462) rfl rfl ?_
                  show Steps p.tables e below (T305.setTop (mkF m 464 #[.val (.int p0), .val (.int p1), .val (.int p2), .val (.int p3), .val (.ref b1), .val (.int (gend p0 p3)), .val (.int (gat p3)), .val (.int (4 : Int32)), .val (.ref b28), .val (.ref b239), .val (.ref e277b), .val (.int (2 : Int32))] [(.ref b239), (.ref e277b)])) _
                  refine XS.aload X305.here hx rfl (hb hby at_464) rfl rfl ?_
                  show Steps p.tables e below (T305.setTop (mkF m 466 #[.val (.int p0), .val (.int p1), .val (.int p2), .val (.int p3), .val (.ref b1), .val (.int (gend p0 p3)), .val (.int (gat p3)), .val (.int (4 : Int32)), .val (.ref b28), .val (.ref b239), .val (.ref e277b), .val (.int (2 : Int32))] [(.ref b1), (.ref b239), (.ref e277b)])) _
                  refine XS.iload X305.here hx rfl (hb hby at_466) rfl ?_
                  show Steps p.tables e below (T305.setTop (mkF m 468 #[.val (.int p0), .val (.int p1), .val (.int p2), .val (.int p3), .val (.ref b1), .val (.int (gend p0 p3)), .val (.int (gat p3)), .val (.int (4 : Int32)), .val (.ref b28), .val (.ref b239), .val (.ref e277b), .val (.int (2 : Int32))] [(.int (gat p3)), (.ref b1), (.ref b239), (.ref e277b)])) _
                  refine XS.iload X305.here hx rfl (hb hby at_468) rfl ?_
                  show Steps p.tables e below (T305.setTop (mkF m 470 #[.val (.int p0), .val (.int p1), .val (.int p2), .val (.int p3), .val (.ref b1), .val (.int (gend p0 p3)), .val (.int (gat p3)), .val (.int (4 : Int32)), .val (.ref b28), .val (.ref b239), .val (.ref e277b), .val (.int (2 : Int32))] [(.int (2 : Int32)), (.int (gat p3)), (.ref b1), (.ref b239), (.ref e277b)])) _
                  refine XS.iconst X305.here hx rfl (hb hby at_470) ?_
                  show Steps p.tables e below (T305.setTop (mkF m 471 #[.val (.int p0), .val (.int p1), .val (.int p2), .val (.int p3), .val (.ref b1), .val (.int (gend p0 p3)), .val (.int (gat p3)), .val (.int (4 : Int32)), .val (.ref b28), .val (.ref b239), .val (.ref e277b), .val (.int (2 : Int32))] [(.int (3 : Int32)), (.int (2 : Int32)), (.int (gat p3)), (.ref b1), (.ref b239), (.ref e277b)])) _
                  refine XS.aload X305.here hx rfl (hb hby at_471) rfl rfl ?_
                  show Steps p.tables e below (T305.setTop (mkF m 473 #[.val (.int p0), .val (.int p1), .val (.int p2), .val (.int p3), .val (.ref b1), .val (.int (gend p0 p3)), .val (.int (gat p3)), .val (.int (4 : Int32)), .val (.ref b28), .val (.ref b239), .val (.ref e277b), .val (.int (2 : Int32))] [(.ref b28), (.int (3 : Int32)), (.int (2 : Int32)), (.int (gat p3)), (.ref b1), (.ref b239), (.ref e277b)])) _
                  refine st306 _ ?_
                  show Steps p.tables e below (T306.setTop (mkF m 476 #[.val (.int p0), .val (.int p1), .val (.int p2), .val (.int p3), .val (.ref b1), .val (.int (gend p0 p3)), .val (.int (gat p3)), .val (.int (4 : Int32)), .val (.ref b28), .val (.ref b239), .val (.ref e277b), .val (.int (2 : Int32))] [(.int (f3 (gat p3) (2 : Int32) (3 : Int32) (fun j => if j < 2 then fh (a + j) else fq j) fq fh fq 4 a 3))])) _
                  refine XS.ifNo X306.here hx rfl (hb hby at_476) rfl ((if0 _ _).trans (feq (show ¬ ((f3 (gat p3) (2 : Int32) (3 : Int32) (fun j => if j < 2 then fh (a + j) else fq j) fq fh fq 4 a 3) = (0 : Int32)) from (own_cell (K := 2) (i := 3) rfl rfl (by decide) (by decide) (fun j hj => rfl) (fun j hj => rfl)))).1) ?_
                  show Steps p.tables e below (T306.setTop (mkF m 479 #[.val (.int p0), .val (.int p1), .val (.int p2), .val (.int p3), .val (.ref b1), .val (.int (gend p0 p3)), .val (.int (gat p3)), .val (.int (4 : Int32)), .val (.ref b28), .val (.ref b239), .val (.ref e277b), .val (.int (2 : Int32))] [])) _
                  refine XS.iconst X306.here hx rfl (hb hby at_479) ?_
                  show Steps p.tables e below (T306.setTop (mkF m 480 #[.val (.int p0), .val (.int p1), .val (.int p2), .val (.int p3), .val (.ref b1), .val (.int (gend p0 p3)), .val (.int (gat p3)), .val (.int (4 : Int32)), .val (.ref b28), .val (.ref b239), .val (.ref e277b), .val (.int (2 : Int32))] [(.int (1 : Int32))])) _
                  refine XS.goto X306.here hx rfl (pc0 := 480) (pc' := 484) rfl (hb hby at_480) (by decide) (by decide) ?_
                  exact kt
                obtain ⟨fsQ, hr, hrun, hended, hW, hsame⟩ := X306.leave (v := some (.int (1 : Int32))) (fun h => by rw [Bd.returns] at h; cases h)
                refine ⟨_, _, pre0 _ (K307 _ ?_), hrun, hended, _, _, rfl, ?_, ⟨_, rfl⟩, hW, hsame.mono (by decide) (by decide)⟩
                · show Steps p.tables e below (T306.setTop (mkF m 484 #[.val (.int p0), .val (.int p1), .val (.int p2), .val (.int p3), .val (.ref b1), .val (.int (gend p0 p3)), .val (.int (gat p3)), .val (.int (4 : Int32)), .val (.ref b28), .val (.ref b239), .val (.ref e277b), .val (.int (2 : Int32))] [(.int (1 : Int32))])) _
                  exact retN X306 hx (t := .boolean) Bd.returns (by simp) (hb hby at_484) hr
                · show Q0 Z p0 p1 p2 p3  h0 n0 _ T306.heap _
                  rw [e306]
                  exact ⟨rfl, N277⟩
              · skip
                obtain ⟨_, _, ⟨T308, L308, k308, n308⟩, -, X308, ⟨Lc308, hQ308, l308, y308, z308⟩, st308⟩ := Jvm.LawKit.callS X300 hx (y := (⟨"com/example/benchwire/benchwire/protocols/DelimitedTextDeclaredDelimitersPinLaw", "ok", "([BIIB)Z"⟩ : MethodName)) hown (mvT hZ (hw _ (List.mem_of_getElem? (i := 21) rfl))) (mvT hZ (hw _ (List.mem_of_getElem? (i := 22) rfl))) (mvT hZ (hw _ (List.mem_of_getElem? (i := 3) rfl))) (mvT hZ (hw _ (List.mem_of_getElem? (i := 23) rfl))) (by decide) (backOf (W := 0) (rm4 l Z a0 hw [] b1 (gat p3) (3 : Int32) (gend p0 p3) fh a 3 T277.heap G279 ha (by decide) ha7 (by decide)) hZ (hw _ (List.mem_of_getElem? (i := 23) rfl)) (hw _ (List.mem_of_getElem? (i := 3) rfl)) (by decide) (by decide)) (g := (mkF m 394 #[.val (.int p0), .val (.int p1), .val (.int p2), .val (.int p3), .val (.ref b1), .val (.int (gend p0 p3)), .val (.int (gat p3)), .val (.int (4 : Int32)), .val (.ref b28), .val (.ref b239), .val (.ref e277b), .val (.int (3 : Int32))] [(.int (gend p0 p3)), (.int (3 : Int32)), (.int (gat p3)), (.ref b1)])) rfl (by rw [hml]; rfl) (argsL := [(.ref b1), (.int (gat p3)), (.int (3 : Int32)), (.int (gend p0 p3))]) (rest := []) (lenOf pd_3 rfl) rfl (by show 2 * 0 + _ ≤ _; exact Nat.le_of_eq rfl) (hb hby at_394) (fun _ _ => ⟨rfl, e300, (by decide : 4 + 0 ≤ _), (by decide : 18 + 0 ≤ _)⟩)
                dsimp only [Pt.U, Pt.locs, Pt.cells, Pt.slots] at X308 l308 y308 z308 st308 hQ308
                subst l308 y308 z308
                obtain ⟨rfl, rfl, e308⟩ := hQ308
                try rw [List.append_nil] at X308
                have K309 : ∀ t, Steps p.tables e below (T308.setTop (mkF m 397 #[.val (.int p0), .val (.int p1), .val (.int p2), .val (.int p3), .val (.ref b1), .val (.int (gend p0 p3)), .val (.int (gat p3)), .val (.int (4 : Int32)), .val (.ref b28), .val (.ref b239), .val (.ref e277b), .val (.int (3 : Int32))] [(.int (f4 (gat p3) (3 : Int32) (gend p0 p3) fh a 3))])) t → Steps p.tables e below (s₁.setTop (mkF m 0 #[.val (.int p0), .val (.int p1), .val (.int p2), .val (.int p3), .unset, .unset, .unset, .unset, .unset, .unset, .unset, .unset] [])) t := by
                  intro t kt
                  refine K301 _ ?_
                  show Steps p.tables e below (T300.setTop (mkF m 374 #[.val (.int p0), .val (.int p1), .val (.int p2), .val (.int p3), .val (.ref b1), .val (.int (gend p0 p3)), .val (.int (gat p3)), .val (.int (4 : Int32)), .val (.ref b28), .val (.ref b239), .val (.ref e277b), .val (.int (2 : Int32))] [(.int (f4 (gat p3) (2 : Int32) (gend p0 p3) fh a 2))])) _
                  refine XS.ifNo X300.here hx rfl (hb hby at_374) rfl ((if0 _ _).trans (feq hc302).1) ?_
                  show Steps p.tables e below (T300.setTop (mkF m 377 #[.val (.int p0), .val (.int p1), .val (.int p2), .val (.int p3), .val (.ref b1), .val (.int (gend p0 p3)), .val (.int (gat p3)), .val (.int (4 : Int32)), .val (.ref b28), .val (.ref b239), .val (.ref e277b), .val (.int (2 : Int32))] [])) _
                  refine XS.iconst X300.here hx rfl (hb hby at_377) ?_
                  show Steps p.tables e below (T300.setTop (mkF m 378 #[.val (.int p0), .val (.int p1), .val (.int p2), .val (.int p3), .val (.ref b1), .val (.int (gend p0 p3)), .val (.int (gat p3)), .val (.int (4 : Int32)), .val (.ref b28), .val (.ref b239), .val (.ref e277b), .val (.int (2 : Int32))] [(.int (3 : Int32))])) _
                  refine XS.istore X300.here hx rfl (hb hby at_378) rfl (l' := #[.val (.int p0), .val (.int p1), .val (.int p2), .val (.int p3), .val (.ref b1), .val (.int (gend p0 p3)), .val (.int (gat p3)), .val (.int (4 : Int32)), .val (.ref b28), .val (.ref b239), .val (.ref e277b), .val (.int (3 : Int32))]) rfl ?_
                  show Steps p.tables e below (T300.setTop (mkF m 380 #[.val (.int p0), .val (.int p1), .val (.int p2), .val (.int p3), .val (.ref b1), .val (.int (gend p0 p3)), .val (.int (gat p3)), .val (.int (4 : Int32)), .val (.ref b28), .val (.ref b239), .val (.ref e277b), .val (.int (3 : Int32))] [])) _
                  refine XS.iload X300.here hx rfl (hb hby at_380) rfl ?_
                  show Steps p.tables e below (T300.setTop (mkF m 382 #[.val (.int p0), .val (.int p1), .val (.int p2), .val (.int p3), .val (.ref b1), .val (.int (gend p0 p3)), .val (.int (gat p3)), .val (.int (4 : Int32)), .val (.ref b28), .val (.ref b239), .val (.ref e277b), .val (.int (3 : Int32))] [(.int (3 : Int32))])) _
                  refine XS.iload X300.here hx rfl (hb hby at_382) rfl ?_
                  show Steps p.tables e below (T300.setTop (mkF m 384 #[.val (.int p0), .val (.int p1), .val (.int p2), .val (.int p3), .val (.ref b1), .val (.int (gend p0 p3)), .val (.int (gat p3)), .val (.int (4 : Int32)), .val (.ref b28), .val (.ref b239), .val (.ref e277b), .val (.int (3 : Int32))] [(.int (4 : Int32)), (.int (3 : Int32))])) _
                  refine XS.icmpNo X300.here hx rfl (hb hby at_384) rfl (tlt (by decide : (3 : Int32) < (4 : Int32))).2.1 ?_
                  show Steps p.tables e below (T300.setTop (mkF m 387 #[.val (.int p0), .val (.int p1), .val (.int p2), .val (.int p3), .val (.ref b1), .val (.int (gend p0 p3)), .val (.int (gat p3)), .val (.int (4 : Int32)), .val (.ref b28), .val (.ref b239), .val (.ref e277b), .val (.int (3 : Int32))] [])) _
                  refine XS.aload X300.here hx rfl (hb hby at_387) rfl rfl ?_
                  show Steps p.tables e below (T300.setTop (mkF m 389 #[.val (.int p0), .val (.int p1), .val (.int p2), .val (.int p3), .val (.ref b1), .val (.int (gend p0 p3)), .val (.int (gat p3)), .val (.int (4 : Int32)), .val (.ref b28), .val (.ref b239), .val (.ref e277b), .val (.int (3 : Int32))] [(.ref b1)])) _
                  refine XS.iload X300.here hx rfl (hb hby at_389) rfl ?_
                  show Steps p.tables e below (T300.setTop (mkF m 391 #[.val (.int p0), .val (.int p1), .val (.int p2), .val (.int p3), .val (.ref b1), .val (.int (gend p0 p3)), .val (.int (gat p3)), .val (.int (4 : Int32)), .val (.ref b28), .val (.ref b239), .val (.ref e277b), .val (.int (3 : Int32))] [(.int (gat p3)), (.ref b1)])) _
                  refine XS.iconst X300.here hx rfl (hb hby at_391) ?_
                  show Steps p.tables e below (T300.setTop (mkF m 392 #[.val (.int p0), .val (.int p1), .val (.int p2), .val (.int p3), .val (.ref b1), .val (.int (gend p0 p3)), .val (.int (gat p3)), .val (.int (4 : Int32)), .val (.ref b28), .val (.ref b239), .val (.ref e277b), .val (.int (3 : Int32))] [(.int (3 : Int32)), (.int (gat p3)), (.ref b1)])) _
                  refine XS.iload X300.here hx rfl (hb hby at_392) rfl ?_
                  show Steps p.tables e below (T300.setTop (mkF m 394 #[.val (.int p0), .val (.int p1), .val (.int p2), .val (.int p3), .val (.ref b1), .val (.int (gend p0 p3)), .val (.int (gat p3)), .val (.int (4 : Int32)), .val (.ref b28), .val (.ref b239), .val (.ref e277b), .val (.int (3 : Int32))] [(.int (gend p0 p3)), (.int (3 : Int32)), (.int (gat p3)), (.ref b1)])) _
                  refine st308 _ ?_
                  exact kt
                by_cases hc310 : (f4 (gat p3) (3 : Int32) (gend p0 p3) fh a 3) = (0 : Int32)
                · skip
                  have hok : ∀ j, j < 3 → okP fh a (gend p0 p3) j := by
                    intro j hj
                    rcases (by omega : j = 0 ∨ j = 1 ∨ j = 2) with rfl | rfl | rfl
                    · exact (Classical.byContradiction fun y => hc286 ((own_ok ha (i := 0) (by decide) ha7 (by decide)).mpr y))
                    · exact (Classical.byContradiction fun y => hc294 ((own_ok ha (i := 1) (by decide) ha7 (by decide)).mpr y))
                    · exact (Classical.byContradiction fun y => hc302 ((own_ok ha (i := 2) (by decide) ha7 (by decide)).mpr y))
                  obtain rfl : kk = 3 := own_dd DDq (by decide) hok (Or.inr ((own_ok ha (i := 3) (by decide) ha7 (by decide)).mp hc310))
                  obtain ⟨_, _, ⟨T311, L311, k311, n311⟩, -, X311, ⟨Lc311, hQ311, l311, y311, z311⟩, st311⟩ := Jvm.LawKit.callS X308 hx (y := (⟨"com/example/benchwire/benchwire/protocols/DelimitedTextDeclaredDelimitersPinLaw", "cell", "([B[B[BIII[B)Z"⟩ : MethodName)) hown (mvT hZ (hw _ (List.mem_of_getElem? (i := 18) rfl))) (mvT hZ (hw _ (List.mem_of_getElem? (i := 19) rfl))) (mvT hZ (hw _ (List.mem_of_getElem? (i := 3) rfl))) (mvT hZ (hw _ (List.mem_of_getElem? (i := 20) rfl))) (by decide) (backOf (W := 0) (rm3 l Z a0 hw [] e277b b239 b1 (gat p3) (3 : Int32) (0 : Int32) b28 (fun j => if j < 3 then fh (a + j) else fq j) fq fh fq 4 a 0 T277.heap A277q G283 G279 G281 ha (by decide) ha7 (by decide) (by decide) (fun _ => (hok 0 (by decide)).1)) hZ (hw _ (List.mem_of_getElem? (i := 20) rfl)) (hw _ (List.mem_of_getElem? (i := 3) rfl)) (by decide) (by decide)) (g := (mkF m 416 #[.val (.int p0), .val (.int p1), .val (.int p2), .val (.int p3), .val (.ref b1), .val (.int (gend p0 p3)), .val (.int (gat p3)), .val (.int (4 : Int32)), .val (.ref b28), .val (.ref b239), .val (.ref e277b), .val (.int (3 : Int32))] [(.ref b28), (.int (0 : Int32)), (.int (3 : Int32)), (.int (gat p3)), (.ref b1), (.ref b239), (.ref e277b)])) rfl (by rw [hml]; rfl) (argsL := [(.ref e277b), (.ref b239), (.ref b1), (.int (gat p3)), (.int (3 : Int32)), (.int (0 : Int32)), (.ref b28)]) (rest := []) (lenOf pd_2 rfl) rfl (by show 2 * 0 + _ ≤ _; exact Nat.le_of_eq rfl) (hb hby at_416) (fun _ _ => ⟨rfl, e308, (by decide : 4 + 0 ≤ _), (by decide : 18 + 0 ≤ _)⟩)
                  dsimp only [Pt.U, Pt.locs, Pt.cells, Pt.slots] at X311 l311 y311 z311 st311 hQ311
                  subst l311 y311 z311
                  obtain ⟨rfl, rfl, e311⟩ := hQ311
                  try rw [List.append_nil] at X311
                  obtain ⟨_, _, ⟨T312, L312, k312, n312⟩, -, X312, ⟨Lc312, hQ312, l312, y312, z312⟩, st312⟩ := Jvm.LawKit.callS X311 hx (y := (⟨"com/example/benchwire/benchwire/protocols/DelimitedTextDeclaredDelimitersPinLaw", "cell", "([B[B[BIII[B)Z"⟩ : MethodName)) hown (mvT hZ (hw _ (List.mem_of_getElem? (i := 18) rfl))) (mvT hZ (hw _ (List.mem_of_getElem? (i := 19) rfl))) (mvT hZ (hw _ (List.mem_of_getElem? (i := 3) rfl))) (mvT hZ (hw _ (List.mem_of_getElem? (i := 20) rfl))) (by decide) (backOf (W := 0) (rm3 l Z a0 hw [] e277b b239 b1 (gat p3) (3 : Int32) (1 : Int32) b28 (fun j => if j < 3 then fh (a + j) else fq j) fq fh fq 4 a 1 T277.heap A277q G283 G279 G281 ha (by decide) ha7 (by decide) (by decide) (fun _ => (hok 1 (by decide)).1)) hZ (hw _ (List.mem_of_getElem? (i := 20) rfl)) (hw _ (List.mem_of_getElem? (i := 3) rfl)) (by decide) (by decide)) (g := (mkF m 435 #[.val (.int p0), .val (.int p1), .val (.int p2), .val (.int p3), .val (.ref b1), .val (.int (gend p0 p3)), .val (.int (gat p3)), .val (.int (4 : Int32)), .val (.ref b28), .val (.ref b239), .val (.ref e277b), .val (.int (3 : Int32))] [(.ref b28), (.int (1 : Int32)), (.int (3 : Int32)), (.int (gat p3)), (.ref b1), (.ref b239), (.ref e277b)])) rfl (by rw [hml]; rfl) (argsL := [(.ref e277b), (.ref b239), (.ref b1), (.int (gat p3)), (.int (3 : Int32)), (.int (1 : Int32)), (.ref b28)]) (rest := []) (lenOf pd_2 rfl) rfl (by show 2 * 0 + _ ≤ _; exact Nat.le_of_eq rfl) (hb hby at_435) (fun _ _ => ⟨rfl, e311, (by decide : 4 + 0 ≤ _), (by decide : 18 + 0 ≤ _)⟩)
                  dsimp only [Pt.U, Pt.locs, Pt.cells, Pt.slots] at X312 l312 y312 z312 st312 hQ312
                  subst l312 y312 z312
                  obtain ⟨rfl, rfl, e312⟩ := hQ312
                  try rw [List.append_nil] at X312
                  obtain ⟨_, _, ⟨T313, L313, k313, n313⟩, -, X313, ⟨Lc313, hQ313, l313, y313, z313⟩, st313⟩ := Jvm.LawKit.callS X312 hx (y := (⟨"com/example/benchwire/benchwire/protocols/DelimitedTextDeclaredDelimitersPinLaw", "cell", "([B[B[BIII[B)Z"⟩ : MethodName)) hown (mvT hZ (hw _ (List.mem_of_getElem? (i := 18) rfl))) (mvT hZ (hw _ (List.mem_of_getElem? (i := 19) rfl))) (mvT hZ (hw _ (List.mem_of_getElem? (i := 3) rfl))) (mvT hZ (hw _ (List.mem_of_getElem? (i := 20) rfl))) (by decide) (backOf (W := 0) (rm3 l Z a0 hw [] e277b b239 b1 (gat p3) (3 : Int32) (2 : Int32) b28 (fun j => if j < 3 then fh (a + j) else fq j) fq fh fq 4 a 2 T277.heap A277q G283 G279 G281 ha (by decide) ha7 (by decide) (by decide) (fun _ => (hok 2 (by decide)).1)) hZ (hw _ (List.mem_of_getElem? (i := 20) rfl)) (hw _ (List.mem_of_getElem? (i := 3) rfl)) (by decide) (by decide)) (g := (mkF m 454 #[.val (.int p0), .val (.int p1), .val (.int p2), .val (.int p3), .val (.ref b1), .val (.int (gend p0 p3)), .val (.int (gat p3)), .val (.int (4 : Int32)), .val (.ref b28), .val (.ref b239), .val (.ref e277b), .val (.int (3 : Int32))] [(.ref b28), (.int (2 : Int32)), (.int (3 : Int32)), (.int (gat p3)), (.ref b1), (.ref b239), (.ref e277b)])) rfl (by rw [hml]; rfl) (argsL := [(.ref e277b), (.ref b239), (.ref b1), (.int (gat p3)), (.int (3 : Int32)), (.int (2 : Int32)), (.ref b28)]) (rest := []) (lenOf pd_2 rfl) rfl (by show 2 * 0 + _ ≤ _; exact Nat.le_of_eq rfl) (hb hby at_454) (fun _ _ => ⟨rfl, e312, (by decide : 4 + 0 ≤ _), (by decide : 18 + 0 ≤ _)⟩)
                  dsimp only [Pt.U, Pt.locs, Pt.cells, Pt.slots] at X313 l313 y313 z313 st313 hQ313
                  subst l313 y313 z313
                  obtain ⟨rfl, rfl, e313⟩ := hQ313
                  try rw [List.append_nil] at X313
                  obtain ⟨_, _, ⟨T314, L314, k314, n314⟩, -, X314, ⟨Lc314, hQ314, l314, y314, z314⟩, st314⟩ := Jvm.LawKit.callS X313 hx (y := (⟨"com/example/benchwire/benchwire/protocols/DelimitedTextDeclaredDelimitersPinLaw", "cell", "([B[B[BIII[B)Z"⟩ : MethodName)) hown (mvT hZ (hw _ (List.mem_of_getElem? (i := 18) rfl))) (mvT hZ (hw _ (List.mem_of_getElem? (i := 19) rfl))) (mvT hZ (hw _ (List.mem_of_getElem? (i := 3) rfl))) (mvT hZ (hw _ (List.mem_of_getElem? (i := 20) rfl))) (by decide) (backOf (W := 0) (rm3 l Z a0 hw [] e277b b239 b1 (gat p3) (3 : Int32) (3 : Int32) b28 (fun j => if j < 3 then fh (a + j) else fq j) fq fh fq 4 a 3 T277.heap A277q G283 G279 G281 ha (by decide) ha7 (by decide) (by decide) (fun z => absurd z (by decide))) hZ (hw _ (List.mem_of_getElem? (i := 20) rfl)) (hw _ (List.mem_of_getElem? (i := 3) rfl)) (by decide) (by decide)) (g := (mkF m 473 #[.val (.int p0), .val (.int p1), .val (.int p2), .val (.int p3), .val (.ref b1), .val (.int (gend p0 p3)), .val (.int (gat p3)), .val (.int (4 : Int32)), .val (.ref b28), .val (.ref b239), .val (.ref e277b), .val (.int (3 : Int32))] [(.ref b28), (.int (3 : Int32)), (.int (3 : Int32)), (.int (gat p3)), (.ref b1), (.ref b239), (.ref e277b)])) rfl (by rw [hml]; rfl) (argsL := [(.ref e277b), (.ref b239), (.ref b1), (.int (gat p3)), (.int (3 : Int32)), (.int (3 : Int32)), (.ref b28)]) (rest := []) (lenOf pd_2 rfl) rfl (by show 2 * 0 + _ ≤ _; exact Nat.le_of_eq rfl) (hb hby at_473) (fun _ _ => ⟨rfl, e313, (by decide : 4 + 0 ≤ _), (by decide : 18 + 0 ≤ _)⟩)
                  dsimp only [Pt.U, Pt.locs, Pt.cells, Pt.slots] at X314 l314 y314 z314 st314 hQ314
                  subst l314 y314 z314
                  obtain ⟨rfl, rfl, e314⟩ := hQ314
                  try rw [List.append_nil] at X314
                  have K315 : ∀ t, Steps p.tables e below (T314.setTop (mkF m 484 #[.val (.int p0), .val (.int p1), .val (.int p2), .val (.int p3), .val (.ref b1), .val (.int (gend p0 p3)), .val (.int (gat p3)), .val (.int (4 : Int32)), .val (.ref b28), .val (.ref b239), .val (.ref e277b), .val (.int (3 : Int32))] [(.int (1 : Int32))])) t → Steps p.tables e below (s₁.setTop (mkF m 0 #[.val (.int p0), .val (.int p1), .val (.int p2), .val (.int p3), .unset, .unset, .unset, .unset, .unset, .unset, .unset, .unset] [])) t := by
                    intro t kt
                    refine K309 _ ?_
                    show Steps p.tables e below (T308.setTop (mkF m 397 #[.val (.int p0), .val (.int p1), .val (.int p2), .val (.int p3), .val (.ref b1), .val (.int (gend p0 p3)), .val (.int (gat p3)), .val (.int (4 : Int32)), .val (.ref b28), .val (.ref b239), .val (.ref e277b), .val (.int (3 : Int32))] [(.int (f4 (gat p3) (3 : Int32) (gend p0 p3) fh a 3))])) _
                    refine XS.ifYes X308.here hx rfl (pc0 := 397) (pc' := 403) rfl (hb hby at_397) rfl ((if0 _ _).trans (teq hc310).1) (by decide) (by decide) ?_
                    show Steps p.tables e below (T308.setTop (mkF m 403 #[.val (.int p0), .val (.int p1), .val (.int p2), .val (.int p3), .val (.ref b1), .val (.int (gend p0 p3)), .val (.int (gat p3)), .val (.int (4 : Int32)), .val (.ref b28), .val (.ref b239), .val (.ref e277b), .val (.int (3 : Int32))] [])) _
                    refine XS.aload X308.here hx rfl (hb hby at_403) rfl rfl ?_
                    show Steps p.tables e below (T308.setTop (mkF m 405 #[.val (.int p0), .val (.int p1), .val (.int p2), .val (.int p3), .val (.ref b1), .val (.int (gend p0 p3)), .val (.int (gat p3)), .val (.int (4 : Int32)), .val (.ref b28), .val (.ref b239), .val (.ref e277b), .val (.int (3 : Int32))] [(.ref e277b)])) _
                    refine XS.aload X308.here hx rfl (hb hby at_405) rfl rfl ?_
                    show Steps p.tables e below (T308.setTop (mkF m 407 #[.val (.int p0), .val (.int p1), .val (.int p2), .val (.int p3), .val (.ref b1), .val (.int (gend p0 p3)), .val (.int (gat p3)), .val (.int (4 : Int32)), .val (.ref b28), .val (.ref b239), .val (.ref e277b), .val (.int (3 : Int32))] [(.ref b239), (.ref e277b)])) _
                    refine XS.aload X308.here hx rfl (hb hby at_407) rfl rfl ?_
                    show Steps p.tables e below (T308.setTop (mkF m 409 #[.val (.int p0), .val (.int p1), .val (.int p2), .val (.int p3), .val (.ref b1), .val (.int (gend p0 p3)), .val (.int (gat p3)), .val (.int (4 : Int32)), .val (.ref b28), .val (.ref b239), .val (.ref e277b), .val (.int (3 : Int32))] [(.ref b1), (.ref b239), (.ref e277b)])) _
                    refine XS.iload X308.here hx rfl (hb hby at_409) rfl ?_
                    show Steps p.tables e below (T308.setTop (mkF m 411 #[.val (.int p0), .val (.int p1), .val (.int p2), .val (.int p3), .val (.ref b1), .val (.int (gend p0 p3)), .val (.int (gat p3)), .val (.int (4 : Int32)), .val (.ref b28), .val (.ref b239), .val (.ref e277b), .val (.int (3 : Int32))] [(.int (gat p3)), (.ref b1), (.ref b239), (.ref e277b)])) _
                    refine XS.iload X308.here hx rfl (hb hby at_411) rfl ?_
                    show Steps p.tables e below (T308.setTop (mkF m 413 #[.val (.int p0), .val (.int p1), .val (.int p2), .val (.int p3), .val (.ref b1), .val (.int (gend p0 p3)), .val (.int (gat p3)), .val (.int (4 : Int32)), .val (.ref b28), .val (.ref b239), .val (.ref e277b), .val (.int (3 : Int32))] [(.int (3 : Int32)), (.int (gat p3)), (.ref b1), (.ref b239), (.ref e277b)])) _
                    refine XS.iconst X308.here hx rfl (hb hby at_413) ?_
                    show Steps p.tables e below (T308.setTop (mkF m 414 #[.val (.int p0), .val (.int p1), .val (.int p2), .val (.int p3), .val (.ref b1), .val (.int (gend p0 p3)), .val (.int (gat p3)), .val (.int (4 : Int32)), .val (.ref b28), .val (.ref b239), .val (.ref e277b), .val (.int (3 : Int32))] [(.int (0 : Int32)), (.int (3 : Int32)), (.int (gat p3)), (.ref b1), (.ref b239), (.ref e277b)])) _
                    refine XS.aload X308.here hx rfl (hb hby at_414) rfl rfl ?_
                    show Steps p.tables e below (T308.setTop (mkF m 416 #[.val (.int p0), .val (.int p1), .val (.int p2), .val (.int p3), .val (.ref b1), .val (.int (gend p0 p3)), .val (.int (gat p3)), .val (.int (4 : Int32)), .val (.ref b28), .val (.ref b239), .val (.ref e277b), .val (.int (3 : Int32))] [(.ref b28), (.int (0 : Int32)), (.int (3 : Int32)), (.int (gat p3)), (.ref b1), (.ref b239), (.ref e277b)])) _
                    refine st311 _ ?_
                    show Steps p.tables e below (T311.setTop (mkF m 419 #[.val (.int p0), .val (.int p1), .val (.int p2), .val (.int p3), .val (.ref b1), .val (.int (gend p0 p3)), .val (.int (gat p3)), .val (.int (4 : Int32)), .val (.ref b28), .val (.ref b239), .val (.ref e277b), .val (.int (3 : Int32))] [(.int (f3 (gat p3) (3 : Int32) (0 : Int32) (fun j => if j < 3 then fh (a + j) else fq j) fq fh fq 4 a 0))])) _
                    refine XS.ifNo X311.here hx rfl (hb hby at_419) rfl ((if0 _ _).trans (feq (show ¬ ((f3 (gat p3) (3 : Int32) (0 : Int32) (fun j => if j < 3 then fh (a + j) else fq j) fq fh fq 4 a 0) = (0 : Int32)) from (own_cell (K := 3) (i := 0) rfl rfl (by decide) (by decide) (fun j hj => rfl) (fun j hj => rfl)))).1) ?_
                    show Steps p.tables e below (T311.setTop (mkF m 422 #[.val (.int p0), .val (.int p1), .val (.int p2), .val (.int p3), .val (.ref b1), .val (.int (gend p0 p3)), .val (.int (gat p3)), .val (.int (4 : Int32)), .val (.ref b28), .val (.ref b239), .val (.ref e277b), .val (.int (3 : Int32))] [])) _
                    refine XS.aload X311.here hx rfl (hb hby at_422) rfl rfl ?_
                    show Steps p.tables e below (T311.setTop (mkF m 424 #[.val (.int p0), .val (.int p1), .val (.int p2), .val (.int p3), .val (.ref b1), .val (.int (gend p0 p3)), .val (.int (gat p3)), .val (.int (4 : Int32)), .val (.ref b28), .val (.ref b239), .val (.ref e277b), .val (.int (3 : Int32))] [(.ref e277b)])) _
                    refine XS.aload X311.here hx rfl (hb hby at_424) rfl rfl ?_
                    show Steps p.tables e below (T311.setTop (mkF m 426 #[.val (.int p0), .val (.int p1), .val (.int p2), .val (.int p3), .val (.ref b1), .val (.int (gend p0 p3)), .val (.int (gat p3)), .val (.int (4 : Int32)), .val (.ref b28), .val (.ref b239), .val (.ref e277b), .val (.int (3 : Int32))] [(.ref b239), (.ref e277b)])) _
                    refine XS.aload X311.here hx rfl (hb hby at_426) rfl rfl ?_
                    show Steps p.tables e below (T311.setTop (mkF m 428 #[.val (.int p0), .val (.int p1), .val (.int p2), .val (.int p3), .val (.ref b1), .val (.int (gend p0 p3)), .val (.int (gat p3)), .val (.int (4 : Int32)), .val (.ref b28), .val (.ref b239), .val (.ref e277b), .val (.int (3 : Int32))] [(.ref b1), (.ref b239), (.ref e277b)])) _
                    refine XS.iload X311.here hx rfl (hb hby at_428) rfl ?_
                    show Steps p.tables e below (T311.setTop (mkF m 430 #[.val (.int p0), .val (.int p1), .val (.int p2), .val (.int p3), .val (.ref b1), .val (.int (gend p0 p3)), .val (.int (gat p3)), .val (.int (4 : Int32)), .val (.ref b28), .val (.ref b239), .val (.ref e277b), .val (.int (3 : Int32))] [(.int (gat p3)), (.ref b1), (.ref b239), (.ref e277b)])) _
                    refine XS.iload X311.here hx rfl (hb hby at_430) rfl ?_
                    show Steps p.tables e below (T311.setTop (mkF m 432 #[.val (.int p0), .val (.int p1), .val (.int p2), .val (.int p3), .val (.ref b1), .val (.int (gend p0 p3)), .val (.int (gat p3)), .val (.int (4 : Int32)), .val (.ref b28), .val (.ref b239), .val (.ref e277b), .val (.int (3 : Int32))] [(.int (3 : Int32)), (.int (gat p3)), (.ref b1), (.ref b239), (.ref e277b)])) _
                    refine XS.iconst X311.here hx rfl (hb hby at_432) ?_
                    show Steps p.tables e below (T311.setTop (mkF m 433 #[.val (.int p0), .val (.int p1), .val (.int p2), .val (.int p3), .val (.ref b1), .val (.int (gend p0 p3)), .val (.int (gat p3)), .val (.int (4 : Int32)), .val (.ref b28), .val (.ref b239), .val (.ref e277b), .val (.int (3 : Int32))] [(.int (1 : Int32)), (.int (3 : Int32)), (.int (gat p3)), (.ref b1), (.ref b239), (.ref e277b)])) _
                    refine XS.aload X311.here hx rfl (hb hby at_433) rfl rfl ?_
                    show Steps p.tables e below (T311.setTop (mkF m 435 #[.val (.int p0), .val (.int p1), .val (.int p2), .val (.int p3), .val (.ref b1), .val (.int (gend p0 p3)), .val (.int (gat p3)), .val (.int (4 : Int32)), .val (.ref b28), .val (.ref b239), .val (.ref e277b), .val (.int (3 : Int32))] [(.ref b28), (.int (1 : Int32)), (.int (3 : Int32)), (.int (gat p3)), (.ref b1), (.ref b239), (.ref e277b)])) _
                    refine st312 _ ?_
                    show Steps p.tables e below (T312.setTop (mkF m 438 #[.val (.int p0), .val (.int p1), .val (.int p2), .val (.int p3), .val (.ref b1), .val (.int (gend p0 p3)), .val (.int (gat p3)), .val (.int (4 : Int32)), .val (.ref b28), .val (.ref b239), .val (.ref e277b), .val (.int (3 : Int32))] [(.int (f3 (gat p3) (3 : Int32) (1 : Int32) (fun j => if j < 3 then fh (a + j) else fq j) fq fh fq 4 a 1))])) _
                    refine XS.ifNo X312.here hx rfl (hb hby at_438) rfl ((if0 _ _).trans (feq (show ¬ ((f3 (gat p3) (3 : Int32) (1 : Int32) (fun j => if j < 3 then fh (a + j) else fq j) fq fh fq 4 a 1) = (0 : Int32)) from (own_cell (K := 3) (i := 1) rfl rfl (by decide) (by decide) (fun j hj => rfl) (fun j hj => rfl)))).1) ?_
                    show Steps p.tables e below (T312.setTop (mkF m 441 #[.val (.int p0), .val (.int p1), .val (.int p2), .val (.int p3), .val (.ref b1), .val (.int (gend p0 p3)), .val (.int (gat p3)), .val (.int (4 : Int32)), .val (.ref b28), .val (.ref b239), .val (.ref e277b), .val (.int (3 : Int32))] [])) _
                    refine XS.aload X312.here hx rfl (hb hby at_441) rfl rfl ?_
                    show Steps p.tables e below (T312.setTop (mkF m 443 #[.val (.int p0), .val (.int p1), .val (.int p2), .val (.int p3), .val (.ref b1), .val (.int (gend p0 p3)), .val (.int (gat p3)), .val (.int (4 : Int32)), .val (.ref b28), .val (.ref b239), .val (.ref e277b), .val (.int (3 : Int32))] [(.ref e277b)])) _
                    refine XS.aload X312.here hx rfl (hb hby at_443) rfl rfl ?_
                    show Steps p.tables e below (T312.setTop (mkF m 445 #[.val (.int p0), .val (.int p1), .val (.int p2), .val (.int p3), .val (.ref b1), .val (.int (gend p0 p3)), .val (.int (gat p3)), .val (.int (4 : Int32)), .val (.ref b28), .val (.ref b239), .val (.ref e277b), .val (.int (3 : Int32))] [(.ref b239), (.ref e277b)])) _
                    refine XS.aload X312.here hx rfl (hb hby at_445) rfl rfl ?_
                    show Steps p.tables e below (T312.setTop (mkF m 447 #[.val (.int p0), .val (.int p1), .val (.int p2), .val (.int p3), .val (.ref b1), .val (.int (gend p0 p3)), .val (.int (gat p3)), .val (.int (4 : Int32)), .val (.ref b28), .val (.ref b239), .val (.ref e277b), .val (.int (3 : Int32))] [(.ref b1), (.ref b239), (.ref e277b)])) _
                    refine XS.iload X312.here hx rfl (hb hby at_447) rfl ?_
                    show Steps p.tables e below (T312.setTop (mkF m 449 #[.val (.int p0), .val (.int p1), .val (.int p2), .val (.int p3), .val (.ref b1), .val (.int (gend p0 p3)), .val (.int (gat p3)), .val (.int (4 : Int32)), .val (.ref b28), .val (.ref b239), .val (.ref e277b), .val (.int (3 : Int32))] [(.int (gat p3)), (.ref b1), (.ref b239), (.ref e277b)])) _
                    refine XS.iload X312.here hx rfl (hb hby at_449) rfl ?_
                    show Steps p.tables e below (T312.setTop (mkF m 451 #[.val (.int p0), .val (.int p1), .val (.int p2), .val (.int p3), .val (.ref b1), .val (.int (gend p0 p3)), .val (.int (gat p3)), .val (.int (4 : Int32)), .val (.ref b28), .val (.ref b239), .val (.ref e277b), .val (.int (3 : Int32))] [(.int (3 : Int32)), (.int (gat p3)), (.ref b1), (.ref b239), (.ref e277b)])) _
                    refine XS.iconst X312.here hx rfl (hb hby at_451) ?_
                    show Steps p.tables e below (T312.setTop (mkF m 452 #[.val (.int p0), .val (.int p1), .val (.int p2), .val (.int p3), .val (.ref b1), .val (.int (gend p0 p3)), .val (.int (gat p3)), .val (.int (4 : Int32)), .val (.ref b28), .val (.ref b239), .val (.ref e277b), .val (.int (3 : Int32))] [(.int (2 : Int32)), (.int (3 : Int32)), (.int (gat p3)), (.ref b1), (.ref b239), (.ref e277b)])) _
                    refine XS.aload X312.here hx rfl (hb hby at_452) rfl rfl ?_
                    show Steps p.tables e below (T312.setTop (mkF m 454 #[.val (.int p0), .val (.int p1), .val (.int p2), .val (.int p3), .val (.ref b1), .val (.int (gend p0 p3)), .val (.int (gat p3)), .val (.int (4 : Int32)), .val (.ref b28), .val (.ref b239), .val (.ref e277b), .val (.int (3 : Int32))] [(.ref b28), (.int (2 : Int32)), (.int (3 : Int32)), (.int (gat p3)), (.ref b1), (.ref b239), (.ref e277b)])) _
                    refine st313 _ ?_
                    show Steps p.tables e below (T313.setTop (mkF m 457 #[.val (.int p0), .val (.int p1), .val (.int p2), .val (.int p3), .val (.ref b1), .val (.int (gend p0 p3)), .val (.int (gat p3)), .val (.int (4 : Int32)), .val (.ref b28), .val (.ref b239), .val (.ref e277b), .val (.int (3 : Int32))] [(.int (f3 (gat p3) (3 : Int32) (2 : Int32) (fun j => if j < 3 then fh (a + j) else fq j) fq fh fq 4 a 2))])) _
                    refine XS.ifNo X313.here hx rfl (hb hby at_457) rfl ((if0 _ _).trans (feq (show ¬ ((f3 (gat p3) (3 : Int32) (2 : Int32) (fun j => if j < 3 then fh (a + j) else fq j) fq fh fq 4 a 2) = (0 : Int32)) from (own_cell (K := 3) (i := 2) rfl rfl (by decide) (by decide) (fun j hj => rfl) (fun j hj => rfl)))).1) ?_
                    show Steps p.tables e below (T313.setTop (mkF m 460 #[.val (.int p0), .val (.int p1), .val (.int p2), .val (.int p3), .val (.ref b1), .val (.int (gend p0 p3)), .val (.int (gat p3)), .val (.int (4 : Int32)), .val (.ref b28), .val (.ref b239), .val (.ref e277b), .val (.int (3 : Int32))] [])) _
                    refine XS.aload X313.here hx rfl (hb hby at_460) rfl rfl ?_
                    show Steps p.tables e below (T313.setTop (mkF m 462 #[.val (.int p0), .val (.int p1), .val (.int p2), .val (.int p3), .val (.ref b1), .val (.int (gend p0 p3)), .val (.int (gat p3)), .val (.int (4 : Int32)), .val (.ref b28), .val (.ref b239), .val (.ref e277b), .val (.int (3 : Int32))] [(.ref e277b)])) _
                    refine XS.aload X313.here hx rfl (hb hby at_462) rfl rfl ?_
                    show Steps p.tables e below (T313.setTop (mkF m 464 #[.val (.int p0), .val (.int p1), .val (.int p2), .val (.int p3), .val (.ref b1), .val (.int (gend p0 p3)), .val (.int (gat p3)), .val (.int (4 : Int32)), .val (.ref b28), .val (.ref b239), .val (.ref e277b), .val (.int (3 : Int32))] [(.ref b239), (.ref e277b)])) _
                    refine XS.aload X313.here hx rfl (hb hby at_464) rfl rfl ?_
                    show Steps p.tables e below (T313.setTop (mkF m 466 #[.val (.int p0), .val (.int p1), .val (.int p2), .val (.int p3), .val (.ref b1), .val (.int (gend p0 p3)), .val (.int (gat p3)), .val (.int (4 : Int32)), .val (.ref b28), .val (.ref b239), .val (.ref e277b), .val (.int (3 : Int32))] [(.ref b1), (.ref b239), (.ref e277b)])) _
                    refine XS.iload X313.here hx rfl (hb hby at_466) rfl ?_
                    show Steps p.tables e below (T313.setTop (mkF m 468 #[.val (.int p0), .val (.int p1), .val (.int p2), .val (.int p3), .val (.ref b1), .val (.int (gend p0 p3)), .val (.int (gat p3)), .val (.int (4 : Int32)), .val (.ref b28), .val (.ref b239), .val (.ref e277b), .val (.int (3 : Int32))] [(.int (gat p3)), (.ref b1), (.ref b239), (.ref e277b)])) _
                    refine XS.iload X313.here hx rfl (hb hby at_468) rfl ?_
                    show Steps p.tables e below (T313.setTop (mkF m 470 #[.val (.int p0), .val (.int p1), .val (.int p2), .val (.int p3), .val (.ref b1), .val (.int (gend p0 p3)), .val (.int (gat p3)), .val (.int (4 : Int32)), .val (.ref b28), .val (.ref b239), .val (.ref e277b), .val (.int (3 : Int32))] [(.int (3 : Int32)), (.int (gat p3)), (.ref b1), (.ref b239), (.ref e277b)])) _
                    refine XS.iconst X313.here hx rfl (hb hby at_470) ?_
                    show Steps p.tables e below (T313.setTop (mkF m 471 #[.val (.int p0), .val (.int p1), .val (.int p2), .val (.int p3), .val (.ref b1), .val (.int (gend p0 p3)), .val (.int (gat p3)), .val (.int (4 : Int32)), .val (.ref b28), .val (.ref b239), .val (.ref e277b), .val (.int (3 : Int32))] [(.int (3 : Int32)), (.int (3 : Int32)), (.int (gat p3)), (.ref b1), (.ref b239), (.ref e277b)])) _
                    refine XS.aload X313.here hx rfl (hb hby at_471) rfl rfl ?_
                    show Steps p.tables e below (T313.setTop (mkF m 473 #[.val (.int p0), .val (.int p1), .val (.int p2), .val (.int p3), .val (.ref b1), .val (.int (gend p0 p3)), .val (.int (gat p3)), .val (.int (4 : Int32)), .val (.ref b28), .val (.ref b239), .val (.ref e277b), .val (.int (3 : Int32))] [(.ref b28), (.int (3 : Int32)), (.int (3 : Int32)), (.int (gat p3)), (.ref b1), (.ref b239), (.ref e277b)])) _
                    refine st314 _ ?_
                    show Steps p.tables e below (T314.setTop (mkF m 476 #[.val (.int p0), .val (.int p1), .val (.int p2), .val (.int p3), .val (.ref b1), .val (.int (gend p0 p3)), .val (.int (gat p3)), .val (.int (4 : Int32)), .val (.ref b28), .val (.ref b239), .val (.ref e277b), .val (.int (3 : Int32))] [(.int (f3 (gat p3) (3 : Int32) (3 : Int32) (fun j => if j < 3 then fh (a + j) else fq j) fq fh fq 4 a 3))])) _
                    refine XS.ifNo X314.here hx rfl (hb hby at_476) rfl ((if0 _ _).trans (feq (show ¬ ((f3 (gat p3) (3 : Int32) (3 : Int32) (fun j => if j < 3 then fh (a + j) else fq j) fq fh fq 4 a 3) = (0 : Int32)) from (own_cell (K := 3) (i := 3) rfl rfl (by decide) (by decide) (fun j hj => rfl) (fun j hj => rfl)))).1) ?_
                    show Steps p.tables e below (T314.setTop (mkF m 479 #[.val (.int p0), .val (.int p1), .val (.int p2), .val (.int p3), .val (.ref b1), .val (.int (gend p0 p3)), .val (.int (gat p3)), .val (.int (4 : Int32)), .val (.ref b28), .val (.ref b239), .val (.ref e277b), .val (.int (3 : Int32))] [])) _
                    refine XS.iconst X314.here hx rfl (hb hby at_479) ?_
                    show Steps p.tables e below (T314.setTop (mkF m 480 #[.val (.int p0), .val (.int p1), .val (.int p2), .val (.int p3), .val (.ref b1), .val (.int (gend p0 p3)), .val (.int (gat p3)), .val (.int (4 : Int32)), .val (.ref b28), .val (.ref b239), .val (.ref e277b), .val (.int (3 : Int32))] [(.int (1 : Int32))])) _
                    refine XS.goto X314.here hx rfl (pc0 := 480) (pc' := 484) rfl (hb hby at_480) (by decide) (by decide) ?_
                    exact kt
                  obtain ⟨fsQ, hr, hrun, hended, hW, hsame⟩ := X314.leave (v := some (.int (1 : Int32))) (fun h => by rw [Bd.returns] at h; cases h)
                  refine ⟨_, _, pre0 _ (K315 _ ?_), hrun, hended, _, _, rfl, ?_, ⟨_, rfl⟩, hW, hsame.mono (by decide) (by decide)⟩
                  · show Steps p.tables e below (T314.setTop (mkF m 484 #[.val (.int p0), .val (.int p1), .val (.int p2), .val (.int p3), .val (.ref b1), .val (.int (gend p0 p3)), .val (.int (gat p3)), .val (.int (4 : Int32)), .val (.ref b28), .val (.ref b239), .val (.ref e277b), .val (.int (3 : Int32))] [(.int (1 : Int32))])) _
                    exact retN X314 hx (t := .boolean) Bd.returns (by simp) (hb hby at_484) hr
                  · show Q0 Z p0 p1 p2 p3  h0 n0 _ T314.heap _
                    rw [e314]
                    exact ⟨rfl, N277⟩
                · skip
                  have hok : ∀ j, j < 4 → okP fh a (gend p0 p3) j := by
                    intro j hj
                    rcases (by omega : j = 0 ∨ j = 1 ∨ j = 2 ∨ j = 3) with rfl | rfl | rfl | rfl
                    · exact (Classical.byContradiction fun y => hc286 ((own_ok ha (i := 0) (by decide) ha7 (by decide)).mpr y))
                    · exact (Classical.byContradiction fun y => hc294 ((own_ok ha (i := 1) (by decide) ha7 (by decide)).mpr y))
                    · exact (Classical.byContradiction fun y => hc302 ((own_ok ha (i := 2) (by decide) ha7 (by decide)).mpr y))
                    · exact (Classical.byContradiction fun y => hc310 ((own_ok ha (i := 3) (by decide) ha7 (by decide)).mpr y))
                  obtain rfl : kk = 4 := own_dd DDq (by decide) hok (Or.inl rfl)
                  obtain ⟨_, _, ⟨T316, L316, k316, n316⟩, -, X316, ⟨Lc316, hQ316, l316, y316, z316⟩, st316⟩ := Jvm.LawKit.callS X308 hx (y := (⟨"com/example/benchwire/benchwire/protocols/DelimitedTextDeclaredDelimitersPinLaw", "cell", "([B[B[BIII[B)Z"⟩ : MethodName)) hown (mvT hZ (hw _ (List.mem_of_getElem? (i := 18) rfl))) (mvT hZ (hw _ (List.mem_of_getElem? (i := 19) rfl))) (mvT hZ (hw _ (List.mem_of_getElem? (i := 3) rfl))) (mvT hZ (hw _ (List.mem_of_getElem? (i := 20) rfl))) (by decide) (backOf (W := 0) (rm3 l Z a0 hw [] e277b b239 b1 (gat p3) (4 : Int32) (0 : Int32) b28 (fun j => if j < 4 then fh (a + j) else fq j) fq fh fq 4 a 0 T277.heap A277q G283 G279 G281 ha (by decide) ha7 (by decide) (by decide) (fun _ => (hok 0 (by decide)).1)) hZ (hw _ (List.mem_of_getElem? (i := 20) rfl)) (hw _ (List.mem_of_getElem? (i := 3) rfl)) (by decide) (by decide)) (g := (mkF m 416 #[.val (.int p0), .val (.int p1), .val (.int p2), .val (.int p3), .val (.ref b1), .val (.int (gend p0 p3)), .val (.int (gat p3)), .val (.int (4 : Int32)), .val (.ref b28), .val (.ref b239), .val (.ref e277b), .val (.int (4 : Int32))] [(.ref b28), (.int (0 : Int32)), (.int (4 : Int32)), (.int (gat p3)), (.ref b1), (.ref b239), (.ref e277b)])) rfl (by rw [hml]; rfl) (argsL := [(.ref e277b), (.ref b239), (.ref b1), (.int (gat p3)), (.int (4 : Int32)), (.int (0 : Int32)), (.ref b28)]) (rest := []) (lenOf pd_2 rfl) rfl (by show 2 * 0 + _ ≤ _; exact Nat.le_of_eq rfl) (hb hby at_416) (fun _ _ => ⟨rfl, e308, (by decide : 4 + 0 ≤ _), (by decide : 18 + 0 ≤ _)⟩)
                  dsimp only [Pt.U, Pt.locs, Pt.cells, Pt.slots] at X316 l316 y316 z316 st316 hQ316
                  subst l316 y316 z316
                  obtain ⟨rfl, rfl, e316⟩ := hQ316
                  try rw [List.append_nil] at X316
                  obtain ⟨_, _, ⟨T317, L317, k317, n317⟩, -, X317, ⟨Lc317, hQ317, l317, y317, z317⟩, st317⟩ := Jvm.LawKit.callS X316 hx (y := (⟨"com/example/benchwire/benchwire/protocols/DelimitedTextDeclaredDelimitersPinLaw", "cell", "([B[B[BIII[B)Z"⟩ : MethodName)) hown (mvT hZ (hw _ (List.mem_of_getElem? (i := 18) rfl))) (mvT hZ (hw _ (List.mem_of_getElem? (i := 19) rfl))) (mvT hZ (hw _ (List.mem_of_getElem? (i := 3) rfl))) (mvT hZ (hw _ (List.mem_of_getElem? (i := 20) rfl))) (by decide) (backOf (W := 0) (rm3 l Z a0 hw [] e277b b239 b1 (gat p3) (4 : Int32) (1 : Int32) b28 (fun j => if j < 4 then fh (a + j) else fq j) fq fh fq 4 a 1 T277.heap A277q G283 G279 G281 ha (by decide) ha7 (by decide) (by decide) (fun _ => (hok 1 (by decide)).1)) hZ (hw _ (List.mem_of_getElem? (i := 20) rfl)) (hw _ (List.mem_of_getElem? (i := 3) rfl)) (by decide) (by decide)) (g := (mkF m 435 #[.val (.int p0), .val (.int p1), .val (.int p2), .val (.int p3), .val (.ref b1), .val (.int (gend p0 p3)), .val (.int (gat p3)), .val (.int (4 : Int32)), .val (.ref b28), .val (.ref b239), .val (.ref e277b), .val (.int (4 : Int32))] [(.ref b28), (.int (1 : Int32)), (.int (4 : Int32)), (.int (gat p3)), (.ref b1), (.ref b239), (.ref e277b)])) rfl (by rw [hml]; rfl) (argsL := [(.ref e277b), (.ref b239), (.ref b1), (.int (gat p3)), (.int (4 : Int32)), (.int (1 : Int32)), (.ref b28)]) (rest := []) (lenOf pd_2 rfl) rfl (by show 2 * 0 + _ ≤ _; exact Nat.le_of_eq rfl) (hb hby at_435) (fun _ _ => ⟨rfl, e316, (by decide : 4 + 0 ≤ _), (by decide : 18 + 0 ≤ _)⟩)
                  dsimp only [Pt.U, Pt.locs, Pt.cells, Pt.slots] at X317 l317 y317 z317 st317 hQ317
                  subst l317 y317 z317
                  obtain ⟨rfl, rfl, e317⟩ := hQ317
                  try rw [List.append_nil] at X317
                  obtain ⟨_, _, ⟨T318, L318, k318, n318⟩, -, X318, ⟨Lc318, hQ318, l318, y318, z318⟩, st318⟩ := Jvm.LawKit.callS X317 hx (y := (⟨"com/example/benchwire/benchwire/protocols/DelimitedTextDeclaredDelimitersPinLaw", "cell", "([B[B[BIII[B)Z"⟩ : MethodName)) hown (mvT hZ (hw _ (List.mem_of_getElem? (i := 18) rfl))) (mvT hZ (hw _ (List.mem_of_getElem? (i := 19) rfl))) (mvT hZ (hw _ (List.mem_of_getElem? (i := 3) rfl))) (mvT hZ (hw _ (List.mem_of_getElem? (i := 20) rfl))) (by decide) (backOf (W := 0) (rm3 l Z a0 hw [] e277b b239 b1 (gat p3) (4 : Int32) (2 : Int32) b28 (fun j => if j < 4 then fh (a + j) else fq j) fq fh fq 4 a 2 T277.heap A277q G283 G279 G281 ha (by decide) ha7 (by decide) (by decide) (fun _ => (hok 2 (by decide)).1)) hZ (hw _ (List.mem_of_getElem? (i := 20) rfl)) (hw _ (List.mem_of_getElem? (i := 3) rfl)) (by decide) (by decide)) (g := (mkF m 454 #[.val (.int p0), .val (.int p1), .val (.int p2), .val (.int p3), .val (.ref b1), .val (.int (gend p0 p3)), .val (.int (gat p3)), .val (.int (4 : Int32)), .val (.ref b28), .val (.ref b239), .val (.ref e277b), .val (.int (4 : Int32))] [(.ref b28), (.int (2 : Int32)), (.int (4 : Int32)), (.int (gat p3)), (.ref b1), (.ref b239), (.ref e277b)])) rfl (by rw [hml]; rfl) (argsL := [(.ref e277b), (.ref b239), (.ref b1), (.int (gat p3)), (.int (4 : Int32)), (.int (2 : Int32)), (.ref b28)]) (rest := []) (lenOf pd_2 rfl) rfl (by show 2 * 0 + _ ≤ _; exact Nat.le_of_eq rfl) (hb hby at_454) (fun _ _ => ⟨rfl, e317, (by decide : 4 + 0 ≤ _), (by decide : 18 + 0 ≤ _)⟩)
                  dsimp only [Pt.U, Pt.locs, Pt.cells, Pt.slots] at X318 l318 y318 z318 st318 hQ318
                  subst l318 y318 z318
                  obtain ⟨rfl, rfl, e318⟩ := hQ318
                  try rw [List.append_nil] at X318
                  obtain ⟨_, _, ⟨T319, L319, k319, n319⟩, -, X319, ⟨Lc319, hQ319, l319, y319, z319⟩, st319⟩ := Jvm.LawKit.callS X318 hx (y := (⟨"com/example/benchwire/benchwire/protocols/DelimitedTextDeclaredDelimitersPinLaw", "cell", "([B[B[BIII[B)Z"⟩ : MethodName)) hown (mvT hZ (hw _ (List.mem_of_getElem? (i := 18) rfl))) (mvT hZ (hw _ (List.mem_of_getElem? (i := 19) rfl))) (mvT hZ (hw _ (List.mem_of_getElem? (i := 3) rfl))) (mvT hZ (hw _ (List.mem_of_getElem? (i := 20) rfl))) (by decide) (backOf (W := 0) (rm3 l Z a0 hw [] e277b b239 b1 (gat p3) (4 : Int32) (3 : Int32) b28 (fun j => if j < 4 then fh (a + j) else fq j) fq fh fq 4 a 3 T277.heap A277q G283 G279 G281 ha (by decide) ha7 (by decide) (by decide) (fun _ => (hok 3 (by decide)).1)) hZ (hw _ (List.mem_of_getElem? (i := 20) rfl)) (hw _ (List.mem_of_getElem? (i := 3) rfl)) (by decide) (by decide)) (g := (mkF m 473 #[.val (.int p0), .val (.int p1), .val (.int p2), .val (.int p3), .val (.ref b1), .val (.int (gend p0 p3)), .val (.int (gat p3)), .val (.int (4 : Int32)), .val (.ref b28), .val (.ref b239), .val (.ref e277b), .val (.int (4 : Int32))] [(.ref b28), (.int (3 : Int32)), (.int (4 : Int32)), (.int (gat p3)), (.ref b1), (.ref b239), (.ref e277b)])) rfl (by rw [hml]; rfl) (argsL := [(.ref e277b), (.ref b239), (.ref b1), (.int (gat p3)), (.int (4 : Int32)), (.int (3 : Int32)), (.ref b28)]) (rest := []) (lenOf pd_2 rfl) rfl (by show 2 * 0 + _ ≤ _; exact Nat.le_of_eq rfl) (hb hby at_473) (fun _ _ => ⟨rfl, e318, (by decide : 4 + 0 ≤ _), (by decide : 18 + 0 ≤ _)⟩)
                  dsimp only [Pt.U, Pt.locs, Pt.cells, Pt.slots] at X319 l319 y319 z319 st319 hQ319
                  subst l319 y319 z319
                  obtain ⟨rfl, rfl, e319⟩ := hQ319
                  try rw [List.append_nil] at X319
                  have K320 : ∀ t, Steps p.tables e below (T319.setTop (mkF m 484 #[.val (.int p0), .val (.int p1), .val (.int p2), .val (.int p3), .val (.ref b1), .val (.int (gend p0 p3)), .val (.int (gat p3)), .val (.int (4 : Int32)), .val (.ref b28), .val (.ref b239), .val (.ref e277b), .val (.int (4 : Int32))] [(.int (1 : Int32))])) t → Steps p.tables e below (s₁.setTop (mkF m 0 #[.val (.int p0), .val (.int p1), .val (.int p2), .val (.int p3), .unset, .unset, .unset, .unset, .unset, .unset, .unset, .unset] [])) t := by
                    intro t kt
                    refine K309 _ ?_
                    show Steps p.tables e below (T308.setTop (mkF m 397 #[.val (.int p0), .val (.int p1), .val (.int p2), .val (.int p3), .val (.ref b1), .val (.int (gend p0 p3)), .val (.int (gat p3)), .val (.int (4 : Int32)), .val (.ref b28), .val (.ref b239), .val (.ref e277b), .val (.int (3 : Int32))] [(.int (f4 (gat p3) (3 : Int32) (gend p0 p3) fh a 3))])) _
                    refine XS.ifNo X308.here hx rfl (hb hby at_397) rfl ((if0 _ _).trans (feq hc310).1) ?_
                    show Steps p.tables e below (T308.setTop (mkF m 400 #[.val (.int p0), .val (.int p1), .val (.int p2), .val (.int p3), .val (.ref b1), .val (.int (gend p0 p3)), .val (.int (gat p3)), .val (.int (4 : Int32)), .val (.ref b28), .val (.ref b239), .val (.ref e277b), .val (.int (3 : Int32))] [])) _
                    refine XS.iconst X308.here hx rfl (hb hby at_400) ?_
                    show Steps p.tables e below (T308.setTop (mkF m 401 #[.val (.int p0), .val (.int p1), .val (.int p2), .val (.int p3), .val (.ref b1), .val (.int (gend p0 p3)), .val (.int (gat p3)), .val (.int (4 : Int32)), .val (.ref b28), .val (.ref b239), .val (.ref e277b), .val (.int (3 : Int32))] [(.int (4 : Int32))])) _
                    refine XS.istore X308.here hx rfl (hb hby at_401) rfl (l' := #[.val (.int p0), .val (.int p1), .val (.int p2), .val (.int p3), .val (.ref b1), .val (.int (gend p0 p3)), .val (.int (gat p3)), .val (.int (4 : Int32)), .val (.ref b28), .val (.ref b239), .val (.ref e277b), .val (.int (4 : Int32))]) rfl ?_
                    show Steps p.tables e below (T308.setTop (mkF m 403 #[.val (.int p0), .val (.int p1), .val (.int p2), .val (.int p3), .val (.ref b1), .val (.int (gend p0 p3)), .val (.int (gat p3)), .val (.int (4 : Int32)), .val (.ref b28), .val (.ref b239), .val (.ref e277b), .val (.int (4 : Int32))] [])) _
                    refine XS.aload X308.here hx rfl (hb hby at_403) rfl rfl ?_
                    show Steps p.tables e below (T308.setTop (mkF m 405 #[.val (.int p0), .val (.int p1), .val (.int p2), .val (.int p3), .val (.ref b1), .val (.int (gend p0 p3)), .val (.int (gat p3)), .val (.int (4 : Int32)), .val (.ref b28), .val (.ref b239), .val (.ref e277b), .val (.int (4 : Int32))] [(.ref e277b)])) _
                    refine XS.aload X308.here hx rfl (hb hby at_405) rfl rfl ?_
                    show Steps p.tables e below (T308.setTop (mkF m 407 #[.val (.int p0), .val (.int p1), .val (.int p2), .val (.int p3), .val (.ref b1), .val (.int (gend p0 p3)), .val (.int (gat p3)), .val (.int (4 : Int32)), .val (.ref b28), .val (.ref b239), .val (.ref e277b), .val (.int (4 : Int32))] [(.ref b239), (.ref e277b)])) _
                    refine XS.aload X308.here hx rfl (hb hby at_407) rfl rfl ?_
                    show Steps p.tables e below (T308.setTop (mkF m 409 #[.val (.int p0), .val (.int p1), .val (.int p2), .val (.int p3), .val (.ref b1), .val (.int (gend p0 p3)), .val (.int (gat p3)), .val (.int (4 : Int32)), .val (.ref b28), .val (.ref b239), .val (.ref e277b), .val (.int (4 : Int32))] [(.ref b1), (.ref b239), (.ref e277b)])) _
                    refine XS.iload X308.here hx rfl (hb hby at_409) rfl ?_
                    show Steps p.tables e below (T308.setTop (mkF m 411 #[.val (.int p0), .val (.int p1), .val (.int p2), .val (.int p3), .val (.ref b1), .val (.int (gend p0 p3)), .val (.int (gat p3)), .val (.int (4 : Int32)), .val (.ref b28), .val (.ref b239), .val (.ref e277b), .val (.int (4 : Int32))] [(.int (gat p3)), (.ref b1), (.ref b239), (.ref e277b)])) _
                    refine XS.iload X308.here hx rfl (hb hby at_411) rfl ?_
                    show Steps p.tables e below (T308.setTop (mkF m 413 #[.val (.int p0), .val (.int p1), .val (.int p2), .val (.int p3), .val (.ref b1), .val (.int (gend p0 p3)), .val (.int (gat p3)), .val (.int (4 : Int32)), .val (.ref b28), .val (.ref b239), .val (.ref e277b), .val (.int (4 : Int32))] [(.int (4 : Int32)), (.int (gat p3)), (.ref b1), (.ref b239), (.ref e277b)])) _
                    refine XS.iconst X308.here hx rfl (hb hby at_413) ?_
                    show Steps p.tables e below (T308.setTop (mkF m 414 #[.val (.int p0), .val (.int p1), .val (.int p2), .val (.int p3), .val (.ref b1), .val (.int (gend p0 p3)), .val (.int (gat p3)), .val (.int (4 : Int32)), .val (.ref b28), .val (.ref b239), .val (.ref e277b), .val (.int (4 : Int32))] [(.int (0 : Int32)), (.int (4 : Int32)), (.int (gat p3)), (.ref b1), (.ref b239), (.ref e277b)])) _
                    refine XS.aload X308.here hx rfl (hb hby at_414) rfl rfl ?_
                    show Steps p.tables e below (T308.setTop (mkF m 416 #[.val (.int p0), .val (.int p1), .val (.int p2), .val (.int p3), .val (.ref b1), .val (.int (gend p0 p3)), .val (.int (gat p3)), .val (.int (4 : Int32)), .val (.ref b28), .val (.ref b239), .val (.ref e277b), .val (.int (4 : Int32))] [(.ref b28), (.int (0 : Int32)), (.int (4 : Int32)), (.int (gat p3)), (.ref b1), (.ref b239), (.ref e277b)])) _
                    refine st316 _ ?_
                    show Steps p.tables e below (T316.setTop (mkF m 419 #[.val (.int p0), .val (.int p1), .val (.int p2), .val (.int p3), .val (.ref b1), .val (.int (gend p0 p3)), .val (.int (gat p3)), .val (.int (4 : Int32)), .val (.ref b28), .val (.ref b239), .val (.ref e277b), .val (.int (4 : Int32))] [(.int (f3 (gat p3) (4 : Int32) (0 : Int32) (fun j => if j < 4 then fh (a + j) else fq j) fq fh fq 4 a 0))])) _
                    refine XS.ifNo X316.here hx rfl (hb hby at_419) rfl ((if0 _ _).trans (feq (show ¬ ((f3 (gat p3) (4 : Int32) (0 : Int32) (fun j => if j < 4 then fh (a + j) else fq j) fq fh fq 4 a 0) = (0 : Int32)) from (own_cell (K := 4) (i := 0) rfl rfl (by decide) (by decide) (fun j hj => rfl) (fun j hj => rfl)))).1) ?_
                    show Steps p.tables e below (T316.setTop (mkF m 422 #[.val (.int p0), .val (.int p1), .val (.int p2), .val (.int p3), .val (.ref b1), .val (.int (gend p0 p3)), .val (.int (gat p3)), .val (.int (4 : Int32)), .val (.ref b28), .val (.ref b239), .val (.ref e277b), .val (.int (4 : Int32))] [])) _
                    refine XS.aload X316.here hx rfl (hb hby at_422) rfl rfl ?_
                    show Steps p.tables e below (T316.setTop (mkF m 424 #[.val (.int p0), .val (.int p1), .val (.int p2), .val (.int p3), .val (.ref b1), .val (.int (gend p0 p3)), .val (.int (gat p3)), .val (.int (4 : Int32)), .val (.ref b28), .val (.ref b239), .val (.ref e277b), .val (.int (4 : Int32))] [(.ref e277b)])) _
                    refine XS.aload X316.here hx rfl (hb hby at_424) rfl rfl ?_
                    show Steps p.tables e below (T316.setTop (mkF m 426 #[.val (.int p0), .val (.int p1), .val (.int p2), .val (.int p3), .val (.ref b1), .val (.int (gend p0 p3)), .val (.int (gat p3)), .val (.int (4 : Int32)), .val (.ref b28), .val (.ref b239), .val (.ref e277b), .val (.int (4 : Int32))] [(.ref b239), (.ref e277b)])) _
                    refine XS.aload X316.here hx rfl (hb hby at_426) rfl rfl ?_
                    show Steps p.tables e below (T316.setTop (mkF m 428 #[.val (.int p0), .val (.int p1), .val (.int p2), .val (.int p3), .val (.ref b1), .val (.int (gend p0 p3)), .val (.int (gat p3)), .val (.int (4 : Int32)), .val (.ref b28), .val (.ref b239), .val (.ref e277b), .val (.int (4 : Int32))] [(.ref b1), (.ref b239), (.ref e277b)])) _
                    refine XS.iload X316.here hx rfl (hb hby at_428) rfl ?_
                    show Steps p.tables e below (T316.setTop (mkF m 430 #[.val (.int p0), .val (.int p1), .val (.int p2), .val (.int p3), .val (.ref b1), .val (.int (gend p0 p3)), .val (.int (gat p3)), .val (.int (4 : Int32)), .val (.ref b28), .val (.ref b239), .val (.ref e277b), .val (.int (4 : Int32))] [(.int (gat p3)), (.ref b1), (.ref b239), (.ref e277b)])) _
                    refine XS.iload X316.here hx rfl (hb hby at_430) rfl ?_
                    show Steps p.tables e below (T316.setTop (mkF m 432 #[.val (.int p0), .val (.int p1), .val (.int p2), .val (.int p3), .val (.ref b1), .val (.int (gend p0 p3)), .val (.int (gat p3)), .val (.int (4 : Int32)), .val (.ref b28), .val (.ref b239), .val (.ref e277b), .val (.int (4 : Int32))] [(.int (4 : Int32)), (.int (gat p3)), (.ref b1), (.ref b239), (.ref e277b)])) _
                    refine XS.iconst X316.here hx rfl (hb hby at_432) ?_
                    show Steps p.tables e below (T316.setTop (mkF m 433 #[.val (.int p0), .val (.int p1), .val (.int p2), .val (.int p3), .val (.ref b1), .val (.int (gend p0 p3)), .val (.int (gat p3)), .val (.int (4 : Int32)), .val (.ref b28), .val (.ref b239), .val (.ref e277b), .val (.int (4 : Int32))] [(.int (1 : Int32)), (.int (4 : Int32)), (.int (gat p3)), (.ref b1), (.ref b239), (.ref e277b)])) _
                    refine XS.aload X316.here hx rfl (hb hby at_433) rfl rfl ?_
                    show Steps p.tables e below (T316.setTop (mkF m 435 #[.val (.int p0), .val (.int p1), .val (.int p2), .val (.int p3), .val (.ref b1), .val (.int (gend p0 p3)), .val (.int (gat p3)), .val (.int (4 : Int32)), .val (.ref b28), .val (.ref b239), .val (.ref e277b), .val (.int (4 : Int32))] [(.ref b28), (.int (1 : Int32)), (.int (4 : Int32)), (.int (gat p3)), (.ref b1), (.ref b239), (.ref e277b)])) _
                    refine st317 _ ?_
                    show Steps p.tables e below (T317.setTop (mkF m 438 #[.val (.int p0), .val (.int p1), .val (.int p2), .val (.int p3), .val (.ref b1), .val (.int (gend p0 p3)), .val (.int (gat p3)), .val (.int (4 : Int32)), .val (.ref b28), .val (.ref b239), .val (.ref e277b), .val (.int (4 : Int32))] [(.int (f3 (gat p3) (4 : Int32) (1 : Int32) (fun j => if j < 4 then fh (a + j) else fq j) fq fh fq 4 a 1))])) _
                    refine XS.ifNo X317.here hx rfl (hb hby at_438) rfl ((if0 _ _).trans (feq (show ¬ ((f3 (gat p3) (4 : Int32) (1 : Int32) (fun j => if j < 4 then fh (a + j) else fq j) fq fh fq 4 a 1) = (0 : Int32)) from (own_cell (K := 4) (i := 1) rfl rfl (by decide) (by decide) (fun j hj => rfl) (fun j hj => rfl)))).1) ?_
                    show Steps p.tables e below (T317.setTop (mkF m 441 #[.val (.int p0), .val (.int p1), .val (.int p2), .val (.int p3), .val (.ref b1), .val (.int (gend p0 p3)), .val (.int (gat p3)), .val (.int (4 : Int32)), .val (.ref b28), .val (.ref b239), .val (.ref e277b), .val (.int (4 : Int32))] [])) _
                    refine XS.aload X317.here hx rfl (hb hby at_441) rfl rfl ?_
                    show Steps p.tables e below (T317.setTop (mkF m 443 #[.val (.int p0), .val (.int p1), .val (.int p2), .val (.int p3), .val (.ref b1), .val (.int (gend p0 p3)), .val (.int (gat p3)), .val (.int (4 : Int32)), .val (.ref b28), .val (.ref b239), .val (.ref e277b), .val (.int (4 : Int32))] [(.ref e277b)])) _
                    refine XS.aload X317.here hx rfl (hb hby at_443) rfl rfl ?_
                    show Steps p.tables e below (T317.setTop (mkF m 445 #[.val (.int p0), .val (.int p1), .val (.int p2), .val (.int p3), .val (.ref b1), .val (.int (gend p0 p3)), .val (.int (gat p3)), .val (.int (4 : Int32)), .val (.ref b28), .val (.ref b239), .val (.ref e277b), .val (.int (4 : Int32))] [(.ref b239), (.ref e277b)])) _
                    refine XS.aload X317.here hx rfl (hb hby at_445) rfl rfl ?_
                    show Steps p.tables e below (T317.setTop (mkF m 447 #[.val (.int p0), .val (.int p1), .val (.int p2), .val (.int p3), .val (.ref b1), .val (.int (gend p0 p3)), .val (.int (gat p3)), .val (.int (4 : Int32)), .val (.ref b28), .val (.ref b239), .val (.ref e277b), .val (.int (4 : Int32))] [(.ref b1), (.ref b239), (.ref e277b)])) _
                    refine XS.iload X317.here hx rfl (hb hby at_447) rfl ?_
                    show Steps p.tables e below (T317.setTop (mkF m 449 #[.val (.int p0), .val (.int p1), .val (.int p2), .val (.int p3), .val (.ref b1), .val (.int (gend p0 p3)), .val (.int (gat p3)), .val (.int (4 : Int32)), .val (.ref b28), .val (.ref b239), .val (.ref e277b), .val (.int (4 : Int32))] [(.int (gat p3)), (.ref b1), (.ref b239), (.ref e277b)])) _
                    refine XS.iload X317.here hx rfl (hb hby at_449) rfl ?_
                    show Steps p.tables e below (T317.setTop (mkF m 451 #[.val (.int p0), .val (.int p1), .val (.int p2), .val (.int p3), .val (.ref b1), .val (.int (gend p0 p3)), .val (.int (gat p3)), .val (.int (4 : Int32)), .val (.ref b28), .val (.ref b239), .val (.ref e277b), .val (.int (4 : Int32))] [(.int (4 : Int32)), (.int (gat p3)), (.ref b1), (.ref b239), (.ref e277b)])) _
                    refine XS.iconst X317.here hx rfl (hb hby at_451) ?_
                    show Steps p.tables e below (T317.setTop (mkF m 452 #[.val (.int p0), .val (.int p1), .val (.int p2), .val (.int p3), .val (.ref b1), .val (.int (gend p0 p3)), .val (.int (gat p3)), .val (.int (4 : Int32)), .val (.ref b28), .val (.ref b239), .val (.ref e277b), .val (.int (4 : Int32))] [(.int (2 : Int32)), (.int (4 : Int32)), (.int (gat p3)), (.ref b1), (.ref b239), (.ref e277b)])) _
                    refine XS.aload X317.here hx rfl (hb hby at_452) rfl rfl ?_
                    show Steps p.tables e below (T317.setTop (mkF m 454 #[.val (.int p0), .val (.int p1), .val (.int p2), .val (.int p3), .val (.ref b1), .val (.int (gend p0 p3)), .val (.int (gat p3)), .val (.int (4 : Int32)), .val (.ref b28), .val (.ref b239), .val (.ref e277b), .val (.int (4 : Int32))] [(.ref b28), (.int (2 : Int32)), (.int (4 : Int32)), (.int (gat p3)), (.ref b1), (.ref b239), (.ref e277b)])) _
                    refine st318 _ ?_
                    show Steps p.tables e below (T318.setTop (mkF m 457 #[.val (.int p0), .val (.int p1), .val (.int p2), .val (.int p3), .val (.ref b1), .val (.int (gend p0 p3)), .val (.int (gat p3)), .val (.int (4 : Int32)), .val (.ref b28), .val (.ref b239), .val (.ref e277b), .val (.int (4 : Int32))] [(.int (f3 (gat p3) (4 : Int32) (2 : Int32) (fun j => if j < 4 then fh (a + j) else fq j) fq fh fq 4 a 2))])) _
                    refine XS.ifNo X318.here hx rfl (hb hby at_457) rfl ((if0 _ _).trans (feq (show ¬ ((f3 (gat p3) (4 : Int32) (2 : Int32) (fun j => if j < 4 then fh (a + j) else fq j) fq fh fq 4 a 2) = (0 : Int32)) from (own_cell (K := 4) (i := 2) rfl rfl (by decide) (by decide) (fun j hj => rfl) (fun j hj => rfl)))).1) ?_
                    show Steps p.tables e below (T318.setTop (mkF m 460 #[.val (.int p0), .val (.int p1), .val (.int p2), .val (.int p3), .val (.ref b1), .val (.int (gend p0 p3)), .val (.int (gat p3)), .val (.int (4 : Int32)), .val (.ref b28), .val (.ref b239), .val (.ref e277b), .val (.int (4 : Int32))] [])) _
                    refine XS.aload X318.here hx rfl (hb hby at_460) rfl rfl ?_
                    show Steps p.tables e below (T318.setTop (mkF m 462 #[.val (.int p0), .val (.int p1), .val (.int p2), .val (.int p3), .val (.ref b1), .val (.int (gend p0 p3)), .val (.int (gat p3)), .val (.int (4 : Int32)), .val (.ref b28), .val (.ref b239), .val (.ref e277b), .val (.int (4 : Int32))] [(.ref e277b)])) _
                    refine XS.aload X318.here hx rfl (hb hby at_462) rfl rfl ?_
                    show Steps p.tables e below (T318.setTop (mkF m 464 #[.val (.int p0), .val (.int p1), .val (.int p2), .val (.int p3), .val (.ref b1), .val (.int (gend p0 p3)), .val (.int (gat p3)), .val (.int (4 : Int32)), .val (.ref b28), .val (.ref b239), .val (.ref e277b), .val (.int (4 : Int32))] [(.ref b239), (.ref e277b)])) _
                    refine XS.aload X318.here hx rfl (hb hby at_464) rfl rfl ?_
                    show Steps p.tables e below (T318.setTop (mkF m 466 #[.val (.int p0), .val (.int p1), .val (.int p2), .val (.int p3), .val (.ref b1), .val (.int (gend p0 p3)), .val (.int (gat p3)), .val (.int (4 : Int32)), .val (.ref b28), .val (.ref b239), .val (.ref e277b), .val (.int (4 : Int32))] [(.ref b1), (.ref b239), (.ref e277b)])) _
                    refine XS.iload X318.here hx rfl (hb hby at_466) rfl ?_
                    show Steps p.tables e below (T318.setTop (mkF m 468 #[.val (.int p0), .val (.int p1), .val (.int p2), .val (.int p3), .val (.ref b1), .val (.int (gend p0 p3)), .val (.int (gat p3)), .val (.int (4 : Int32)), .val (.ref b28), .val (.ref b239), .val (.ref e277b), .val (.int (4 : Int32))] [(.int (gat p3)), (.ref b1), (.ref b239), (.ref e277b)])) _
                    refine XS.iload X318.here hx rfl (hb hby at_468) rfl ?_
                    show Steps p.tables e below (T318.setTop (mkF m 470 #[.val (.int p0), .val (.int p1), .val (.int p2), .val (.int p3), .val (.ref b1), .val (.int (gend p0 p3)), .val (.int (gat p3)), .val (.int (4 : Int32)), .val (.ref b28), .val (.ref b239), .val (.ref e277b), .val (.int (4 : Int32))] [(.int (4 : Int32)), (.int (gat p3)), (.ref b1), (.ref b239), (.ref e277b)])) _
                    refine XS.iconst X318.here hx rfl (hb hby at_470) ?_
                    show Steps p.tables e below (T318.setTop (mkF m 471 #[.val (.int p0), .val (.int p1), .val (.int p2), .val (.int p3), .val (.ref b1), .val (.int (gend p0 p3)), .val (.int (gat p3)), .val (.int (4 : Int32)), .val (.ref b28), .val (.ref b239), .val (.ref e277b), .val (.int (4 : Int32))] [(.int (3 : Int32)), (.int (4 : Int32)), (.int (gat p3)), (.ref b1), (.ref b239), (.ref e277b)])) _
                    refine XS.aload X318.here hx rfl (hb hby at_471) rfl rfl ?_
                    show Steps p.tables e below (T318.setTop (mkF m 473 #[.val (.int p0), .val (.int p1), .val (.int p2), .val (.int p3), .val (.ref b1), .val (.int (gend p0 p3)), .val (.int (gat p3)), .val (.int (4 : Int32)), .val (.ref b28), .val (.ref b239), .val (.ref e277b), .val (.int (4 : Int32))] [(.ref b28), (.int (3 : Int32)), (.int (4 : Int32)), (.int (gat p3)), (.ref b1), (.ref b239), (.ref e277b)])) _
                    refine st319 _ ?_
                    show Steps p.tables e below (T319.setTop (mkF m 476 #[.val (.int p0), .val (.int p1), .val (.int p2), .val (.int p3), .val (.ref b1), .val (.int (gend p0 p3)), .val (.int (gat p3)), .val (.int (4 : Int32)), .val (.ref b28), .val (.ref b239), .val (.ref e277b), .val (.int (4 : Int32))] [(.int (f3 (gat p3) (4 : Int32) (3 : Int32) (fun j => if j < 4 then fh (a + j) else fq j) fq fh fq 4 a 3))])) _
                    refine XS.ifNo X319.here hx rfl (hb hby at_476) rfl ((if0 _ _).trans (feq (show ¬ ((f3 (gat p3) (4 : Int32) (3 : Int32) (fun j => if j < 4 then fh (a + j) else fq j) fq fh fq 4 a 3) = (0 : Int32)) from (own_cell (K := 4) (i := 3) rfl rfl (by decide) (by decide) (fun j hj => rfl) (fun j hj => rfl)))).1) ?_
                    show Steps p.tables e below (T319.setTop (mkF m 479 #[.val (.int p0), .val (.int p1), .val (.int p2), .val (.int p3), .val (.ref b1), .val (.int (gend p0 p3)), .val (.int (gat p3)), .val (.int (4 : Int32)), .val (.ref b28), .val (.ref b239), .val (.ref e277b), .val (.int (4 : Int32))] [])) _
                    refine XS.iconst X319.here hx rfl (hb hby at_479) ?_
                    show Steps p.tables e below (T319.setTop (mkF m 480 #[.val (.int p0), .val (.int p1), .val (.int p2), .val (.int p3), .val (.ref b1), .val (.int (gend p0 p3)), .val (.int (gat p3)), .val (.int (4 : Int32)), .val (.ref b28), .val (.ref b239), .val (.ref e277b), .val (.int (4 : Int32))] [(.int (1 : Int32))])) _
                    refine XS.goto X319.here hx rfl (pc0 := 480) (pc' := 484) rfl (hb hby at_480) (by decide) (by decide) ?_
                    exact kt
                  obtain ⟨fsQ, hr, hrun, hended, hW, hsame⟩ := X319.leave (v := some (.int (1 : Int32))) (fun h => by rw [Bd.returns] at h; cases h)
                  refine ⟨_, _, pre0 _ (K320 _ ?_), hrun, hended, _, _, rfl, ?_, ⟨_, rfl⟩, hW, hsame.mono (by decide) (by decide)⟩
                  · show Steps p.tables e below (T319.setTop (mkF m 484 #[.val (.int p0), .val (.int p1), .val (.int p2), .val (.int p3), .val (.ref b1), .val (.int (gend p0 p3)), .val (.int (gat p3)), .val (.int (4 : Int32)), .val (.ref b28), .val (.ref b239), .val (.ref e277b), .val (.int (4 : Int32))] [(.int (1 : Int32))])) _
                    exact retN X319 hx (t := .boolean) Bd.returns (by simp) (hb hby at_484) hr
                  · show Q0 Z p0 p1 p2 p3  h0 n0 _ T319.heap _
                    rw [e319]
                    exact ⟨rfl, N277⟩
set_option maxRecDepth 65536 in
set_option maxHeartbeats 40000000 in
theorem comes_1 {Post : Tables → Env → Array Value → State → Outcome → State → Prop} (hpost : ∀ tb e args s v u, (limb_1_1.after args s (.returned v) u = true ∧ limb_1_2.after args s (.returned v) u = true ∧ True) → FrameEnd s (.returned v) u (Jvm.fieldLocs frame_1_writes args s ++ Jvm.arrayLocs frame_1_arrays args s ++ Jvm.staticLocs frame_1_statics s) 16 128 → Post tb e args s (.returned v) u) :
    ArmFor flags0 classFile x code maxLocals ret World_1 tables_1 room_1 Calls_1 rest_1 Pre_1 Post := by
  intro l hfl _ _ p e ha hc hk s m args below hf hA hF happ hP
  obtain ⟨hcalls, hrest, hpre⟩ := hP
  obtain ⟨-, -, -, hnamed, -, -, -, hat⟩ := (Spec.applies_iff hf).mp happ
  obtain ⟨hg, hn⟩ := and_e (Cond.before_iff.mp (show (Jvm.Cond.and given_1 narrow_1).before args s = true from hpre))
  obtain ⟨hcount, hk0⟩ := and_e hg
  obtain ⟨hi0, hk1⟩ := and_e hk0
  obtain ⟨hi1, hk2⟩ := and_e hk1
  obtain ⟨hi2, hk3⟩ := and_e hk2
  have hi3 := hk3
  obtain ⟨w0, w1, w2, w3, rfl⟩ : ∃ w0 w1 w2 w3 : Value, args = #[w0, w1, w2, w3] := by
    have hs : args.size = 4 := by simpa [Cond.value, given_1] using hcount
    obtain ⟨L⟩ := args
    match L, hs with
    | [w0, w1, w2, w3], _ => exact ⟨w0, w1, w2, w3, rfl⟩
  have hw := fun d (hd : d ∈ tables_1) => atoms_spec (ws := Jvm.Cond.code x code maxLocals ret :: tables_1) hat d (List.mem_cons_of_mem _ hd)
  obtain ⟨i0, ei0⟩ := is_v hi0
  obtain rfl : w0 = (.int i0) := Option.some.inj ei0
  obtain ⟨i1, ei1⟩ := is_v hi1
  obtain rfl : w1 = (.int i1) := Option.some.inj ei1
  obtain ⟨i2, ei2⟩ := is_v hi2
  obtain rfl : w2 = (.int i2) := Option.some.inj ei2
  obtain ⟨i3, ei3⟩ := is_v hi3
  obtain rfl : w3 = (.int i3) := Option.some.inj ei3
  obtain ⟨n, o, h1, h2, h3, v, L, rfl, hQ, hq⟩ := rm0 l s _ hw tables_1 i0 i1 i2 i3 s.heap s.heap.size (Nat.le_refl _) p e ha hc hk s m _ below hf ((Spec.applies_iff_loose hf).mp happ).1 ⟨rfl, State.Warmed39.refl s, rfl⟩ trivial
  obtain ⟨rfl, N⟩ : v = some (.int 1) ∧ Fr s.heap.size L := by
    exact ⟨hQ.1, hQ.2⟩
  refine ⟨n, _, h1, h2, h3, hpost _ _ _ _ _ _ ⟨Cond.after_iff.mpr rfl, Cond.after_iff.mpr (eq_i res_at (Term.int_eval (1)) rfl), trivial⟩ ⟨hq.1, hq.2.1, (hq.2.2.sift fun y hy => Or.inr (N y hy)).mono (by decide) (by decide)⟩⟩
theorem main_1_1 : Claimed_1_1 := comes_1 fun _ _ _ _ _ _ h hF => ⟨h.1, hF⟩
theorem main_1_2 : Claimed_1_2 := comes_1 fun _ _ _ _ _ _ h hF => ⟨h.2.1, hF⟩
end Jvm.Pilot.@@N@@
namespace Jvm.Pilot.@@N@@
open Jvm Jvm.ClassFile Sem Op Lib Jvm.Free Jvm.Stand Jvm.Pilot.@@N@@.Jvm.D
/-! MADE BY PROGRAM (witnessworld.py) out of the Statement's table words and the real class files: 9 classes; the members and pool entries that the words name. The judged class is class 1, her method 1. -/
namespace start1
open Jvm.ClassFile
def u (s : String) : CpInfo := .utf8 (stringToUtf16 s)
/-- a pool by its gaps: so many unusable entries, then the entry; so many at the end -/
def gap : Nat → List CpInfo → List CpInfo
  | 0, r => r
  | n + 1, r => .unusable :: gap n r
def poolList (es : List (Nat × CpInfo)) (last : Nat) : List CpInfo := es.foldr (fun e r => gap e.1 (e.2 :: r)) (gap last [])
def pool (es : List (Nat × CpInfo)) (last : Nat) : Array CpInfo := ⟨poolList es last⟩
def fileOf (pool : Array CpInfo) (this : Nat) (attrs : Array Attribute := #[]) (ms : Array MethodInfo := #[]) (fl : Nat := 33) (sup : Nat := 0) (ifs : Array Nat := #[]) (fds : Array FieldInfo := #[]) : ClassFile where
  minorVersion := 0
  majorVersion := 65
  constantPool := pool
  accessFlags := fl
  thisClass := this
  superClass := sup
  interfaces := ifs
  fields := fds
  methods := ms
  attributes := attrs
def plain (name : String) (sup : Option ClassId) : Class where
  name := name
  kind := .ordinary
  loader := none
  accessFlags := 33
  super := sup
  interfaces := #[]
  cf := none
  fields := #[]
  methods := #[]
  instanceTypes := #[]
  staticTypes := #[]
  resolved := #[]
  callSites := []
  init := .initialized
  statics := none
  mirror := none

def pool0 : Array CpInfo := pool [(5, u "<init>"), (0, u "()V"), (1, .class_ 10), (1, u "java/lang/Object"), (85, u "clone"), (0, u "()Ljava/lang/Object;")] 26

def k0m0 : Method := { name := "<init>", desc := "()V", sig := { parameters := [], returnType := none }, accessFlags := 1, code := none }
def k0m1 : Method := { name := "clone", desc := "()Ljava/lang/Object;", sig := { parameters := [], returnType := some (.object "java/lang/Object") }, accessFlags := 260, code := none }
/-- java/lang/Object -/
def k0 : Class := { plain "java/lang/Object" none with
  accessFlags := 33
  interfaces := #[]
  cf := some (fileOf pool0 8 #[] #[{ accessFlags := 1, nameIndex := 5, descriptorIndex := 6, attributes := #[] }, { accessFlags := 260, nameIndex := 96, descriptorIndex := 97, attributes := #[] }] 33 0 #[] #[])
  fields := #[]
  methods := #[k0m0, k0m1]
  instanceTypes := #[]
  staticTypes := #[]
  resolved := Array.replicate 124 none
  statics := none }

def pool1 : Array CpInfo := pool [(2, .class_ 4), (1, u "java/lang/Object"), (0, u "<init>"), (0, u "()V"), (0, .methodref 8 9), (0, .class_ 10), (0, .nameAndType 11 12), (0, u "com/example/benchwire/benchwire/protocols/DelimitedTextDeclaredDelimitersPinLaw"), (0, u "pick"), (0, u "(II)B"), (0, .methodref 14 15), (0, .class_ 16), (0, .nameAndType 17 18), (0, u "com/example/benchwire/benchwire/protocols/DelimitedText"), (0, u "declaredDelimiters"), (0, u "([BIB[B)[B"), (0, .methodref 8 20), (0, .nameAndType 21 22), (0, u "ok"), (0, u "([BIIB)Z"), (0, .methodref 8 24), (0, .nameAndType 25 26), (0, u "cell"), (0, u "([B[B[BIII[B)Z"), (2, u "law"), (0, u "(IIII)Z")] 5

def k1m0 : Method := { name := "<init>", desc := "()V", sig := { parameters := [], returnType := none }, accessFlags := 1, code := none }
def k1c1 : Code := { maxStack := 7, maxLocals := 12, code := code, exceptionTable := #[], attributes := #[] }
def k1m1 : Method := { name := "law", desc := "(IIII)Z", sig := { parameters := [.int, .int, .int, .int], returnType := some .boolean }, accessFlags := 9, code := some k1c1 }
def k1c2 : Code := { maxStack := 3, maxLocals := 2, code := method_3_code, exceptionTable := #[], attributes := #[] }
def k1m2 : Method := { name := "pick", desc := "(II)B", sig := { parameters := [.int, .int], returnType := some .byte }, accessFlags := 10, code := some k1c2 }
def k1c3 : Code := { maxStack := 3, maxLocals := 6, code := method_4_code, exceptionTable := #[], attributes := #[] }
def k1m3 : Method := { name := "ok", desc := "([BIIB)Z", sig := { parameters := [(.array .byte), .int, .int, .byte], returnType := some .boolean }, accessFlags := 10, code := some k1c3 }
def k1c4 : Code := { maxStack := 3, maxLocals := 8, code := method_5_code, exceptionTable := #[], attributes := #[] }
def k1m4 : Method := { name := "cell", desc := "([B[B[BIII[B)Z", sig := { parameters := [(.array .byte), (.array .byte), (.array .byte), .int, .int, .int, (.array .byte)], returnType := some .boolean }, accessFlags := 10, code := some k1c4 }
/-- com/example/benchwire/benchwire/protocols/DelimitedTextDeclaredDelimitersPinLaw -/
def k1 : Class := { plain "com/example/benchwire/benchwire/protocols/DelimitedTextDeclaredDelimitersPinLaw" (some 0) with
  accessFlags := 49
  interfaces := #[]
  cf := some (fileOf pool1 8 #[] #[{ accessFlags := 1, nameIndex := 5, descriptorIndex := 6, attributes := #[] }, { accessFlags := 9, nameIndex := 29, descriptorIndex := 30, attributes := #[] }, { accessFlags := 10, nameIndex := 11, descriptorIndex := 12, attributes := #[] }, { accessFlags := 10, nameIndex := 21, descriptorIndex := 22, attributes := #[] }, { accessFlags := 10, nameIndex := 25, descriptorIndex := 26, attributes := #[] }] 49 2 #[] #[])
  fields := #[]
  methods := #[k1m0, k1m1, k1m2, k1m3, k1m4]
  instanceTypes := #[]
  staticTypes := #[]
  resolved := Array.replicate 36 none
  statics := none }

def pool2 : Array CpInfo := pool [(2, .class_ 4), (1, u "java/lang/Object"), (3, .class_ 10), (1, u "com/example/benchwire/benchwire/protocols/DelimitedText"), (0, u "text"), (0, u "[B"), (2, u "from"), (0, u "I"), (2, u "to"), (17, .methodref 38 39), (0, .class_ 12), (0, .nameAndType 40 41), (0, u "clone"), (0, u "()Ljava/lang/Object;"), (0, .class_ 43), (0, u "com/example/benchwire/benchwire/protocols/DelimitedText$Pieces"), (27, u "EMPTY"), (8, u "declaredDelimiters"), (0, u "([BIB[B)[B")] 21

def k2c0 : Code := { maxStack := 4, maxLocals := 7, code := prog_154_method_4_code, exceptionTable := #[], attributes := #[] }
def k2m0 : Method := { name := "declaredDelimiters", desc := "([BIB[B)[B", sig := { parameters := [(.array .byte), .int, .byte, (.array .byte)], returnType := some (.array .byte) }, accessFlags := 9, code := some k2c0 }
/-- com/example/benchwire/benchwire/protocols/DelimitedText -/
def k2 : Class := { plain "com/example/benchwire/benchwire/protocols/DelimitedText" (some 0) with
  accessFlags := 49
  interfaces := #[]
  cf := some (fileOf pool2 8 #[.nestMembers #[42]] #[{ accessFlags := 9, nameIndex := 80, descriptorIndex := 81, attributes := #[] }] 49 2 #[] #[{ accessFlags := 26, nameIndex := 71, descriptorIndex := 12, attributes := #[] }, { accessFlags := 18, nameIndex := 11, descriptorIndex := 12, attributes := #[] }, { accessFlags := 18, nameIndex := 15, descriptorIndex := 16, attributes := #[] }, { accessFlags := 18, nameIndex := 19, descriptorIndex := 16, attributes := #[] }])
  fields := #[{ name := "EMPTY", type := (.array .byte), accessFlags := 26, slot := 0, constantValue := 0 }, { name := "text", type := (.array .byte), accessFlags := 18, slot := 0, constantValue := 0 }, { name := "from", type := .int, accessFlags := 18, slot := 1, constantValue := 0 }, { name := "to", type := .int, accessFlags := 18, slot := 2, constantValue := 0 }]
  methods := #[k2m0]
  instanceTypes := #[(.array .byte), .int, .int]
  staticTypes := #[(.array .byte)]
  resolved := Array.replicate 103 none
  statics := none }

def pool3 : Array CpInfo := pool [(1, .class_ 2), (0, u "java/lang/Cloneable"), (0, .class_ 4), (0, u "java/lang/Object")] 2

/-- java/lang/Cloneable -/
def k3 : Class := { plain "java/lang/Cloneable" (some 0) with
  accessFlags := 1537
  interfaces := #[]
  cf := some (fileOf pool3 1 #[] #[] 1537 3 #[] #[])
  fields := #[]
  methods := #[]
  instanceTypes := #[]
  staticTypes := #[]
  resolved := Array.replicate 7 none
  statics := none }

def pool4 : Array CpInfo := pool [(1, u "java/io/Serializable"), (0, .class_ 1), (0, u "java/lang/Object"), (0, .class_ 3)] 3

/-- java/io/Serializable -/
def k4 : Class := { plain "java/io/Serializable" (some 0) with
  accessFlags := 1537
  interfaces := #[]
  cf := some (fileOf pool4 2 #[] #[] 1537 4 #[] #[])
  fields := #[]
  methods := #[]
  instanceTypes := #[]
  staticTypes := #[]
  resolved := Array.replicate 8 none
  statics := none }

/-- the primitive byte -/
def k5 : Class := { plain "byte" none with kind := .primitive 'B', accessFlags := 0x411 }
/-- [B -/
def k6 : Class := { plain "[B" (some 0) with kind := .array 5 .byte, interfaces := #[3, 4], accessFlags := 1041 }

/-- the primitive int -/
def k7 : Class := { plain "int" none with kind := .primitive 'I', accessFlags := 0x411 }
/-- [I -/
def k8 : Class := { plain "[I" (some 0) with kind := .array 7 .int, interfaces := #[3, 4], accessFlags := 1041 }

def heap : Heap := #[]
def classes : Array Class := #[k0, k1, k2, k3, k4, k5, k6, k7, k8]
def interned : List (Array UInt16 × Addr) := []
def slotsUsed : Nat := 0
def theMethod : MethodId := ⟨1, 1⟩
def args0 : Array Value := #[.int 5, .int 5, .int 5, .int 5]
def aboutOver (below : List Frame) : State where
  vm := { classes := classes, interned := interned.toArray }
  heap := heap
  slotsUsed := slotsUsed
  threads := #[{ frames := .invoking theMethod args0 :: below }]
def below0 : List Frame := [.native { method := ⟨0, 0⟩, args := #[] }]
def about1 : State := aboutOver below0
def p0 : Program := .bare "" "" ""
def e0 : Env := launch0.env 0 0 0
theorem w_frames : about1.frames = Frame.invoking theMethod args0 :: below0 := rfl
set_option maxRecDepth 65536 in
theorem w_args : argsFit about1.vm theMethod args0 = true := by decide +kernel
set_option maxRecDepth 65536 in
theorem w_heap : heapFits about1 = true := by decide +kernel
set_option maxRecDepth 65536 in
theorem w_runnable : about1.curStatus? = some .runnable := by decide +kernel
set_option maxRecDepth 65536 in
theorem w_alone : about1.alone = true := by decide +kernel
set_option maxRecDepth 65536 in
theorem w_named : about1.methodNamed? x = some theMethod := by decide +kernel
set_option maxRecDepth 65536 in
theorem w_hears : about1.hears theMethod below0 = true := by decide +kernel
set_option maxRecDepth 65536 in
theorem w_ripe : about1.ripe theMethod args0 below0 = true := by decide +kernel
theorem w_running : about1.status = .running := rfl
set_option maxRecDepth 65536 in
theorem w_room : about1.hasRoom e0.platform room_1 = true :=
  launch0.hasRoom_least _ room_1 (by decide +kernel) (by decide +kernel) (by decide +kernel) (by decide +kernel) (by decide +kernel) (by decide +kernel)
theorem allAtoms_all (ts : List Jvm.Cond) (a : Array Jvm.Value) (st : Jvm.State) : (allAtoms ts).before a st = ts.all (fun c => c.before a st) := by
  induction ts with
  | nil => rfl
  | cons c t ih =>
    show (Jvm.Cond.and c (allAtoms t)).before a st = _
    rw [Jvm.Cond.before_and, ih, List.all_cons]
def words1 : List Jvm.Cond := Jvm.Cond.code x code maxLocals ret :: tables_1
/-- a 'code' word, met by the world's own term for the bytes: nothing is compared byte by byte -/
theorem code_word {y : MethodName} {bytes : ByteArray} {mx : Nat} {rt : Option FieldType} {a : Array Value} {s : State} {m : MethodId} {meth : Method} {c : Code} (h1 : s.methodNamed? y = some m) (h2 : s.vm.method? m = some meth) (h3 : meth.code = some c) (h4 : c.code = bytes)
    (h5 : (c.maxLocals == mx && c.exceptionTable.isEmpty && decide (c.maxStack ≤ mostOperands) && decide (meth.sig.returnType = rt) && !meth.locks && decide (parseMethodDescriptor y.desc = some meth.sig)) = true) : (Jvm.Cond.code y bytes mx rt).before a s = true := by
  simp only [Bool.and_eq_true, beq_iff_eq, Bool.not_eq_true', decide_eq_true_eq] at h5
  obtain ⟨⟨⟨⟨⟨g1, g2⟩, g3⟩, g4⟩, g5⟩, g6⟩ := h5
  simp [Cond.before, Cond.holds, Cond.value, h1, h2, h3, h4, g1, g2, g3, g4, g5, g6]
def isCode : Jvm.Cond → Bool
  | .code _ _ _ _ => true
  | _ => false
theorem all_split {L : List Jvm.Cond} {P : Jvm.Cond → Bool} (h1 : L.all (fun c => isCode c || P c) = true) (h2 : ∀ c ∈ L.filter isCode, P c = true) : L.all P = true := by
  refine List.all_eq_true.mpr fun c hc => ?_
  have h := List.all_eq_true.mp h1 c hc
  rcases Bool.eq_false_or_eq_true (isCode c) with hi | hi
  · exact h2 c (List.mem_filter.mpr ⟨hc, hi⟩)
  · simpa [hi] using h
set_option maxRecDepth 65536 in
theorem w_c0 : (Jvm.Cond.code x code maxLocals ret).before args0 about1 = true := code_word (m := ⟨1, 1⟩) (meth := k1m1) (c := k1c1) (by decide +kernel) rfl rfl rfl (by decide +kernel)
set_option maxRecDepth 65536 in
theorem w_c1 : (Jvm.Cond.code ({ cls := "com/example/benchwire/benchwire/protocols/DelimitedTextDeclaredDelimitersPinLaw", name := "pick", desc := "(II)B" } : Jvm.MethodName) method_3_code (2 : Nat) (Option.some Jvm.ClassFile.FieldType.byte)).before args0 about1 = true := code_word (m := ⟨1, 2⟩) (meth := k1m2) (c := k1c2) (by decide +kernel) rfl rfl rfl (by decide +kernel)
set_option maxRecDepth 65536 in
theorem w_c2 : (Jvm.Cond.code ({ cls := "com/example/benchwire/benchwire/protocols/DelimitedText", name := "declaredDelimiters", desc := "([BIB[B)[B" } : Jvm.MethodName) prog_154_method_4_code (7 : Nat) (Option.some (Jvm.ClassFile.FieldType.array Jvm.ClassFile.FieldType.byte))).before args0 about1 = true := code_word (m := ⟨2, 0⟩) (meth := k2m0) (c := k2c0) (by decide +kernel) rfl rfl rfl (by decide +kernel)
set_option maxRecDepth 65536 in
theorem w_c3 : (Jvm.Cond.code ({ cls := "com/example/benchwire/benchwire/protocols/DelimitedTextDeclaredDelimitersPinLaw", name := "cell", desc := "([B[B[BIII[B)Z" } : Jvm.MethodName) method_5_code (8 : Nat) (Option.some Jvm.ClassFile.FieldType.boolean)).before args0 about1 = true := code_word (m := ⟨1, 4⟩) (meth := k1m4) (c := k1c4) (by decide +kernel) rfl rfl rfl (by decide +kernel)
set_option maxRecDepth 65536 in
theorem w_c4 : (Jvm.Cond.code ({ cls := "com/example/benchwire/benchwire/protocols/DelimitedTextDeclaredDelimitersPinLaw", name := "ok", desc := "([BIIB)Z" } : Jvm.MethodName) method_4_code (6 : Nat) (Option.some Jvm.ClassFile.FieldType.boolean)).before args0 about1 = true := code_word (m := ⟨1, 3⟩) (meth := k1m3) (c := k1c3) (by decide +kernel) rfl rfl rfl (by decide +kernel)
def codes1 : List Jvm.Cond := [Jvm.Cond.code x code maxLocals ret, Jvm.Cond.code ({ cls := "com/example/benchwire/benchwire/protocols/DelimitedTextDeclaredDelimitersPinLaw", name := "pick", desc := "(II)B" } : Jvm.MethodName) method_3_code (2 : Nat) (Option.some Jvm.ClassFile.FieldType.byte), Jvm.Cond.code ({ cls := "com/example/benchwire/benchwire/protocols/DelimitedText", name := "declaredDelimiters", desc := "([BIB[B)[B" } : Jvm.MethodName) prog_154_method_4_code (7 : Nat) (Option.some (Jvm.ClassFile.FieldType.array Jvm.ClassFile.FieldType.byte)), Jvm.Cond.code ({ cls := "com/example/benchwire/benchwire/protocols/DelimitedTextDeclaredDelimitersPinLaw", name := "cell", desc := "([B[B[BIII[B)Z" } : Jvm.MethodName) method_5_code (8 : Nat) (Option.some Jvm.ClassFile.FieldType.boolean), Jvm.Cond.code ({ cls := "com/example/benchwire/benchwire/protocols/DelimitedTextDeclaredDelimitersPinLaw", name := "ok", desc := "([BIIB)Z" } : Jvm.MethodName) method_4_code (6 : Nat) (Option.some Jvm.ClassFile.FieldType.boolean)]
set_option maxRecDepth 65536 in
theorem codes_eq : words1.filter isCode = codes1 := rfl
theorem w_codes : ∀ c ∈ words1.filter isCode, c.before args0 about1 = true := by
  rw [codes_eq]
  intro c hc
  simp only [codes1, List.mem_cons, List.not_mem_nil, or_false] at hc
  rcases hc with rfl | rfl | rfl | rfl | rfl
  · exact w_c0
  · exact w_c1
  · exact w_c2
  · exact w_c3
  · exact w_c4
set_option maxRecDepth 65536 in
theorem w_t1 : (words1.take 24).all (fun c => isCode c || c.before args0 about1) = true := by decide +kernel
set_option maxRecDepth 65536 in
theorem w_t2 : (words1.drop 24).all (fun c => isCode c || c.before args0 about1) = true := by decide +kernel
theorem w_tables : (allAtoms (Jvm.Cond.code x code maxLocals ret :: tables_1)).before args0 about1 = true := by
  rw [allAtoms_all]
  show words1.all (fun c => c.before args0 about1) = true
  refine all_split ?_ w_codes
  rw [← List.take_append_drop 24 words1, List.all_append, w_t1, w_t2]
  rfl
set_option maxRecDepth 65536 in
theorem w_case : (Jvm.Cond.and given_1 narrow_1).before args0 about1 = true := by decide +kernel
theorem w_applies : (headSpec (Jvm.Cond.code x code maxLocals ret :: tables_1) room_1).applies x e0.platform about1 = true :=
  (Spec.applies_iff w_frames).mpr ⟨w_running, w_runnable, w_alone, w_named, w_hears, w_ripe, w_room, w_tables⟩
theorem atStart : AtStart classFile x code maxLocals ret World_1 tables_1 room_1 Calls_1 rest_1 Pre_1 launch0 p0 e0 about1 theMethod args0 below0 :=
  ⟨lists_1, trivial, launch0.admits_env _ _ _, launch0.least_env, fairChoices_fair.cas, fairChoices_fair.clock, w_frames, w_args, w_heap, w_applies, trivial, trivial, w_case⟩
end start1
theorem witness_1 : WitnessClaimed_1 := ⟨start1.p0, start1.e0, start1.about1, start1.theMethod, start1.args0, start1.below0, start1.atStart⟩
end Jvm.Pilot.@@N@@
