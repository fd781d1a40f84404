import JvmDerived
import JvmDerived.Pilot.@@N@@Statement
import JvmDerived.Pilot.@@N@@Code
set_option linter.unusedVariables false
set_option linter.unusedSimpArgs false
namespace Jvm.Pilot.@@N@@
open Jvm Jvm.ClassFile Sem Op Lib Jvm.Free Jvm.Stand Jvm.LawKit Jvm.RoadKit Bundle Jvm.Pilot.@@N@@.Jvm.D
section Own
variable {p : Program} {l : Launch} {e : Env} {R : Room} {s : State} {m : MethodId} {args : Array Value} {below : List Frame} {meth : Method} {c : Code} {T : State} {locs : List Loc} {cells slots : Nat} {Z : State} {h h' : Heap} {a b : Addr} {n k : Nat}
/-- a function with one place turned -/
def owUp {α : Type} (f : Nat → α) (k : Nat) (v : α) : Nat → α := fun i => if i = k then v else f i
theorem owUp_at {α : Type} {f : Nat → α} {k : Nat} {v : α} : owUp f k v k = v := if_pos rfl
theorem owUp_ne {α : Type} {f : Nat → α} {k i : Nat} {v : α} (q : i ≠ k) : owUp f k v i = f i := if_neg q
theorem owUpP {α : Type} {P : α → Prop} {f : Nat → α} {k : Nat} {v : α} (hf : ∀ i, P (f i)) (hv : P v) : ∀ i, P (owUp f k v i) := fun i => by
  by_cases q : i = k
  · rw [q, owUp_at]; exact hv
  · rw [owUp_ne q]; exact hf i
theorem owIdx {j : Int32} {k : Nat} (hj : j.toInt = (k : Int)) : j.toNatClampNeg = k := by
  have q : j.toNatClampNeg = j.toInt.toNat := rfl
  rw [q, hj]; rfl
theorem owIn {j : Int32} {k n sz : Nat} (hj : j.toInt = (k : Int)) (hk : k < n) (hs : sz = n) : ¬ (j < 0 ∨ sz ≤ j.toNatClampNeg) := by
  rw [owIdx hj, Int32.lt_iff_toInt_lt, hj, hs]
  have q : (0 : Int32).toInt = 0 := rfl
  omega
theorem owSlot {cl : Cell} {k i : Nat} {v : Value} (hk : k < cl.slots.size) : (cl.setSlot k v).slots[i]? = if i = k then some v else cl.slots[i]? := by
  by_cases q : i = k
  · subst q; rw [if_pos rfl]; simp [Cell.setSlot, hk]
  · rw [if_neg q]; exact Array.getElem?_setIfInBounds_ne (Ne.symm q)
/-- an array of ints (bytes, chars ..) whose components a function tells -/
def owAI (Z : State) (h : Heap) (a : Addr) (ty : FieldType) (n : Nat) (f : Nat → Int32) : Prop := ∃ c : Cell, Arr Z h a c ty ∧ c.slots.size = n ∧ ∀ i, i < n → c.slots[i]? = some (.int (f i))
/-- an array of longs -/
def owAJ (Z : State) (h : Heap) (a : Addr) (ty : FieldType) (n : Nat) (f : Nat → Int64) : Prop := ∃ c : Cell, Arr Z h a c ty ∧ c.slots.size = n ∧ ∀ i, i < n → c.slots[i]? = some (.long (f i))
theorem owAI.lt {ty : FieldType} {f : Nat → Int32} (F : owAI Z h a ty n f) : a < h.size := by obtain ⟨c, A, -⟩ := F; exact A.lt
theorem owAI.ext {ty : FieldType} {f : Nat → Int32} (F : owAI Z h a ty n f) (E : Ext h h') : owAI Z h' a ty n f := by obtain ⟨c, A, r⟩ := F; exact ⟨c, A.ext E, r⟩
theorem owAI.other {ty : FieldType} {f : Nat → Int32} {sl : Nat} {v : Value} (F : owAI Z h b ty n f) (W : Wr h h' a sl v) (q : b ≠ a) : owAI Z h' b ty n f := by obtain ⟨c, A, r⟩ := F; exact ⟨c, A.other W q, r⟩
theorem owAI.keep {ty : FieldType} {f : Nat → Int32} {ws : List Addr} (F : owAI Z h a ty n f) (K : Keep h h' ws) (q : a ∉ ws) : owAI Z h' a ty n f := by obtain ⟨c, A, r⟩ := F; exact ⟨c, ⟨K.2.1 a c A.1 q, A.2⟩, r⟩
theorem owAJ.lt {ty : FieldType} {f : Nat → Int64} (F : owAJ Z h a ty n f) : a < h.size := by obtain ⟨c, A, -⟩ := F; exact A.lt
theorem owAJ.ext {ty : FieldType} {f : Nat → Int64} (F : owAJ Z h a ty n f) (E : Ext h h') : owAJ Z h' a ty n f := by obtain ⟨c, A, r⟩ := F; exact ⟨c, A.ext E, r⟩
theorem owAJ.other {ty : FieldType} {f : Nat → Int64} {sl : Nat} {v : Value} (F : owAJ Z h b ty n f) (W : Wr h h' a sl v) (q : b ≠ a) : owAJ Z h' b ty n f := by obtain ⟨c, A, r⟩ := F; exact ⟨c, A.other W q, r⟩
theorem owAJ.keep {ty : FieldType} {f : Nat → Int64} {ws : List Addr} (F : owAJ Z h a ty n f) (K : Keep h h' ws) (q : a ∉ ws) : owAJ Z h' a ty n f := by obtain ⟨c, A, r⟩ := F; exact ⟨c, ⟨K.2.1 a c A.1 q, A.2⟩, r⟩
theorem owAI.new {ty : FieldType} {k : ClassId} {z : Int32} (A : Arr Z h a (newA k ty z) ty) (hz : z.toInt = (n : Int)) (hd : defaultValue ty = .int 0) : owAI Z h a ty n (fun _ => 0) :=
  ⟨_, A, by rw [sz_new]; exact owIdx hz, fun i hi => by rw [← hd]; simp [newA, owIdx hz, hi]⟩
theorem owAJ.new {ty : FieldType} {k : ClassId} {z : Int32} (A : Arr Z h a (newA k ty z) ty) (hz : z.toInt = (n : Int)) (hd : defaultValue ty = .long 0) : owAJ Z h a ty n (fun _ => 0) :=
  ⟨_, A, by rw [sz_new]; exact owIdx hz, fun i hi => by rw [← hd]; simp [newA, owIdx hz, hi]⟩
theorem owAI.to {ty : FieldType} {f g : Nat → Int32} (F : owAI Z h a ty n f) (q : ∀ i, i < n → f i = g i) : owAI Z h a ty n g := by
  obtain ⟨c, A, S, H⟩ := F; exact ⟨c, A, S, fun i hi => by rw [H i hi, q i hi]⟩
theorem owAJ.to {ty : FieldType} {f g : Nat → Int64} (F : owAJ Z h a ty n f) (q : ∀ i, i < n → f i = g i) : owAJ Z h a ty n g := by
  obtain ⟨c, A, S, H⟩ := F; exact ⟨c, A, S, fun i hi => by rw [H i hi, q i hi]⟩
theorem owLdB (X : Stand p l e R s m args below meth c T locs cells slots) (hx : p.tables.exec = Jvm.exec) (hZ : Z.Warmed39 s.vm) (eT : T.heap = h) {f : Nat → Int32} (A : owAI Z h a .byte n f) {j : Int32} (hj : j.toInt = (k : Int)) (hk : k < n) {g : JFrame} (hg : g.method = m) {rest : List Value} (hs : g.stack = .int j :: .ref a :: rest) (hd : decode c.code g.pc = .ok (.baload, 1)) (target : State) (kt : Steps p.tables e below (T.setTop { g with pc := g.pc + 1, stack := .int (f k) :: rest }) target) : Steps p.tables e below (T.setTop g) target := by
  obtain ⟨cl, Ar, S, H⟩ := A
  exact X.baloadBytes hx (by rw [eT]; exact Ar.1) (State.isArrayOf_alike hZ.alike Ar.2.1) Ar.2.2 (owIn hj hk S) (by rw [owIdx hj]; exact H k hk) hg hs hd target kt
theorem owLdC (X : Stand p l e R s m args below meth c T locs cells slots) (hx : p.tables.exec = Jvm.exec) (hZ : Z.Warmed39 s.vm) (eT : T.heap = h) {f : Nat → Int32} (A : owAI Z h a .char n f) {j : Int32} (hj : j.toInt = (k : Int)) (hk : k < n) {g : JFrame} (hg : g.method = m) {rest : List Value} (hs : g.stack = .int j :: .ref a :: rest) (hd : decode c.code g.pc = .ok (.caload, 1)) (target : State) (kt : Steps p.tables e below (T.setTop { g with pc := g.pc + 1, stack := .int (f k) :: rest }) target) : Steps p.tables e below (T.setTop g) target := by
  obtain ⟨cl, Ar, S, H⟩ := A
  exact X.caload hx (by rw [eT]; exact Ar.1) (State.isArrayOf_alike hZ.alike Ar.2.1) Ar.2.2 (owIn hj hk S) (by rw [owIdx hj]; exact H k hk) hg hs hd target kt
theorem owLdI (X : Stand p l e R s m args below meth c T locs cells slots) (hx : p.tables.exec = Jvm.exec) (hZ : Z.Warmed39 s.vm) (eT : T.heap = h) {f : Nat → Int32} (A : owAI Z h a .int n f) {j : Int32} (hj : j.toInt = (k : Int)) (hk : k < n) {g : JFrame} (hg : g.method = m) {rest : List Value} (hs : g.stack = .int j :: .ref a :: rest) (hd : decode c.code g.pc = .ok (.iaload, 1)) (target : State) (kt : Steps p.tables e below (T.setTop { g with pc := g.pc + 1, stack := .int (f k) :: rest }) target) : Steps p.tables e below (T.setTop g) target := by
  obtain ⟨cl, Ar, S, H⟩ := A
  exact X.iaload hx (by rw [eT]; exact Ar.1) (State.isArrayOf_alike hZ.alike Ar.2.1) Ar.2.2 (owIn hj hk S) (by rw [owIdx hj]; exact H k hk) hg hs hd target kt
theorem owLdJ (X : Stand p l e R s m args below meth c T locs cells slots) (hx : p.tables.exec = Jvm.exec) (hZ : Z.Warmed39 s.vm) (eT : T.heap = h) {f : Nat → Int64} (A : owAJ Z h a .long n f) {j : Int32} (hj : j.toInt = (k : Int)) (hk : k < n) {g : JFrame} (hg : g.method = m) {rest : List Value} (hs : g.stack = .int j :: .ref a :: rest) (hd : decode c.code g.pc = .ok (.laload, 1)) (target : State) (kt : Steps p.tables e below (T.setTop { g with pc := g.pc + 1, stack := .long (f k) :: rest }) target) : Steps p.tables e below (T.setTop g) target := by
  obtain ⟨cl, Ar, S, H⟩ := A
  exact X.laload hx (by rw [eT]; exact Ar.1) (State.isArrayOf_alike hZ.alike Ar.2.1) Ar.2.2 (owIn hj hk S) (by rw [owIdx hj]; exact H k hk) hg hs hd target kt
/-- an array of objects -/
def owAR (Z : State) (h : Heap) (a : Addr) (ty : FieldType) (n : Nat) (f : Nat → Addr) : Prop := ∃ c : Cell, Arr Z h a c ty ∧ c.slots.size = n ∧ ∀ i, i < n → c.slots[i]? = some (.ref (f i))
theorem owAR.lt {ty : FieldType} {f : Nat → Addr} (F : owAR Z h a ty n f) : a < h.size := by obtain ⟨c, A, -⟩ := F; exact A.lt
theorem owAR.ext {ty : FieldType} {f : Nat → Addr} (F : owAR Z h a ty n f) (E : Ext h h') : owAR Z h' a ty n f := by obtain ⟨c, A, r⟩ := F; exact ⟨c, A.ext E, r⟩
theorem owLdR (X : Stand p l e R s m args below meth c T locs cells slots) (hx : p.tables.exec = Jvm.exec) (hZ : Z.Warmed39 s.vm) (eT : T.heap = h) {ty : FieldType} {f : Nat → Addr} (A : owAR Z h a ty n f) (hty : ty.isReference = true) {j : Int32} (hj : j.toInt = (k : Int)) (hk : k < n) {g : JFrame} (hg : g.method = m) {rest : List Value} (hs : g.stack = .int j :: .ref a :: rest) (hd : decode c.code g.pc = .ok (.aaload, 1)) (target : State) (kt : Steps p.tables e below (T.setTop { g with pc := g.pc + 1, stack := .ref (f k) :: rest }) target) : Steps p.tables e below (T.setTop g) target := by
  obtain ⟨cl, Ar, S, H⟩ := A
  exact X.aaload hx (by rw [eT]; exact Ar.1) (State.isArrayOf_alike hZ.alike Ar.2.1) hty Ar.2.2 (owIn hj hk S) (by rw [owIdx hj]; exact H k hk) hg hs hd target kt
theorem owLenI (X : Stand p l e R s m args below meth c T locs cells slots) (hx : p.tables.exec = Jvm.exec) (hZ : Z.Warmed39 s.vm) (eT : T.heap = h) {ty : FieldType} {f : Nat → Int32} (A : owAI Z h a ty n f) {z : Int32} (hz : n.toInt32 = z) {g : JFrame} (hg : g.method = m) {rest : List Value} (hs : g.stack = .ref a :: rest) (hd : decode c.code g.pc = .ok (.arraylength, 1)) (target : State) (kt : Steps p.tables e below (T.setTop { g with pc := g.pc + 1, stack := .int z :: rest }) target) : Steps p.tables e below (T.setTop g) target := by
  obtain ⟨cl, Ar, S, H⟩ := A
  exact X.arraylength hx (by rw [eT]; exact Ar.1) (State.isArrayOf_alike hZ.alike Ar.2.1) hg hs hd target (by rw [S, hz]; exact kt)
theorem owLenJ (X : Stand p l e R s m args below meth c T locs cells slots) (hx : p.tables.exec = Jvm.exec) (hZ : Z.Warmed39 s.vm) (eT : T.heap = h) {ty : FieldType} {f : Nat → Int64} (A : owAJ Z h a ty n f) {z : Int32} (hz : n.toInt32 = z) {g : JFrame} (hg : g.method = m) {rest : List Value} (hs : g.stack = .ref a :: rest) (hd : decode c.code g.pc = .ok (.arraylength, 1)) (target : State) (kt : Steps p.tables e below (T.setTop { g with pc := g.pc + 1, stack := .int z :: rest }) target) : Steps p.tables e below (T.setTop g) target := by
  obtain ⟨cl, Ar, S, H⟩ := A
  exact X.arraylength hx (by rw [eT]; exact Ar.1) (State.isArrayOf_alike hZ.alike Ar.2.1) hg hs hd target (by rw [S, hz]; exact kt)
theorem owSetI {ty : FieldType} {f : Nat → Int32} {cl : Cell} {x : Int32} (Ar : Arr Z h a cl ty) (S : cl.slots.size = n) (H : ∀ i, i < n → cl.slots[i]? = some (.int (f i))) (hk : k < n) (W : Wr h h' a k (.int x)) : owAI Z h' a ty n (owUp f k x) :=
  ⟨cl.setSlot k (.int x), Ar.same W, by rw [sz_set]; exact S, fun i hi => by
    rw [owSlot (by omega)]
    by_cases q : i = k
    · rw [if_pos q, q, owUp_at]
    · rw [if_neg q, owUp_ne q]; exact H i hi⟩
theorem owSetJ {ty : FieldType} {f : Nat → Int64} {cl : Cell} {x : Int64} (Ar : Arr Z h a cl ty) (S : cl.slots.size = n) (H : ∀ i, i < n → cl.slots[i]? = some (.long (f i))) (hk : k < n) (W : Wr h h' a k (.long x)) : owAJ Z h' a ty n (owUp f k x) :=
  ⟨cl.setSlot k (.long x), Ar.same W, by rw [sz_set]; exact S, fun i hi => by
    rw [owSlot (by omega)]
    by_cases q : i = k
    · rw [if_pos q, q, owUp_at]
    · rw [if_neg q, owUp_ne q]; exact H i hi⟩
theorem owStB (X : Stand p l e R s m args below meth c T locs cells slots) (hx : p.tables.exec = Jvm.exec) (hZ : Z.Warmed39 s.vm) (eT : T.heap = h) {f : Nat → Int32} (A : owAI Z h a .byte n f) {j x : Int32} (hj : j.toInt = (k : Int)) (hk : k < n) {g : JFrame} (hg : g.method = m) {rest : List Value} (hs : g.stack = .int x :: .int j :: .ref a :: rest) (hd : decode c.code g.pc = .ok (.bastore, 1)) :
    ∃ T' h', Stand p l e R s m args below meth c T' (locs ++ [⟨a, k⟩]) cells slots ∧ T'.heap = h' ∧ Wr h h' a k (.int x.toInt8.toInt32) ∧ owAI Z h' a .byte n (owUp f k x.toInt8.toInt32) ∧ ∀ target, Steps p.tables e below (T'.setTop { g with pc := g.pc + 1, stack := rest }) target → Steps p.tables e below (T.setTop g) target := by
  obtain ⟨cl, Ar, S, H⟩ := A
  have st := stB X hx hZ eT Ar (j := j) (owIn hj hk S) hg hs hd
  rw [owIdx hj] at st
  obtain ⟨T', h', X', e', W, st⟩ := st
  exact ⟨T', h', X', e', W, owSetI Ar S H hk W, st⟩
theorem owStC (X : Stand p l e R s m args below meth c T locs cells slots) (hx : p.tables.exec = Jvm.exec) (hZ : Z.Warmed39 s.vm) (eT : T.heap = h) {f : Nat → Int32} (A : owAI Z h a .char n f) {j x : Int32} (hj : j.toInt = (k : Int)) (hk : k < n) {g : JFrame} (hg : g.method = m) {rest : List Value} (hs : g.stack = .int x :: .int j :: .ref a :: rest) (hd : decode c.code g.pc = .ok (.castore, 1)) :
    ∃ T' h', Stand p l e R s m args below meth c T' (locs ++ [⟨a, k⟩]) cells slots ∧ T'.heap = h' ∧ Wr h h' a k (.int x.toUInt32.toUInt16.toUInt32.toInt32) ∧ owAI Z h' a .char n (owUp f k x.toUInt32.toUInt16.toUInt32.toInt32) ∧ ∀ target, Steps p.tables e below (T'.setTop { g with pc := g.pc + 1, stack := rest }) target → Steps p.tables e below (T.setTop g) target := by
  obtain ⟨cl, Ar, S, H⟩ := A
  have st := stC X hx hZ eT Ar (j := j) (owIn hj hk S) hg hs hd
  rw [owIdx hj] at st
  obtain ⟨T', h', X', e', W, st⟩ := st
  exact ⟨T', h', X', e', W, owSetI Ar S H hk W, st⟩
theorem owStI (X : Stand p l e R s m args below meth c T locs cells slots) (hx : p.tables.exec = Jvm.exec) (hZ : Z.Warmed39 s.vm) (eT : T.heap = h) {f : Nat → Int32} (A : owAI Z h a .int n f) {j x : Int32} (hj : j.toInt = (k : Int)) (hk : k < n) {g : JFrame} (hg : g.method = m) {rest : List Value} (hs : g.stack = .int x :: .int j :: .ref a :: rest) (hd : decode c.code g.pc = .ok (.iastore, 1)) :
    ∃ T' h', Stand p l e R s m args below meth c T' (locs ++ [⟨a, k⟩]) cells slots ∧ T'.heap = h' ∧ Wr h h' a k (.int x) ∧ owAI Z h' a .int n (owUp f k x) ∧ ∀ target, Steps p.tables e below (T'.setTop { g with pc := g.pc + 1, stack := rest }) target → Steps p.tables e below (T.setTop g) target := by
  obtain ⟨cl, Ar, S, H⟩ := A
  have st := stI X hx hZ eT Ar (j := j) (owIn hj hk S) hg hs hd
  rw [owIdx hj] at st
  obtain ⟨T', h', X', e', W, st⟩ := st
  exact ⟨T', h', X', e', W, owSetI Ar S H hk W, st⟩
theorem owStJ (X : Stand p l e R s m args below meth c T locs cells slots) (hx : p.tables.exec = Jvm.exec) (hZ : Z.Warmed39 s.vm) (eT : T.heap = h) {f : Nat → Int64} (A : owAJ Z h a .long n f) {j : Int32} {x : Int64} (hj : j.toInt = (k : Int)) (hk : k < n) {g : JFrame} (hg : g.method = m) {rest : List Value} (hs : g.stack = .long x :: .int j :: .ref a :: rest) (hd : decode c.code g.pc = .ok (.lastore, 1)) :
    ∃ T' h', Stand p l e R s m args below meth c T' (locs ++ [⟨a, k⟩]) cells slots ∧ T'.heap = h' ∧ Wr h h' a k (.long x) ∧ owAJ Z h' a .long n (owUp f k x) ∧ ∀ target, Steps p.tables e below (T'.setTop { g with pc := g.pc + 1, stack := rest }) target → Steps p.tables e below (T.setTop g) target := by
  obtain ⟨cl, Ar, S, H⟩ := A
  have st := stJ X hx hZ eT Ar (j := j) (owIn hj hk S) hg hs hd
  rw [owIdx hj] at st
  obtain ⟨T', h', X', e', W, st⟩ := st
  exact ⟨T', h', X', e', W, owSetJ Ar S H hk W, st⟩
theorem owSel {s : State} {args : Array Value} {y : MethodName} {n : Nat} (hi : (Cond.instantiable y.cls n).before args s = true) (hpriv : s.PrivateAt y) (hinst : (Cond.instanceMethod y).before args s = true) (hy : y.cls ≠ "java/lang/invoke/MethodHandle" ∧ y.cls ≠ "java/lang/invoke/VarHandle") : (Cond.selects y.cls y y).before args s = true := by
  obtain ⟨c, k, h1, h2, -, h4, -⟩ := Cond.instantiable_spec hi
  have h5 : k.isInterface = false := by cases hq : k.isInterface <;> simp_all
  exact selects_self_of_private h1 h2 h5 hpriv hinst hy
theorem owRetI (X : Stand p l e R s m args below meth c T locs cells slots) (hx : p.tables.exec = Jvm.exec) {pc : Nat} {Ls : Array Slot} {z : Int32} (hret : meth.sig.returnType = some .int) (hd : decode c.code pc = .ok (.ireturn, 1)) {fs : List Frame}
    (hl : ∀ (f : JFrame) (acts : List Action), f.method = m → f.locked = none → f.entered = [] → (doReturn e (T.setTop f) acts (some (.int z))).1 = T.setFrames fs) : Steps p.tables e below (T.setTop (mkF m pc Ls [.int z])) (T.setFrames fs) :=
  X.ireturnOut hx hret rfl (Or.inl rfl) hd hl
end Own

def own_sorted (fz : Nat → Int64) (cn : Nat) : Prop := ∀ i j : Nat, i ≤ j → j < cn → (fz i).toInt ≤ (fz j).toInt
def own_spec (fz : Nat → Int64) (q : Int64) (cn : Nat) (r : Int32) : Prop := -1 ≤ r.toInt ∧ r.toInt < (cn : Int) ∧ (∀ i : Nat, (i : Int) ≤ r.toInt → (fz i).toInt ≤ q.toInt) ∧ (∀ i : Nat, r.toInt < (i : Int) → i < cn → q.toInt < (fz i).toInt)
def own_inv (fz : Nat → Int64) (q : Int64) (cn : Nat) (lo hi : Int32) : Prop := 0 ≤ lo.toInt ∧ lo.toInt ≤ hi.toInt + 1 ∧ hi.toInt < (cn : Int) ∧ cn ≤ 5 ∧ (∀ i : Nat, (i : Int) < lo.toInt → (fz i).toInt ≤ q.toInt) ∧ (∀ i : Nat, hi.toInt < (i : Int) → i < cn → q.toInt < (fz i).toInt)
section
variable {fz : Nat → Int64} {q : Int64} {cn km d : Nat} {lo hi mi : Int32}
theorem own_n16 {ps : Int32} {ks : Nat} (h : ps.toInt = (ks : Int)) (hk : ks < 16) : ¬ ps = (16 : Int32) := fun e => by
  rw [e] at h
  have o : (16 : Int32).toInt = 16 := rfl
  omega
theorem own_z (hd : hi.toInt + 1 - lo.toInt ≤ ((0 : Nat) : Int)) : hi < lo := by rw [Int32.lt_iff_toInt_lt]; omega
theorem own_out (hv : own_inv fz q cn lo hi) (h : hi < lo) : own_spec fz q cn hi := by
  obtain ⟨h1, h2, h3, h4, h5, h6⟩ := hv
  rw [Int32.lt_iff_toInt_lt] at h
  exact ⟨by omega, h3, fun i hi => h5 i (by omega), h6⟩
theorem own_mid (lo hi mi : Int32) (h_mi : mi = (((lo + hi).toUInt32 >>> ((1 : Int32) &&& 31).toUInt32).toInt32)) (hv : own_inv fz q cn lo hi) (hq : ¬ hi < lo) : ∃ km : Nat, mi.toInt = (km : Int) ∧ lo.toInt ≤ (km : Int) ∧ (km : Int) ≤ hi.toInt ∧ km < 16 := by
  obtain ⟨h1, h2, h3, h4, h5, h6⟩ := hv
  rw [Int32.lt_iff_toInt_lt] at hq
  have a1 := c_iadd lo hi
  have a2 := rng32 (lo + hi)
  have a3 := c_iushr (lo + hi) 1 1 (by decide) (by decide)
  rw [← h_mi] at a3
  exact ⟨mi.toInt.toNat, by omega, by omega, by omega, by omega⟩
theorem own_left (hv : own_inv fz q cn lo hi) (h_km : mi.toInt = (km : Int)) (h_k1 : lo.toInt ≤ (km : Int)) (h_k2 : (km : Int) ≤ hi.toInt) (h_k3 : km < 16) (hso : own_sorted fz cn) (hn : q < (fz km)) : own_inv fz q cn lo (mi - (1 : Int32)) := by
  obtain ⟨h1, h2, h3, h4, h5, h6⟩ := hv
  rw [Int64.lt_iff_toInt_lt] at hn
  have a1 := c_isub mi 1
  have a2 := rng32 (mi - 1)
  have o : (1 : Int32).toInt = 1 := rfl
  refine ⟨h1, by omega, by omega, h4, h5, fun i hi hc => ?_⟩
  have := hso km i (by omega) hc
  omega
theorem own_right (hv : own_inv fz q cn lo hi) (h_km : mi.toInt = (km : Int)) (h_k1 : lo.toInt ≤ (km : Int)) (h_k2 : (km : Int) ≤ hi.toInt) (h_k3 : km < 16) (hso : own_sorted fz cn) (hn : ¬ q < (fz km)) : own_inv fz q cn (mi + (1 : Int32)) hi := by
  obtain ⟨h1, h2, h3, h4, h5, h6⟩ := hv
  rw [Int64.lt_iff_toInt_lt] at hn
  have a1 := c_iadd mi 1
  have a2 := rng32 (mi + 1)
  have o : (1 : Int32).toInt = 1 := rfl
  refine ⟨by omega, by omega, h3, h4, fun i hi => ?_, h6⟩
  have := hso i km (by omega) (by omega)
  omega
theorem own_leftd (hv : own_inv fz q cn lo hi) (h_km : mi.toInt = (km : Int)) (h_k1 : lo.toInt ≤ (km : Int)) (h_k2 : (km : Int) ≤ hi.toInt) (h_k3 : km < 16) (hd : hi.toInt + 1 - lo.toInt ≤ ((d + 1 : Nat) : Int)) : (mi - (1 : Int32)).toInt + 1 - lo.toInt ≤ (d : Int) := by
  have a1 := c_isub mi 1
  have a2 := rng32 (mi - 1)
  have o : (1 : Int32).toInt = 1 := rfl
  omega
theorem own_rightd (hv : own_inv fz q cn lo hi) (h_km : mi.toInt = (km : Int)) (h_k1 : lo.toInt ≤ (km : Int)) (h_k2 : (km : Int) ≤ hi.toInt) (h_k3 : km < 16) (hd : hi.toInt + 1 - lo.toInt ≤ ((d + 1 : Nat) : Int)) : hi.toInt + 1 - (mi + (1 : Int32)).toInt ≤ (d : Int) := by
  have a1 := c_iadd mi 1
  have a2 := rng32 (mi + 1)
  have o : (1 : Int32).toInt = 1 := rfl
  omega
theorem own_init {ps : Int32} (fz : Nat → Int64) (q : Int64) (hps : ps.toInt = (cn : Int)) (hcn : cn ≤ 5) : own_inv fz q cn (0 : Int32) (ps - (1 : Int32)) := by
  have a1 := c_isub ps 1
  have a2 := rng32 (ps - 1)
  have o : (1 : Int32).toInt = 1 := rfl
  have o0 : (0 : Int32).toInt = 0 := rfl
  exact ⟨by omega, by omega, by omega, hcn, fun i hi => by omega, fun i hi hc => by omega⟩
theorem own_initd {ps : Int32} (hps : ps.toInt = (cn : Int)) (hcn : cn ≤ 5) : (ps - (1 : Int32)).toInt + 1 - (0 : Int32).toInt ≤ ((16 : Nat) : Int) := by
  have a1 := c_isub ps 1
  have a2 := rng32 (ps - 1)
  have o : (1 : Int32).toInt = 1 := rfl
  have o0 : (0 : Int32).toInt = 0 := rfl
  omega
end

theorem d2_0 : decode prog_203_method_2_code 0 = .ok (.aload_n 0, 1) := by decide +kernel
theorem d2_1 : decode prog_203_method_2_code 1 = .ok (.invokespecial 7, 3) := by decide +kernel
theorem d2_4 : decode prog_203_method_2_code 4 = .ok (.aload_n 0, 1) := by decide +kernel
theorem d2_5 : decode prog_203_method_2_code 5 = .ok (.aload_n 1, 1) := by decide +kernel
theorem d2_6 : decode prog_203_method_2_code 6 = .ok (.putfield 12, 3) := by decide +kernel
theorem d2_9 : decode prog_203_method_2_code 9 = .ok (.aload_n 0, 1) := by decide +kernel
theorem d2_10 : decode prog_203_method_2_code 10 = .ok (.aload_n 2, 1) := by decide +kernel
theorem d2_11 : decode prog_203_method_2_code 11 = .ok (.putfield 16, 3) := by decide +kernel
theorem d2_14 : decode prog_203_method_2_code 14 = .ok (.aload_n 0, 1) := by decide +kernel
theorem d2_15 : decode prog_203_method_2_code 15 = .ok (.aload_n 1, 1) := by decide +kernel
theorem d2_16 : decode prog_203_method_2_code 16 = .ok (.arraylength, 1) := by decide +kernel
theorem d2_17 : decode prog_203_method_2_code 17 = .ok (.newarray .long, 2) := by decide +kernel
theorem d2_19 : decode prog_203_method_2_code 19 = .ok (.putfield 19, 3) := by decide +kernel
theorem d2_22 : decode prog_203_method_2_code 22 = .ok (.aload_n 0, 1) := by decide +kernel
theorem d2_23 : decode prog_203_method_2_code 23 = .ok (.iload_n 3, 1) := by decide +kernel
theorem d2_24 : decode prog_203_method_2_code 24 = .ok (.putfield 22, 3) := by decide +kernel
theorem d2_27 : decode prog_203_method_2_code 27 = .ok (.aload_n 0, 1) := by decide +kernel
theorem d2_28 : decode prog_203_method_2_code 28 = .ok (.iload_n 3, 1) := by decide +kernel
theorem d2_29 : decode prog_203_method_2_code 29 = .ok (.putfield 26, 3) := by decide +kernel
theorem d2_32 : decode prog_203_method_2_code 32 = .ok (.aload_n 0, 1) := by decide +kernel
theorem d2_33 : decode prog_203_method_2_code 33 = .ok (.iload_n 3, 1) := by decide +kernel
theorem d2_34 : decode prog_203_method_2_code 34 = .ok (.putfield 29, 3) := by decide +kernel
theorem d2_37 : decode prog_203_method_2_code 37 = .ok (.return_, 1) := by decide +kernel
theorem pn_2 : plainName "com/example/quorumvote/quorumvote/simulation/SimulatedLog" = true := by first | (simp [plainName, overriddenIn]; done) | decide +kernel
theorem ef_2 (m : MethodId) (x0 : Addr) (x1 : Addr) (x2 : Addr) (x3 : Int32) : entryFrame m #[(.ref x0), (.ref x1), (.ref x2), (.int x3)] 4 = mkF m 0 #[.val (.ref x0), .val (.ref x1), .val (.ref x2), .val (.int x3)] [] := by first | (simp [entryFrame, mkF, argsToLocals, Value.category]; done) | rfl
def Q2 (Z : State) (a1 : Addr) (a2 : Addr) (a3 : Addr) (p4 : Int32) (h0 : Heap) (n0 : Nat) (v : Option Value) (h : Heap) (L : List Loc) : Prop := ∃ b : Addr, v = none ∧ Fr n0 L ∧ Keep h0 h [a1] ∧ h0.size ≤ b ∧ Exa Z h a1 "com/example/quorumvote/quorumvote/simulation/SimulatedLog" ∧ Fld Z h a1 "com/example/quorumvote/quorumvote/simulation/SimulatedLog" "zxids" "[J" (.ref a2) ∧ Fld Z h a1 "com/example/quorumvote/quorumvote/simulation/SimulatedLog" "writes" "[J" (.ref a3) ∧ Fld Z h a1 "com/example/quorumvote/quorumvote/simulation/SimulatedLog" "tags" "[J" (.ref b) ∧ Fld Z h a1 "com/example/quorumvote/quorumvote/simulation/SimulatedLog" "size" "I" (.int p4) ∧ owAJ Z h b .long 16 (fun _ => 0)
set_option maxRecDepth 65536 in
set_option maxHeartbeats 40000000 in
theorem rm2 (l : Launch) (Z : State) (a0 : Array Value) (hw : ∀ d ∈ tables_1, d.before a0 Z = true) (ws : List Jvm.Cond) (a1 : Addr) (a2 : Addr) (a3 : Addr) (p4 : Int32) (h0 : Heap) (n0 : Nat) (Z0 : n0 ≤ h0.size) (E_a1 : Exa Z h0 a1 "com/example/quorumvote/quorumvote/simulation/SimulatedLog") (F_zxids : Fld Z h0 a1 "com/example/quorumvote/quorumvote/simulation/SimulatedLog" "zxids" "[J" .null) (F_writes : Fld Z h0 a1 "com/example/quorumvote/quorumvote/simulation/SimulatedLog" "writes" "[J" .null) (F_tags : Fld Z h0 a1 "com/example/quorumvote/quorumvote/simulation/SimulatedLog" "tags" "[J" .null) (F_size : Fld Z h0 a1 "com/example/quorumvote/quorumvote/simulation/SimulatedLog" "size" "I" (.int (0 : Int32))) (F_onDisk : Fld Z h0 a1 "com/example/quorumvote/quorumvote/simulation/SimulatedLog" "onDisk" "I" (.int (0 : Int32))) (F_applied : Fld Z h0 a1 "com/example/quorumvote/quorumvote/simulation/SimulatedLog" "applied" "I" (.int (0 : Int32))) (A_a2 : owAJ Z h0 a2 .long 16 (fun _ => 0)) (A_a3 : owAJ Z h0 a3 .long 16 (fun _ => 0)) (g_a1 : n0 ≤ a1) (n12 : a1 ≠ a2) (n13 : a1 ≠ a3) :
    MetFree l (⟨"com/example/quorumvote/quorumvote/simulation/SimulatedLog", "<init>", "([J[JI)V"⟩ : MethodName) (head1 (Jvm.Cond.code (⟨"com/example/quorumvote/quorumvote/simulation/SimulatedLog", "<init>", "([J[JI)V"⟩ : MethodName) prog_203_method_2_code 4 none :: ws) ({ frames := 1, cells := 1, slots := 16, locals := 12 } : Room)) (fun a U => a = #[(.ref a1), (.ref a2), (.ref a3), (.int p4)] ∧ Z.Warmed39 U.vm ∧ U.heap = h0) (fun _ _ _ _ _ => True) (fun _ U o U' => ∃ v L, o = .returned v ∧ Q2 Z a1 a2 a3 p4 h0 n0 v U'.heap L ∧ FrameEnd U o U' L ({ frames := 1, cells := 1, slots := 16, locals := 12 } : Room).cells ({ frames := 1, cells := 1, slots := 16, locals := 12 } : Room).slots) := by
  refine MetFree.of_bodySF (plainFor_of_name pn_2) hisR ?_
  intro p e s m args below meth c s₁ Bd hml0 hP hK
  obtain ⟨rfl, hZ, hh⟩ := hP
  have hx := Bd.exec
  have hby := Bd.bytes
  have hml : c.maxLocals = 4 := hml0
  have hown : s.vm.findClass "com/example/quorumvote/quorumvote/simulation/SimulatedLog" = some m.cls := findClass_of_methodNamed Bd.named
  have hnm := (name_of_methodNamed Bd.named Bd.method).1
  have X0 : Stand p l e ({ frames := 1, cells := 1, slots := 16, locals := 12 } : Room) s m #[(.ref a1), (.ref a2), (.ref a3), (.int p4)] below meth c s₁ [] 0 0 := Stand.of_body Bd
  have e0 : s₁.heap = h0 := by rw [← hh, Bd.state]; rfl
  have N0 := Fr.nil n0
  have pre0 : ∀ t, Steps p.tables e below (s₁.setTop (mkF m 0 #[.val (.ref a1), .val (.ref a2), .val (.ref a3), .val (.int p4)] [])) t → Steps p.tables e below (s₁.setTop (entryFrame m #[(.ref a1), (.ref a2), (.ref a3), (.int p4)] 4)) t := fun t k => castTop (ef_2 m a1 a2 a3 p4) k
  obtain ⟨T1, X1, hE1, st1⟩ := initO X0 hx hZ hown (hw _ (List.mem_of_getElem? (i := 13) rfl)) (hw _ (List.mem_of_getElem? (i := 14) rfl)) (hw _ (List.mem_of_getElem? (i := 15) rfl)) e0 (g := (mkF m 1 #[.val (.ref a1), .val (.ref a2), .val (.ref a3), .val (.int p4)] [(.ref a1)])) rfl (by rw [hml]; rfl) rfl (hb hby d2_1) (by decide) (W := 0) (by show 2 * 0 + _ ≤ _; exact Nat.le_of_eq rfl) (by decide)
  obtain ⟨T2, gh2, X2, hE2, W2, st2⟩ := putF X1 hx hZ hown (host := "") (Or.inl (hw _ (List.mem_of_getElem? (i := 16) rfl))) Via.refl hE1 F_zxids E_a1 (Or.inl (hw _ (List.mem_of_getElem? (i := 17) rfl))) (hw _ (List.mem_of_getElem? (i := 4) rfl)) (ty := (.array .long)) (by decide) rfl rfl (g := (mkF m 6 #[.val (.ref a1), .val (.ref a2), .val (.ref a3), .val (.int p4)] [(.ref a2), (.ref a1)])) rfl rfl (hb hby d2_6)
  have Fw2 := F_zxids.same W2
  have f4 := F_writes.other W2 (Or.inr (slot_ne (Or.inl (hw _ (List.mem_of_getElem? (i := 19) rfl))) (Or.inl (hw _ (List.mem_of_getElem? (i := 17) rfl))) (by decide) (t := (.array .long)) (t' := (.array .long)) (by decide) (by decide)))
  have f5 := F_tags.other W2 (Or.inr (slot_ne (Or.inl (hw _ (List.mem_of_getElem? (i := 21) rfl))) (Or.inl (hw _ (List.mem_of_getElem? (i := 17) rfl))) (by decide) (t := (.array .long)) (t' := (.array .long)) (by decide) (by decide)))
  have f6 := F_size.other W2 (Or.inr (slot_ne (Or.inl (hw _ (List.mem_of_getElem? (i := 23) rfl))) (Or.inl (hw _ (List.mem_of_getElem? (i := 17) rfl))) (by decide) (t := .int) (t' := (.array .long)) (by decide) (by decide)))
  have f7 := F_onDisk.other W2 (Or.inr (slot_ne (Or.inl (hw _ (List.mem_of_getElem? (i := 25) rfl))) (Or.inl (hw _ (List.mem_of_getElem? (i := 17) rfl))) (by decide) (t := .int) (t' := (.array .long)) (by decide) (by decide)))
  have f8 := F_applied.other W2 (Or.inr (slot_ne (Or.inl (hw _ (List.mem_of_getElem? (i := 27) rfl))) (Or.inl (hw _ (List.mem_of_getElem? (i := 17) rfl))) (by decide) (t := .int) (t' := (.array .long)) (by decide) (by decide)))
  have f9 := E_a1.wr W2
  have f10 := A_a2.other W2 (Ne.symm n12)
  have f11 := A_a3.other W2 (Ne.symm n13)
  have Z12 := Nat.le_trans Z0 (Keep.of_wr W2).1
  have N13 := Fr.snoc X2 N0 g_a1
  have K14 := (Keep.refl h0 [a1]).wr W2 (Or.inl (List.mem_of_getElem? (i := 0) rfl))
  obtain ⟨T15, gh15, X15, hE15, W15, st15⟩ := putF X2 hx hZ hown (host := "") (Or.inl (hw _ (List.mem_of_getElem? (i := 18) rfl))) Via.refl hE2 f4 f9 (Or.inl (hw _ (List.mem_of_getElem? (i := 19) rfl))) (hw _ (List.mem_of_getElem? (i := 4) rfl)) (ty := (.array .long)) (by decide) rfl rfl (g := (mkF m 11 #[.val (.ref a1), .val (.ref a2), .val (.ref a3), .val (.int p4)] [(.ref a3), (.ref a1)])) rfl rfl (hb hby d2_11)
  have Fw15 := f4.same W15
  have f16 := Fw2.other W15 (Or.inr (slot_ne (Or.inl (hw _ (List.mem_of_getElem? (i := 17) rfl))) (Or.inl (hw _ (List.mem_of_getElem? (i := 19) rfl))) (by decide) (t := (.array .long)) (t' := (.array .long)) (by decide) (by decide)))
  have f18 := f5.other W15 (Or.inr (slot_ne (Or.inl (hw _ (List.mem_of_getElem? (i := 21) rfl))) (Or.inl (hw _ (List.mem_of_getElem? (i := 19) rfl))) (by decide) (t := (.array .long)) (t' := (.array .long)) (by decide) (by decide)))
  have f19 := f6.other W15 (Or.inr (slot_ne (Or.inl (hw _ (List.mem_of_getElem? (i := 23) rfl))) (Or.inl (hw _ (List.mem_of_getElem? (i := 19) rfl))) (by decide) (t := .int) (t' := (.array .long)) (by decide) (by decide)))
  have f20 := f7.other W15 (Or.inr (slot_ne (Or.inl (hw _ (List.mem_of_getElem? (i := 25) rfl))) (Or.inl (hw _ (List.mem_of_getElem? (i := 19) rfl))) (by decide) (t := .int) (t' := (.array .long)) (by decide) (by decide)))
  have f21 := f8.other W15 (Or.inr (slot_ne (Or.inl (hw _ (List.mem_of_getElem? (i := 27) rfl))) (Or.inl (hw _ (List.mem_of_getElem? (i := 19) rfl))) (by decide) (t := .int) (t' := (.array .long)) (by decide) (by decide)))
  have f22 := f9.wr W15
  have f23 := f10.other W15 (Ne.symm n12)
  have f24 := f11.other W15 (Ne.symm n13)
  have Z25 := Nat.le_trans Z12 (Keep.of_wr W15).1
  have N26 := Fr.snoc X15 N13 g_a1
  have K27 := K14.wr W15 (Or.inl (List.mem_of_getElem? (i := 0) rfl))
  obtain ⟨T28, gh28, k28, X28, hE28, E28, A28, st28⟩ := newP X15 hx hZ (hw _ (List.mem_of_getElem? (i := 9) rfl)) hE15 (g := (mkF m 17 #[.val (.ref a1), .val (.ref a2), .val (.ref a3), .val (.int p4)] [(.int (16 : Int32)), (.ref a1)])) rfl (hb hby d2_17) rfl (by decide) (cap := 16) (by decide) (by decide) (by decide) (by decide)
  obtain ⟨bt, g28⟩ : ∃ z, z = gh15.size := ⟨_, rfl⟩
  rw [← g28] at A28 st28
  have ne_a1_bt : a1 ≠ bt := Nat.ne_of_lt (Nat.lt_of_lt_of_le f16.lt (Nat.le_of_eq g28.symm))
  have ne_a2_bt : a2 ≠ bt := Nat.ne_of_lt (Nat.lt_of_lt_of_le f23.lt (Nat.le_of_eq g28.symm))
  have ne_a3_bt : a3 ≠ bt := Nat.ne_of_lt (Nat.lt_of_lt_of_le f24.lt (Nat.le_of_eq g28.symm))
  have g_bt : n0 ≤ bt := Nat.le_trans Z25 (Nat.le_of_eq g28.symm)
  have sz_bt : h0.size ≤ bt := Nat.le_trans K27.1 (Nat.le_of_eq g28.symm)
  have f29 := f16.ext E28
  have f30 := Fw15.ext E28
  have f31 := f18.ext E28
  have f32 := f19.ext E28
  have f33 := f20.ext E28
  have f34 := f21.ext E28
  have f35 := f22.ext E28
  have f36 := f23.ext E28
  have f37 := f24.ext E28
  have Z38 := Nat.le_trans Z25 E28.1
  have K39 := K27.ext E28
  have V28 : owAJ Z gh28 bt .long 16 (fun _ => 0) := owAJ.new A28 rfl rfl
  obtain ⟨T40, gh40, X40, hE40, W40, st40⟩ := putF X28 hx hZ hown (host := "") (Or.inl (hw _ (List.mem_of_getElem? (i := 20) rfl))) Via.refl hE28 f31 f35 (Or.inl (hw _ (List.mem_of_getElem? (i := 21) rfl))) (hw _ (List.mem_of_getElem? (i := 4) rfl)) (ty := (.array .long)) (by decide) rfl rfl (g := (mkF m 19 #[.val (.ref a1), .val (.ref a2), .val (.ref a3), .val (.int p4)] [(.ref bt), (.ref a1)])) rfl rfl (hb hby d2_19)
  have Fw40 := f31.same W40
  have f41 := f29.other W40 (Or.inr (slot_ne (Or.inl (hw _ (List.mem_of_getElem? (i := 17) rfl))) (Or.inl (hw _ (List.mem_of_getElem? (i := 21) rfl))) (by decide) (t := (.array .long)) (t' := (.array .long)) (by decide) (by decide)))
  have f42 := f30.other W40 (Or.inr (slot_ne (Or.inl (hw _ (List.mem_of_getElem? (i := 19) rfl))) (Or.inl (hw _ (List.mem_of_getElem? (i := 21) rfl))) (by decide) (t := (.array .long)) (t' := (.array .long)) (by decide) (by decide)))
  have f44 := f32.other W40 (Or.inr (slot_ne (Or.inl (hw _ (List.mem_of_getElem? (i := 23) rfl))) (Or.inl (hw _ (List.mem_of_getElem? (i := 21) rfl))) (by decide) (t := .int) (t' := (.array .long)) (by decide) (by decide)))
  have f45 := f33.other W40 (Or.inr (slot_ne (Or.inl (hw _ (List.mem_of_getElem? (i := 25) rfl))) (Or.inl (hw _ (List.mem_of_getElem? (i := 21) rfl))) (by decide) (t := .int) (t' := (.array .long)) (by decide) (by decide)))
  have f46 := f34.other W40 (Or.inr (slot_ne (Or.inl (hw _ (List.mem_of_getElem? (i := 27) rfl))) (Or.inl (hw _ (List.mem_of_getElem? (i := 21) rfl))) (by decide) (t := .int) (t' := (.array .long)) (by decide) (by decide)))
  have f47 := f35.wr W40
  have f48 := f36.other W40 (Ne.symm n12)
  have f49 := f37.other W40 (Ne.symm n13)
  have f50 := V28.other W40 (Ne.symm ne_a1_bt)
  have Z51 := Nat.le_trans Z38 (Keep.of_wr W40).1
  have N52 := Fr.snoc X40 N26 g_a1
  have K53 := K39.wr W40 (Or.inl (List.mem_of_getElem? (i := 0) rfl))
  obtain ⟨T54, gh54, X54, hE54, W54, st54⟩ := putF X40 hx hZ hown (host := "") (Or.inl (hw _ (List.mem_of_getElem? (i := 22) rfl))) Via.refl hE40 f44 f47 (Or.inl (hw _ (List.mem_of_getElem? (i := 23) rfl))) (hw _ (List.mem_of_getElem? (i := 4) rfl)) (ty := .int) (by decide) rfl rfl (g := (mkF m 24 #[.val (.ref a1), .val (.ref a2), .val (.ref a3), .val (.int p4)] [(.int p4), (.ref a1)])) rfl rfl (hb hby d2_24)
  have Fw54 := f44.same W54
  have f55 := f41.other W54 (Or.inr (slot_ne (Or.inl (hw _ (List.mem_of_getElem? (i := 17) rfl))) (Or.inl (hw _ (List.mem_of_getElem? (i := 23) rfl))) (by decide) (t := (.array .long)) (t' := .int) (by decide) (by decide)))
  have f56 := f42.other W54 (Or.inr (slot_ne (Or.inl (hw _ (List.mem_of_getElem? (i := 19) rfl))) (Or.inl (hw _ (List.mem_of_getElem? (i := 23) rfl))) (by decide) (t := (.array .long)) (t' := .int) (by decide) (by decide)))
  have f57 := Fw40.other W54 (Or.inr (slot_ne (Or.inl (hw _ (List.mem_of_getElem? (i := 21) rfl))) (Or.inl (hw _ (List.mem_of_getElem? (i := 23) rfl))) (by decide) (t := (.array .long)) (t' := .int) (by decide) (by decide)))
  have f59 := f45.other W54 (Or.inr (slot_ne (Or.inl (hw _ (List.mem_of_getElem? (i := 25) rfl))) (Or.inl (hw _ (List.mem_of_getElem? (i := 23) rfl))) (by decide) (t := .int) (t' := .int) (by decide) (by decide)))
  have f60 := f46.other W54 (Or.inr (slot_ne (Or.inl (hw _ (List.mem_of_getElem? (i := 27) rfl))) (Or.inl (hw _ (List.mem_of_getElem? (i := 23) rfl))) (by decide) (t := .int) (t' := .int) (by decide) (by decide)))
  have f61 := f47.wr W54
  have f62 := f48.other W54 (Ne.symm n12)
  have f63 := f49.other W54 (Ne.symm n13)
  have f64 := f50.other W54 (Ne.symm ne_a1_bt)
  have Z65 := Nat.le_trans Z51 (Keep.of_wr W54).1
  have N66 := Fr.snoc X54 N52 g_a1
  have K67 := K53.wr W54 (Or.inl (List.mem_of_getElem? (i := 0) rfl))
  obtain ⟨T68, gh68, X68, hE68, W68, st68⟩ := putF X54 hx hZ hown (host := "") (Or.inl (hw _ (List.mem_of_getElem? (i := 24) rfl))) Via.refl hE54 f59 f61 (Or.inl (hw _ (List.mem_of_getElem? (i := 25) rfl))) (hw _ (List.mem_of_getElem? (i := 4) rfl)) (ty := .int) (by decide) rfl rfl (g := (mkF m 29 #[.val (.ref a1), .val (.ref a2), .val (.ref a3), .val (.int p4)] [(.int p4), (.ref a1)])) rfl rfl (hb hby d2_29)
  have Fw68 := f59.same W68
  have f69 := f55.other W68 (Or.inr (slot_ne (Or.inl (hw _ (List.mem_of_getElem? (i := 17) rfl))) (Or.inl (hw _ (List.mem_of_getElem? (i := 25) rfl))) (by decide) (t := (.array .long)) (t' := .int) (by decide) (by decide)))
  have f70 := f56.other W68 (Or.inr (slot_ne (Or.inl (hw _ (List.mem_of_getElem? (i := 19) rfl))) (Or.inl (hw _ (List.mem_of_getElem? (i := 25) rfl))) (by decide) (t := (.array .long)) (t' := .int) (by decide) (by decide)))
  have f71 := f57.other W68 (Or.inr (slot_ne (Or.inl (hw _ (List.mem_of_getElem? (i := 21) rfl))) (Or.inl (hw _ (List.mem_of_getElem? (i := 25) rfl))) (by decide) (t := (.array .long)) (t' := .int) (by decide) (by decide)))
  have f72 := Fw54.other W68 (Or.inr (slot_ne (Or.inl (hw _ (List.mem_of_getElem? (i := 23) rfl))) (Or.inl (hw _ (List.mem_of_getElem? (i := 25) rfl))) (by decide) (t := .int) (t' := .int) (by decide) (by decide)))
  have f74 := f60.other W68 (Or.inr (slot_ne (Or.inl (hw _ (List.mem_of_getElem? (i := 27) rfl))) (Or.inl (hw _ (List.mem_of_getElem? (i := 25) rfl))) (by decide) (t := .int) (t' := .int) (by decide) (by decide)))
  have f75 := f61.wr W68
  have f76 := f62.other W68 (Ne.symm n12)
  have f77 := f63.other W68 (Ne.symm n13)
  have f78 := f64.other W68 (Ne.symm ne_a1_bt)
  have Z79 := Nat.le_trans Z65 (Keep.of_wr W68).1
  have N80 := Fr.snoc X68 N66 g_a1
  have K81 := K67.wr W68 (Or.inl (List.mem_of_getElem? (i := 0) rfl))
  obtain ⟨T82, gh82, X82, hE82, W82, st82⟩ := putF X68 hx hZ hown (host := "") (Or.inl (hw _ (List.mem_of_getElem? (i := 26) rfl))) Via.refl hE68 f74 f75 (Or.inl (hw _ (List.mem_of_getElem? (i := 27) rfl))) (hw _ (List.mem_of_getElem? (i := 4) rfl)) (ty := .int) (by decide) rfl rfl (g := (mkF m 34 #[.val (.ref a1), .val (.ref a2), .val (.ref a3), .val (.int p4)] [(.int p4), (.ref a1)])) rfl rfl (hb hby d2_34)
  have Fw82 := f74.same W82
  have f83 := f69.other W82 (Or.inr (slot_ne (Or.inl (hw _ (List.mem_of_getElem? (i := 17) rfl))) (Or.inl (hw _ (List.mem_of_getElem? (i := 27) rfl))) (by decide) (t := (.array .long)) (t' := .int) (by decide) (by decide)))
  have f84 := f70.other W82 (Or.inr (slot_ne (Or.inl (hw _ (List.mem_of_getElem? (i := 19) rfl))) (Or.inl (hw _ (List.mem_of_getElem? (i := 27) rfl))) (by decide) (t := (.array .long)) (t' := .int) (by decide) (by decide)))
  have f85 := f71.other W82 (Or.inr (slot_ne (Or.inl (hw _ (List.mem_of_getElem? (i := 21) rfl))) (Or.inl (hw _ (List.mem_of_getElem? (i := 27) rfl))) (by decide) (t := (.array .long)) (t' := .int) (by decide) (by decide)))
  have f86 := f72.other W82 (Or.inr (slot_ne (Or.inl (hw _ (List.mem_of_getElem? (i := 23) rfl))) (Or.inl (hw _ (List.mem_of_getElem? (i := 27) rfl))) (by decide) (t := .int) (t' := .int) (by decide) (by decide)))
  have f87 := Fw68.other W82 (Or.inr (slot_ne (Or.inl (hw _ (List.mem_of_getElem? (i := 25) rfl))) (Or.inl (hw _ (List.mem_of_getElem? (i := 27) rfl))) (by decide) (t := .int) (t' := .int) (by decide) (by decide)))
  have f89 := f75.wr W82
  have f90 := f76.other W82 (Ne.symm n12)
  have f91 := f77.other W82 (Ne.symm n13)
  have f92 := f78.other W82 (Ne.symm ne_a1_bt)
  have Z93 := Nat.le_trans Z79 (Keep.of_wr W82).1
  have N94 := Fr.snoc X82 N80 g_a1
  have K95 := K81.wr W82 (Or.inl (List.mem_of_getElem? (i := 0) rfl))
  have pre96 : ∀ t, Steps p.tables e below (T82.setTop (mkF m 37 #[.val (.ref a1), .val (.ref a2), .val (.ref a3), .val (.int p4)] [])) t → Steps p.tables e below (s₁.setTop (entryFrame m #[(.ref a1), (.ref a2), (.ref a3), (.int p4)] 4)) t := by
    intro t kt
    refine pre0 _ ?_
    show Steps p.tables e below (s₁.setTop (mkF m 0 #[.val (.ref a1), .val (.ref a2), .val (.ref a3), .val (.int p4)] [])) _
    refine XS.aloadN X0.here hx rfl (hb hby d2_0) rfl rfl ?_
    show Steps p.tables e below (s₁.setTop (mkF m 1 #[.val (.ref a1), .val (.ref a2), .val (.ref a3), .val (.int p4)] [(.ref a1)])) _
    refine st1 _ ?_
    show Steps p.tables e below (T1.setTop (mkF m 4 #[.val (.ref a1), .val (.ref a2), .val (.ref a3), .val (.int p4)] [])) _
    refine XS.aloadN X1.here hx rfl (hb hby d2_4) rfl rfl ?_
    show Steps p.tables e below (T1.setTop (mkF m 5 #[.val (.ref a1), .val (.ref a2), .val (.ref a3), .val (.int p4)] [(.ref a1)])) _
    refine XS.aloadN X1.here hx rfl (hb hby d2_5) rfl rfl ?_
    show Steps p.tables e below (T1.setTop (mkF m 6 #[.val (.ref a1), .val (.ref a2), .val (.ref a3), .val (.int p4)] [(.ref a2), (.ref a1)])) _
    refine st2 _ ?_
    show Steps p.tables e below (T2.setTop (mkF m 9 #[.val (.ref a1), .val (.ref a2), .val (.ref a3), .val (.int p4)] [])) _
    refine XS.aloadN X2.here hx rfl (hb hby d2_9) rfl rfl ?_
    show Steps p.tables e below (T2.setTop (mkF m 10 #[.val (.ref a1), .val (.ref a2), .val (.ref a3), .val (.int p4)] [(.ref a1)])) _
    refine XS.aloadN X2.here hx rfl (hb hby d2_10) rfl rfl ?_
    show Steps p.tables e below (T2.setTop (mkF m 11 #[.val (.ref a1), .val (.ref a2), .val (.ref a3), .val (.int p4)] [(.ref a3), (.ref a1)])) _
    refine st15 _ ?_
    show Steps p.tables e below (T15.setTop (mkF m 14 #[.val (.ref a1), .val (.ref a2), .val (.ref a3), .val (.int p4)] [])) _
    refine XS.aloadN X15.here hx rfl (hb hby d2_14) rfl rfl ?_
    show Steps p.tables e below (T15.setTop (mkF m 15 #[.val (.ref a1), .val (.ref a2), .val (.ref a3), .val (.int p4)] [(.ref a1)])) _
    refine XS.aloadN X15.here hx rfl (hb hby d2_15) rfl rfl ?_
    show Steps p.tables e below (T15.setTop (mkF m 16 #[.val (.ref a1), .val (.ref a2), .val (.ref a3), .val (.int p4)] [(.ref a2), (.ref a1)])) _
    refine owLenJ X15 hx hZ hE15 f23 (z := (16 : Int32)) rfl (g := (mkF m 16 #[.val (.ref a1), .val (.ref a2), .val (.ref a3), .val (.int p4)] [(.ref a2), (.ref a1)])) rfl rfl (hb hby d2_16) _ ?_
    show Steps p.tables e below (T15.setTop (mkF m 17 #[.val (.ref a1), .val (.ref a2), .val (.ref a3), .val (.int p4)] [(.int (16 : Int32)), (.ref a1)])) _
    refine st28 _ ?_
    show Steps p.tables e below (T28.setTop (mkF m 19 #[.val (.ref a1), .val (.ref a2), .val (.ref a3), .val (.int p4)] [(.ref bt), (.ref a1)])) _
    refine st40 _ ?_
    show Steps p.tables e below (T40.setTop (mkF m 22 #[.val (.ref a1), .val (.ref a2), .val (.ref a3), .val (.int p4)] [])) _
    refine XS.aloadN X40.here hx rfl (hb hby d2_22) rfl rfl ?_
    show Steps p.tables e below (T40.setTop (mkF m 23 #[.val (.ref a1), .val (.ref a2), .val (.ref a3), .val (.int p4)] [(.ref a1)])) _
    refine XS.iloadN X40.here hx rfl (hb hby d2_23) rfl ?_
    show Steps p.tables e below (T40.setTop (mkF m 24 #[.val (.ref a1), .val (.ref a2), .val (.ref a3), .val (.int p4)] [(.int p4), (.ref a1)])) _
    refine st54 _ ?_
    show Steps p.tables e below (T54.setTop (mkF m 27 #[.val (.ref a1), .val (.ref a2), .val (.ref a3), .val (.int p4)] [])) _
    refine XS.aloadN X54.here hx rfl (hb hby d2_27) rfl rfl ?_
    show Steps p.tables e below (T54.setTop (mkF m 28 #[.val (.ref a1), .val (.ref a2), .val (.ref a3), .val (.int p4)] [(.ref a1)])) _
    refine XS.iloadN X54.here hx rfl (hb hby d2_28) rfl ?_
    show Steps p.tables e below (T54.setTop (mkF m 29 #[.val (.ref a1), .val (.ref a2), .val (.ref a3), .val (.int p4)] [(.int p4), (.ref a1)])) _
    refine st68 _ ?_
    show Steps p.tables e below (T68.setTop (mkF m 32 #[.val (.ref a1), .val (.ref a2), .val (.ref a3), .val (.int p4)] [])) _
    refine XS.aloadN X68.here hx rfl (hb hby d2_32) rfl rfl ?_
    show Steps p.tables e below (T68.setTop (mkF m 33 #[.val (.ref a1), .val (.ref a2), .val (.ref a3), .val (.int p4)] [(.ref a1)])) _
    refine XS.iloadN X68.here hx rfl (hb hby d2_33) rfl ?_
    show Steps p.tables e below (T68.setTop (mkF m 34 #[.val (.ref a1), .val (.ref a2), .val (.ref a3), .val (.int p4)] [(.int p4), (.ref a1)])) _
    refine st82 _ ?_
    exact kt
  obtain ⟨fs, hr, hrun, hended, hW, hsame⟩ := X82.leave (v := none) (fun _ => rfl)
  refine ⟨_, _, pre96 _ ?_, hrun, hended, _, _, rfl, ?_, ⟨_, rfl⟩, hW, hsame.mono (by decide) (by decide)⟩
  · show Steps p.tables e below (T82.setTop (mkF m 37 #[.val (.ref a1), .val (.ref a2), .val (.ref a3), .val (.int p4)] [])) _
    exact X82.returnOut hx Bd.returns (hb hby d2_37) hr
  · show Q2 Z a1 a2 a3 p4 h0 n0 _ T82.heap _
    rw [hE82]
    exact ⟨bt, rfl, N94, K95, sz_bt, f89, f83, f84, f85, f86, f92⟩
theorem d1_0 : decode prog_203_method_1_code 0 = .ok (.aload_n 0, 1) := by decide +kernel
theorem d1_1 : decode prog_203_method_1_code 1 = .ok (.bipush 16, 2) := by decide +kernel
theorem d1_3 : decode prog_203_method_1_code 3 = .ok (.newarray .long, 2) := by decide +kernel
theorem d1_5 : decode prog_203_method_1_code 5 = .ok (.bipush 16, 2) := by decide +kernel
theorem d1_7 : decode prog_203_method_1_code 7 = .ok (.newarray .long, 2) := by decide +kernel
theorem d1_9 : decode prog_203_method_1_code 9 = .ok (.iconst 0, 1) := by decide +kernel
theorem d1_10 : decode prog_203_method_1_code 10 = .ok (.invokespecial 1, 3) := by decide +kernel
theorem d1_13 : decode prog_203_method_1_code 13 = .ok (.return_, 1) := by decide +kernel
theorem pn_1 : plainName "com/example/quorumvote/quorumvote/simulation/SimulatedLog" = true := by first | (simp [plainName, overriddenIn]; done) | decide +kernel
theorem ef_1 (m : MethodId) (x0 : Addr) : entryFrame m #[(.ref x0)] 1 = mkF m 0 #[.val (.ref x0)] [] := by first | (simp [entryFrame, mkF, argsToLocals, Value.category]; done) | rfl
theorem pd_0 : parseMethodDescriptor "([J[JI)V" = some ⟨[(.array .long), (.array .long), .int], none⟩ := by decide +kernel
def Q1 (Z : State) (a1 : Addr) (h0 : Heap) (n0 : Nat) (v : Option Value) (h : Heap) (L : List Loc) : Prop := ∃ bz bw bt : Addr, v = none ∧ Fr n0 L ∧ Keep h0 h [a1] ∧ h0.size ≤ bz ∧ h0.size ≤ bw ∧ h0.size ≤ bt ∧ bz ≠ bw ∧ bz ≠ bt ∧ bw ≠ bt ∧ Exa Z h a1 "com/example/quorumvote/quorumvote/simulation/SimulatedLog" ∧ Fld Z h a1 "com/example/quorumvote/quorumvote/simulation/SimulatedLog" "zxids" "[J" (.ref bz) ∧ Fld Z h a1 "com/example/quorumvote/quorumvote/simulation/SimulatedLog" "writes" "[J" (.ref bw) ∧ Fld Z h a1 "com/example/quorumvote/quorumvote/simulation/SimulatedLog" "tags" "[J" (.ref bt) ∧ Fld Z h a1 "com/example/quorumvote/quorumvote/simulation/SimulatedLog" "size" "I" (.int (0 : Int32)) ∧ owAJ Z h bz .long 16 (fun _ => 0) ∧ owAJ Z h bw .long 16 (fun _ => 0) ∧ owAJ Z h bt .long 16 (fun _ => 0)
set_option maxRecDepth 65536 in
set_option maxHeartbeats 40000000 in
theorem rm1 (l : Launch) (Z : State) (a0 : Array Value) (hw : ∀ d ∈ tables_1, d.before a0 Z = true) (ws : List Jvm.Cond) (a1 : Addr) (h0 : Heap) (n0 : Nat) (Z0 : n0 ≤ h0.size) (E_a1 : Exa Z h0 a1 "com/example/quorumvote/quorumvote/simulation/SimulatedLog") (F_zxids : Fld Z h0 a1 "com/example/quorumvote/quorumvote/simulation/SimulatedLog" "zxids" "[J" .null) (F_writes : Fld Z h0 a1 "com/example/quorumvote/quorumvote/simulation/SimulatedLog" "writes" "[J" .null) (F_tags : Fld Z h0 a1 "com/example/quorumvote/quorumvote/simulation/SimulatedLog" "tags" "[J" .null) (F_size : Fld Z h0 a1 "com/example/quorumvote/quorumvote/simulation/SimulatedLog" "size" "I" (.int (0 : Int32))) (F_onDisk : Fld Z h0 a1 "com/example/quorumvote/quorumvote/simulation/SimulatedLog" "onDisk" "I" (.int (0 : Int32))) (F_applied : Fld Z h0 a1 "com/example/quorumvote/quorumvote/simulation/SimulatedLog" "applied" "I" (.int (0 : Int32))) (g_a1 : n0 ≤ a1) :
    MetFree l (⟨"com/example/quorumvote/quorumvote/simulation/SimulatedLog", "<init>", "()V"⟩ : MethodName) (head1 (Jvm.Cond.code (⟨"com/example/quorumvote/quorumvote/simulation/SimulatedLog", "<init>", "()V"⟩ : MethodName) prog_203_method_1_code 1 none :: ws) ({ frames := 2, cells := 3, slots := 48, locals := 27 } : Room)) (fun a U => a = #[(.ref a1)] ∧ Z.Warmed39 U.vm ∧ U.heap = h0) (fun _ _ _ _ _ => True) (fun _ U o U' => ∃ v L, o = .returned v ∧ Q1 Z a1 h0 n0 v U'.heap L ∧ FrameEnd U o U' L ({ frames := 2, cells := 3, slots := 48, locals := 27 } : Room).cells ({ frames := 2, cells := 3, slots := 48, locals := 27 } : Room).slots) := by
  refine MetFree.of_bodySF (plainFor_of_name pn_1) hisR ?_
  intro p e s m args below meth c s₁ Bd hml0 hP hK
  obtain ⟨rfl, hZ, hh⟩ := hP
  have hx := Bd.exec
  have hby := Bd.bytes
  have hml : c.maxLocals = 1 := hml0
  have hown : s.vm.findClass "com/example/quorumvote/quorumvote/simulation/SimulatedLog" = some m.cls := findClass_of_methodNamed Bd.named
  have hnm := (name_of_methodNamed Bd.named Bd.method).1
  have X0 : Stand p l e ({ frames := 2, cells := 3, slots := 48, locals := 27 } : Room) s m #[(.ref a1)] below meth c s₁ [] 0 0 := Stand.of_body Bd
  have e0 : s₁.heap = h0 := by rw [← hh, Bd.state]; rfl
  have N0 := Fr.nil n0
  have pre0 : ∀ t, Steps p.tables e below (s₁.setTop (mkF m 0 #[.val (.ref a1)] [])) t → Steps p.tables e below (s₁.setTop (entryFrame m #[(.ref a1)] 1)) t := fun t k => castTop (ef_1 m a1) k
  obtain ⟨T1, gh1, k1, X1, hE1, E1, A1, st1⟩ := newP X0 hx hZ (hw _ (List.mem_of_getElem? (i := 9) rfl)) e0 (g := (mkF m 3 #[.val (.ref a1)] [(.int (16 : Int32)), (.ref a1)])) rfl (hb hby d1_3) rfl (by decide) (cap := 16) (by decide) (by decide) (by decide) (by decide)
  obtain ⟨bz, g1⟩ : ∃ z, z = h0.size := ⟨_, rfl⟩
  rw [← g1] at A1 st1
  have ne_a1_bz : a1 ≠ bz := Nat.ne_of_lt (Nat.lt_of_lt_of_le F_zxids.lt (Nat.le_of_eq g1.symm))
  have g_bz : n0 ≤ bz := Nat.le_trans Z0 (Nat.le_of_eq g1.symm)
  have sz_bz : h0.size ≤ bz := Nat.le_trans (Keep.refl h0 [a1]).1 (Nat.le_of_eq g1.symm)
  have f2 := F_zxids.ext E1
  have f3 := F_writes.ext E1
  have f4 := F_tags.ext E1
  have f5 := F_size.ext E1
  have f6 := F_onDisk.ext E1
  have f7 := F_applied.ext E1
  have f8 := E_a1.ext E1
  have Z9 := Nat.le_trans Z0 E1.1
  have K10 := (Keep.refl h0 [a1]).ext E1
  have V1 : owAJ Z gh1 bz .long 16 (fun _ => 0) := owAJ.new A1 rfl rfl
  obtain ⟨T11, gh11, k11, X11, hE11, E11, A11, st11⟩ := newP X1 hx hZ (hw _ (List.mem_of_getElem? (i := 9) rfl)) hE1 (g := (mkF m 7 #[.val (.ref a1)] [(.int (16 : Int32)), (.ref bz), (.ref a1)])) rfl (hb hby d1_7) rfl (by decide) (cap := 16) (by decide) (by decide) (by decide) (by decide)
  obtain ⟨bw, g11⟩ : ∃ z, z = gh1.size := ⟨_, rfl⟩
  rw [← g11] at A11 st11
  have ne_a1_bw : a1 ≠ bw := Nat.ne_of_lt (Nat.lt_of_lt_of_le f2.lt (Nat.le_of_eq g11.symm))
  have ne_bz_bw : bz ≠ bw := Nat.ne_of_lt (Nat.lt_of_lt_of_le V1.lt (Nat.le_of_eq g11.symm))
  have g_bw : n0 ≤ bw := Nat.le_trans Z9 (Nat.le_of_eq g11.symm)
  have sz_bw : h0.size ≤ bw := Nat.le_trans K10.1 (Nat.le_of_eq g11.symm)
  have f12 := f2.ext E11
  have f13 := f3.ext E11
  have f14 := f4.ext E11
  have f15 := f5.ext E11
  have f16 := f6.ext E11
  have f17 := f7.ext E11
  have f18 := f8.ext E11
  have f19 := V1.ext E11
  have Z20 := Nat.le_trans Z9 E11.1
  have K21 := K10.ext E11
  have V11 : owAJ Z gh11 bw .long 16 (fun _ => 0) := owAJ.new A11 rfl rfl
  obtain ⟨_, _, ⟨T22, L22, k22, n22⟩, -, X22, ⟨Lc22, hQ22, l22, y22, z22⟩, st22⟩ := X11.specialBack hx (y := (⟨"com/example/quorumvote/quorumvote/simulation/SimulatedLog", "<init>", "([J[JI)V"⟩ : MethodName)) rfl hown (mvT hZ (hw _ (List.mem_of_getElem? (i := 10) rfl))) (mvT hZ (hw _ (List.mem_of_getElem? (i := 11) rfl))) (mvT hZ (hw _ (List.mem_of_getElem? (i := 12) rfl))) (by decide) (backOf (W := 0) (rm2 l Z a0 hw [] a1 bz bw (0 : Int32) gh11 n0 Z20 f18 f12 f13 f14 f15 f16 f17 f19 V11 g_a1 ne_a1_bz ne_a1_bw) hZ (hw _ (List.mem_of_getElem? (i := 12) rfl)) (hw _ (List.mem_of_getElem? (i := 5) rfl)) (by decide) (by decide)) (g := (mkF m 10 #[.val (.ref a1)] [(.int (0 : Int32)), (.ref bw), (.ref bz), (.ref a1)])) rfl (by rw [hml]; rfl) (Steps.refl _) (a := a1) (argsL := [(.ref bz), (.ref bw), (.int (0 : Int32))]) (rest := []) (lenOf pd_0 rfl) rfl (by show 2 * 0 + _ ≤ _; exact Nat.le_of_eq rfl) (hb hby d1_10) (fun _ _ => ⟨rfl, hE11, (by decide : 2 + 1 ≤ _), (by decide : 32 + 16 ≤ _)⟩)
  dsimp only [Pt.U, Pt.locs, Pt.cells, Pt.slots] at X22 l22 y22 z22 st22 hQ22
  subst l22 y22 z22
  obtain ⟨bt, rfl, N22q, K22, h_bt, p22_E, p22_z, p22_w, p22_t, p22_s, p22_A⟩ := hQ22
  have N22 := Fr.app N0 N22q
  have ne_a1_bt : a1 ≠ bt := Nat.ne_of_lt (Nat.lt_of_lt_of_le f12.lt h_bt)
  have ne_bz_bt : bz ≠ bt := Nat.ne_of_lt (Nat.lt_of_lt_of_le f19.lt h_bt)
  have ne_bw_bt : bw ≠ bt := Nat.ne_of_lt (Nat.lt_of_lt_of_le V11.lt h_bt)
  have g_bt : n0 ≤ bt := Nat.le_trans Z20 h_bt
  have sz_bt : h0.size ≤ bt := Nat.le_trans K21.1 h_bt
  have f29 := f18.keep K22
  have f30 := f19.keep K22 (ninS (Ne.symm ne_a1_bz) nin0)
  have f31 := V11.keep K22 (ninS (Ne.symm ne_a1_bw) nin0)
  have Z32 := Nat.le_trans Z20 K22.1
  have K33 := K21.trans K22 (allS (Or.inl (List.mem_of_getElem? (i := 0) rfl)) all0)
  have pre34 : ∀ t, Steps p.tables e below (T22.setTop (mkF m 13 #[.val (.ref a1)] [])) t → Steps p.tables e below (s₁.setTop (entryFrame m #[(.ref a1)] 1)) t := by
    intro t kt
    refine pre0 _ ?_
    show Steps p.tables e below (s₁.setTop (mkF m 0 #[.val (.ref a1)] [])) _
    refine XS.aloadN X0.here hx rfl (hb hby d1_0) rfl rfl ?_
    show Steps p.tables e below (s₁.setTop (mkF m 1 #[.val (.ref a1)] [(.ref a1)])) _
    refine XS.bipush X0.here hx rfl (hb hby d1_1) ?_
    show Steps p.tables e below (s₁.setTop (mkF m 3 #[.val (.ref a1)] [(.int (16 : Int32)), (.ref a1)])) _
    refine st1 _ ?_
    show Steps p.tables e below (T1.setTop (mkF m 5 #[.val (.ref a1)] [(.ref bz), (.ref a1)])) _
    refine XS.bipush X1.here hx rfl (hb hby d1_5) ?_
    show Steps p.tables e below (T1.setTop (mkF m 7 #[.val (.ref a1)] [(.int (16 : Int32)), (.ref bz), (.ref a1)])) _
    refine st11 _ ?_
    show Steps p.tables e below (T11.setTop (mkF m 9 #[.val (.ref a1)] [(.ref bw), (.ref bz), (.ref a1)])) _
    refine XS.iconst X11.here hx rfl (hb hby d1_9) ?_
    show Steps p.tables e below (T11.setTop (mkF m 10 #[.val (.ref a1)] [(.int (0 : Int32)), (.ref bw), (.ref bz), (.ref a1)])) _
    refine st22.trans ?_
    exact kt
  obtain ⟨fs, hr, hrun, hended, hW, hsame⟩ := X22.leave (v := none) (fun _ => rfl)
  refine ⟨_, _, pre34 _ ?_, hrun, hended, _, _, rfl, ?_, ⟨_, rfl⟩, hW, hsame.mono (by decide) (by decide)⟩
  · show Steps p.tables e below (T22.setTop (mkF m 13 #[.val (.ref a1)] [])) _
    exact X22.returnOut hx Bd.returns (hb hby d1_13) hr
  · show Q1 Z a1 h0 n0 _ T22.heap _
    exact ⟨bz, bw, bt, rfl, N22, K33, sz_bz, sz_bw, sz_bt, ne_bz_bw, ne_bz_bt, ne_bw_bt, p22_E, p22_z, p22_w, p22_t, p22_s, f30, f31, p22_A⟩
theorem d6_0 : decode prog_203_method_19_code 0 = .ok (.aload_n 0, 1) := by decide +kernel
theorem d6_1 : decode prog_203_method_19_code 1 = .ok (.getfield 22, 3) := by decide +kernel
theorem d6_4 : decode prog_203_method_19_code 4 = .ok (.aload_n 0, 1) := by decide +kernel
theorem d6_5 : decode prog_203_method_19_code 5 = .ok (.getfield 12, 3) := by decide +kernel
theorem d6_8 : decode prog_203_method_19_code 8 = .ok (.arraylength, 1) := by decide +kernel
theorem d6_9 : decode prog_203_method_19_code 9 = .ok (.if_icmp .ne 54, 3) := by decide +kernel
theorem d6_12 : decode prog_203_method_19_code 12 = .ok (.aload_n 0, 1) := by decide +kernel
theorem d6_13 : decode prog_203_method_19_code 13 = .ok (.aload_n 0, 1) := by decide +kernel
theorem d6_14 : decode prog_203_method_19_code 14 = .ok (.getfield 12, 3) := by decide +kernel
theorem d6_17 : decode prog_203_method_19_code 17 = .ok (.aload_n 0, 1) := by decide +kernel
theorem d6_18 : decode prog_203_method_19_code 18 = .ok (.getfield 22, 3) := by decide +kernel
theorem d6_21 : decode prog_203_method_19_code 21 = .ok (.iconst 2, 1) := by decide +kernel
theorem d6_22 : decode prog_203_method_19_code 22 = .ok (.imul, 1) := by decide +kernel
theorem d6_23 : decode prog_203_method_19_code 23 = .ok (.invokestatic 32, 3) := by decide +kernel
theorem d6_26 : decode prog_203_method_19_code 26 = .ok (.putfield 12, 3) := by decide +kernel
theorem d6_29 : decode prog_203_method_19_code 29 = .ok (.aload_n 0, 1) := by decide +kernel
theorem d6_30 : decode prog_203_method_19_code 30 = .ok (.aload_n 0, 1) := by decide +kernel
theorem d6_31 : decode prog_203_method_19_code 31 = .ok (.getfield 16, 3) := by decide +kernel
theorem d6_34 : decode prog_203_method_19_code 34 = .ok (.aload_n 0, 1) := by decide +kernel
theorem d6_35 : decode prog_203_method_19_code 35 = .ok (.getfield 22, 3) := by decide +kernel
theorem d6_38 : decode prog_203_method_19_code 38 = .ok (.iconst 2, 1) := by decide +kernel
theorem d6_39 : decode prog_203_method_19_code 39 = .ok (.imul, 1) := by decide +kernel
theorem d6_40 : decode prog_203_method_19_code 40 = .ok (.invokestatic 32, 3) := by decide +kernel
theorem d6_43 : decode prog_203_method_19_code 43 = .ok (.putfield 16, 3) := by decide +kernel
theorem d6_46 : decode prog_203_method_19_code 46 = .ok (.aload_n 0, 1) := by decide +kernel
theorem d6_47 : decode prog_203_method_19_code 47 = .ok (.aload_n 0, 1) := by decide +kernel
theorem d6_48 : decode prog_203_method_19_code 48 = .ok (.getfield 19, 3) := by decide +kernel
theorem d6_51 : decode prog_203_method_19_code 51 = .ok (.aload_n 0, 1) := by decide +kernel
theorem d6_52 : decode prog_203_method_19_code 52 = .ok (.getfield 22, 3) := by decide +kernel
theorem d6_55 : decode prog_203_method_19_code 55 = .ok (.iconst 2, 1) := by decide +kernel
theorem d6_56 : decode prog_203_method_19_code 56 = .ok (.imul, 1) := by decide +kernel
theorem d6_57 : decode prog_203_method_19_code 57 = .ok (.invokestatic 32, 3) := by decide +kernel
theorem d6_60 : decode prog_203_method_19_code 60 = .ok (.putfield 19, 3) := by decide +kernel
theorem d6_63 : decode prog_203_method_19_code 63 = .ok (.aload_n 0, 1) := by decide +kernel
theorem d6_64 : decode prog_203_method_19_code 64 = .ok (.getfield 12, 3) := by decide +kernel
theorem d6_67 : decode prog_203_method_19_code 67 = .ok (.aload_n 0, 1) := by decide +kernel
theorem d6_68 : decode prog_203_method_19_code 68 = .ok (.getfield 22, 3) := by decide +kernel
theorem d6_71 : decode prog_203_method_19_code 71 = .ok (.lload_n 1, 1) := by decide +kernel
theorem d6_72 : decode prog_203_method_19_code 72 = .ok (.lastore, 1) := by decide +kernel
theorem d6_73 : decode prog_203_method_19_code 73 = .ok (.aload_n 0, 1) := by decide +kernel
theorem d6_74 : decode prog_203_method_19_code 74 = .ok (.getfield 16, 3) := by decide +kernel
theorem d6_77 : decode prog_203_method_19_code 77 = .ok (.aload_n 0, 1) := by decide +kernel
theorem d6_78 : decode prog_203_method_19_code 78 = .ok (.getfield 22, 3) := by decide +kernel
theorem d6_81 : decode prog_203_method_19_code 81 = .ok (.lload_n 3, 1) := by decide +kernel
theorem d6_82 : decode prog_203_method_19_code 82 = .ok (.lastore, 1) := by decide +kernel
theorem d6_83 : decode prog_203_method_19_code 83 = .ok (.aload_n 0, 1) := by decide +kernel
theorem d6_84 : decode prog_203_method_19_code 84 = .ok (.getfield 19, 3) := by decide +kernel
theorem d6_87 : decode prog_203_method_19_code 87 = .ok (.aload_n 0, 1) := by decide +kernel
theorem d6_88 : decode prog_203_method_19_code 88 = .ok (.getfield 22, 3) := by decide +kernel
theorem d6_91 : decode prog_203_method_19_code 91 = .ok (.lload 5, 2) := by decide +kernel
theorem d6_93 : decode prog_203_method_19_code 93 = .ok (.lastore, 1) := by decide +kernel
theorem d6_94 : decode prog_203_method_19_code 94 = .ok (.aload_n 0, 1) := by decide +kernel
theorem d6_95 : decode prog_203_method_19_code 95 = .ok (.dup, 1) := by decide +kernel
theorem d6_96 : decode prog_203_method_19_code 96 = .ok (.getfield 22, 3) := by decide +kernel
theorem d6_99 : decode prog_203_method_19_code 99 = .ok (.iconst 1, 1) := by decide +kernel
theorem d6_100 : decode prog_203_method_19_code 100 = .ok (.iadd, 1) := by decide +kernel
theorem d6_101 : decode prog_203_method_19_code 101 = .ok (.putfield 22, 3) := by decide +kernel
theorem d6_104 : decode prog_203_method_19_code 104 = .ok (.return_, 1) := by decide +kernel
theorem pn_6 : plainName "com/example/quorumvote/quorumvote/simulation/SimulatedLog" = true := by first | (simp [plainName, overriddenIn]; done) | decide +kernel
theorem ef_6 (m : MethodId) (x0 : Addr) (x1 : Int64) (x2 : Int64) (x3 : Int64) : entryFrame m #[(.ref x0), (.long x1), (.long x2), (.long x3)] 7 = mkF m 0 #[.val (.ref x0), .val (.long x1), .second, .val (.long x2), .second, .val (.long x3), .second] [] := by first | (simp [entryFrame, mkF, argsToLocals, Value.category]; done) | rfl
def Q6 (Z : State) (a1 : Addr) (q2 : Int64) (q3 : Int64) (q4 : Int64) (az aw at_ : Addr) (ps : Int32) (fz fw ft : Nat → Int64) (ks : Nat) (h0 : Heap) (n0 : Nat) (v : Option Value) (h : Heap) (L : List Loc) : Prop := v = none ∧ Fr n0 L ∧ Keep h0 h [a1, az, aw, at_] ∧ Exa Z h a1 "com/example/quorumvote/quorumvote/simulation/SimulatedLog" ∧ Fld Z h a1 "com/example/quorumvote/quorumvote/simulation/SimulatedLog" "zxids" "[J" (.ref az) ∧ Fld Z h a1 "com/example/quorumvote/quorumvote/simulation/SimulatedLog" "writes" "[J" (.ref aw) ∧ Fld Z h a1 "com/example/quorumvote/quorumvote/simulation/SimulatedLog" "tags" "[J" (.ref at_) ∧ Fld Z h a1 "com/example/quorumvote/quorumvote/simulation/SimulatedLog" "size" "I" (.int (ps + (1 : Int32))) ∧ owAJ Z h az .long 16 (owUp fz ks q2) ∧ owAJ Z h aw .long 16 (owUp fw ks q3) ∧ owAJ Z h at_ .long 16 (owUp ft ks q4)
set_option maxRecDepth 65536 in
set_option maxHeartbeats 40000000 in
theorem rm6 (l : Launch) (Z : State) (a0 : Array Value) (hw : ∀ d ∈ tables_1, d.before a0 Z = true) (ws : List Jvm.Cond) (a1 : Addr) (q2 : Int64) (q3 : Int64) (q4 : Int64) (az aw at_ : Addr) (ps : Int32) (fz fw ft : Nat → Int64) (ks : Nat) (h0 : Heap) (n0 : Nat) (Z0 : n0 ≤ h0.size) (E_a1 : Exa Z h0 a1 "com/example/quorumvote/quorumvote/simulation/SimulatedLog") (F_zxids : Fld Z h0 a1 "com/example/quorumvote/quorumvote/simulation/SimulatedLog" "zxids" "[J" (.ref az)) (F_writes : Fld Z h0 a1 "com/example/quorumvote/quorumvote/simulation/SimulatedLog" "writes" "[J" (.ref aw)) (F_tags : Fld Z h0 a1 "com/example/quorumvote/quorumvote/simulation/SimulatedLog" "tags" "[J" (.ref at_)) (F_size : Fld Z h0 a1 "com/example/quorumvote/quorumvote/simulation/SimulatedLog" "size" "I" (.int ps)) (A_az : owAJ Z h0 az .long 16 fz) (A_aw : owAJ Z h0 aw .long 16 fw) (A_at_ : owAJ Z h0 at_ .long 16 ft) (hsz : ps.toInt = (ks : Int)) (hks : ks < 16) (g_a1 : n0 ≤ a1) (g_az : n0 ≤ az) (g_aw : n0 ≤ aw) (g_at_ : n0 ≤ at_) (n_a1_az : a1 ≠ az) (n_a1_aw : a1 ≠ aw) (n_a1_at_ : a1 ≠ at_) (n_az_aw : az ≠ aw) (n_az_at_ : az ≠ at_) (n_aw_at_ : aw ≠ at_) :
    MetFree l (⟨"com/example/quorumvote/quorumvote/simulation/SimulatedLog", "append", "(JJJ)V"⟩ : MethodName) (head1 (Jvm.Cond.code (⟨"com/example/quorumvote/quorumvote/simulation/SimulatedLog", "append", "(JJJ)V"⟩ : MethodName) prog_203_method_19_code 7 none :: ws) ({ frames := 0, cells := 0, slots := 0, locals := 0 } : Room)) (fun a U => a = #[(.ref a1), (.long q2), (.long q3), (.long q4)] ∧ Z.Warmed39 U.vm ∧ U.heap = h0) (fun _ _ _ _ _ => True) (fun _ U o U' => ∃ v L, o = .returned v ∧ Q6 Z a1 q2 q3 q4 az aw at_ ps fz fw ft ks h0 n0 v U'.heap L ∧ FrameEnd U o U' L ({ frames := 0, cells := 0, slots := 0, locals := 0 } : Room).cells ({ frames := 0, cells := 0, slots := 0, locals := 0 } : Room).slots) := by
  refine MetFree.of_bodySF (plainFor_of_name pn_6) hisR ?_
  intro p e s m args below meth c s₁ Bd hml0 hP hK
  obtain ⟨rfl, hZ, hh⟩ := hP
  have hx := Bd.exec
  have hby := Bd.bytes
  have hml : c.maxLocals = 7 := hml0
  have hown : s.vm.findClass "com/example/quorumvote/quorumvote/simulation/SimulatedLog" = some m.cls := findClass_of_methodNamed Bd.named
  have hnm := (name_of_methodNamed Bd.named Bd.method).1
  have X0 : Stand p l e ({ frames := 0, cells := 0, slots := 0, locals := 0 } : Room) s m #[(.ref a1), (.long q2), (.long q3), (.long q4)] below meth c s₁ [] 0 0 := Stand.of_body Bd
  have e0 : s₁.heap = h0 := by rw [← hh, Bd.state]; rfl
  have N0 := Fr.nil n0
  have pre0 : ∀ t, Steps p.tables e below (s₁.setTop (mkF m 0 #[.val (.ref a1), .val (.long q2), .second, .val (.long q3), .second, .val (.long q4), .second] [])) t → Steps p.tables e below (s₁.setTop (entryFrame m #[(.ref a1), (.long q2), (.long q3), (.long q4)] 7)) t := fun t k => castTop (ef_6 m a1 q2 q3 q4) k
  obtain ⟨T1, X1, hE1, st1⟩ := getF X0 hx hZ hown (host := "") (Or.inl (hw _ (List.mem_of_getElem? (i := 22) rfl))) Via.refl e0 F_size (g := (mkF m 1 #[.val (.ref a1), .val (.long q2), .second, .val (.long q3), .second, .val (.long q4), .second] [(.ref a1)])) rfl rfl (hb hby d6_1)
  obtain ⟨T2, X2, hE2, st2⟩ := getF X1 hx hZ hown (host := "") (Or.inl (hw _ (List.mem_of_getElem? (i := 16) rfl))) Via.refl hE1 F_zxids (g := (mkF m 5 #[.val (.ref a1), .val (.long q2), .second, .val (.long q3), .second, .val (.long q4), .second] [(.ref a1), (.int ps)])) rfl rfl (hb hby d6_5)
  obtain ⟨T3, X3, hE3, st3⟩ := getF X2 hx hZ hown (host := "") (Or.inl (hw _ (List.mem_of_getElem? (i := 16) rfl))) Via.refl hE2 F_zxids (g := (mkF m 64 #[.val (.ref a1), .val (.long q2), .second, .val (.long q3), .second, .val (.long q4), .second] [(.ref a1)])) rfl rfl (hb hby d6_64)
  obtain ⟨T4, X4, hE4, st4⟩ := getF X3 hx hZ hown (host := "") (Or.inl (hw _ (List.mem_of_getElem? (i := 22) rfl))) Via.refl hE3 F_size (g := (mkF m 68 #[.val (.ref a1), .val (.long q2), .second, .val (.long q3), .second, .val (.long q4), .second] [(.ref a1), (.ref az)])) rfl rfl (hb hby d6_68)
  obtain ⟨T5, gh5, X5, hE5, W5, V5, st5⟩ := owStJ X4 hx hZ hE4 A_az (k := ks) (j := ps) hsz (by omega) (g := (mkF m 72 #[.val (.ref a1), .val (.long q2), .second, .val (.long q3), .second, .val (.long q4), .second] [(.long q2), (.int ps), (.ref az)])) rfl rfl (hb hby d6_72)
  have f6 := E_a1.wr W5
  have f7 := F_size.other W5 (Or.inl n_a1_az)
  have f8 := F_zxids.other W5 (Or.inl n_a1_az)
  have f9 := F_writes.other W5 (Or.inl n_a1_az)
  have f10 := F_tags.other W5 (Or.inl n_a1_az)
  have f12 := A_aw.other W5 (Ne.symm n_az_aw)
  have f13 := A_at_.other W5 (Ne.symm n_az_at_)
  have Z14 := Nat.le_trans Z0 (Keep.of_wr W5).1
  have N15 := Fr.snoc X5 N0 g_az
  have K16 := (Keep.refl h0 [a1, az, aw, at_]).wr W5 (Or.inl (List.mem_of_getElem? (i := 1) rfl))
  obtain ⟨T17, X17, hE17, st17⟩ := getF X5 hx hZ hown (host := "") (Or.inl (hw _ (List.mem_of_getElem? (i := 18) rfl))) Via.refl hE5 f9 (g := (mkF m 74 #[.val (.ref a1), .val (.long q2), .second, .val (.long q3), .second, .val (.long q4), .second] [(.ref a1)])) rfl rfl (hb hby d6_74)
  obtain ⟨T18, X18, hE18, st18⟩ := getF X17 hx hZ hown (host := "") (Or.inl (hw _ (List.mem_of_getElem? (i := 22) rfl))) Via.refl hE17 f7 (g := (mkF m 78 #[.val (.ref a1), .val (.long q2), .second, .val (.long q3), .second, .val (.long q4), .second] [(.ref a1), (.ref aw)])) rfl rfl (hb hby d6_78)
  obtain ⟨T19, gh19, X19, hE19, W19, V19, st19⟩ := owStJ X18 hx hZ hE18 f12 (k := ks) (j := ps) hsz (by omega) (g := (mkF m 82 #[.val (.ref a1), .val (.long q2), .second, .val (.long q3), .second, .val (.long q4), .second] [(.long q3), (.int ps), (.ref aw)])) rfl rfl (hb hby d6_82)
  have f20 := f6.wr W19
  have f21 := f7.other W19 (Or.inl n_a1_aw)
  have f22 := f8.other W19 (Or.inl n_a1_aw)
  have f23 := f9.other W19 (Or.inl n_a1_aw)
  have f24 := f10.other W19 (Or.inl n_a1_aw)
  have f25 := V5.other W19 n_az_aw
  have f27 := f13.other W19 (Ne.symm n_aw_at_)
  have Z28 := Nat.le_trans Z14 (Keep.of_wr W19).1
  have N29 := Fr.snoc X19 N15 g_aw
  have K30 := K16.wr W19 (Or.inl (List.mem_of_getElem? (i := 2) rfl))
  obtain ⟨T31, X31, hE31, st31⟩ := getF X19 hx hZ hown (host := "") (Or.inl (hw _ (List.mem_of_getElem? (i := 20) rfl))) Via.refl hE19 f24 (g := (mkF m 84 #[.val (.ref a1), .val (.long q2), .second, .val (.long q3), .second, .val (.long q4), .second] [(.ref a1)])) rfl rfl (hb hby d6_84)
  obtain ⟨T32, X32, hE32, st32⟩ := getF X31 hx hZ hown (host := "") (Or.inl (hw _ (List.mem_of_getElem? (i := 22) rfl))) Via.refl hE31 f21 (g := (mkF m 88 #[.val (.ref a1), .val (.long q2), .second, .val (.long q3), .second, .val (.long q4), .second] [(.ref a1), (.ref at_)])) rfl rfl (hb hby d6_88)
  obtain ⟨T33, gh33, X33, hE33, W33, V33, st33⟩ := owStJ X32 hx hZ hE32 f27 (k := ks) (j := ps) hsz (by omega) (g := (mkF m 93 #[.val (.ref a1), .val (.long q2), .second, .val (.long q3), .second, .val (.long q4), .second] [(.long q4), (.int ps), (.ref at_)])) rfl rfl (hb hby d6_93)
  have f34 := f20.wr W33
  have f35 := f21.other W33 (Or.inl n_a1_at_)
  have f36 := f22.other W33 (Or.inl n_a1_at_)
  have f37 := f23.other W33 (Or.inl n_a1_at_)
  have f38 := f24.other W33 (Or.inl n_a1_at_)
  have f39 := f25.other W33 n_az_at_
  have f40 := V19.other W33 n_aw_at_
  have Z42 := Nat.le_trans Z28 (Keep.of_wr W33).1
  have N43 := Fr.snoc X33 N29 g_at_
  have K44 := K30.wr W33 (Or.inl (List.mem_of_getElem? (i := 3) rfl))
  obtain ⟨T45, X45, hE45, st45⟩ := getF X33 hx hZ hown (host := "") (Or.inl (hw _ (List.mem_of_getElem? (i := 22) rfl))) Via.refl hE33 f35 (g := (mkF m 96 #[.val (.ref a1), .val (.long q2), .second, .val (.long q3), .second, .val (.long q4), .second] [(.ref a1), (.ref a1)])) rfl rfl (hb hby d6_96)
  obtain ⟨T46, gh46, X46, hE46, W46, st46⟩ := putF X45 hx hZ hown (host := "") (Or.inl (hw _ (List.mem_of_getElem? (i := 22) rfl))) Via.refl hE45 f35 f34 (Or.inl (hw _ (List.mem_of_getElem? (i := 23) rfl))) (hw _ (List.mem_of_getElem? (i := 4) rfl)) (ty := .int) (by decide) rfl rfl (g := (mkF m 101 #[.val (.ref a1), .val (.long q2), .second, .val (.long q3), .second, .val (.long q4), .second] [(.int (ps + (1 : Int32))), (.ref a1)])) rfl rfl (hb hby d6_101)
  have Fw46 := f35.same W46
  have f47 := f34.wr W46
  have f49 := f36.other W46 (Or.inr (slot_ne (Or.inl (hw _ (List.mem_of_getElem? (i := 17) rfl))) (Or.inl (hw _ (List.mem_of_getElem? (i := 23) rfl))) (by decide) (t := (.array .long)) (t' := .int) (by decide) (by decide)))
  have f50 := f37.other W46 (Or.inr (slot_ne (Or.inl (hw _ (List.mem_of_getElem? (i := 19) rfl))) (Or.inl (hw _ (List.mem_of_getElem? (i := 23) rfl))) (by decide) (t := (.array .long)) (t' := .int) (by decide) (by decide)))
  have f51 := f38.other W46 (Or.inr (slot_ne (Or.inl (hw _ (List.mem_of_getElem? (i := 21) rfl))) (Or.inl (hw _ (List.mem_of_getElem? (i := 23) rfl))) (by decide) (t := (.array .long)) (t' := .int) (by decide) (by decide)))
  have f52 := f39.other W46 (Ne.symm n_a1_az)
  have f53 := f40.other W46 (Ne.symm n_a1_aw)
  have f54 := V33.other W46 (Ne.symm n_a1_at_)
  have Z55 := Nat.le_trans Z42 (Keep.of_wr W46).1
  have N56 := Fr.snoc X46 N43 g_a1
  have K57 := K44.wr W46 (Or.inl (List.mem_of_getElem? (i := 0) rfl))
  have pre58 : ∀ t, Steps p.tables e below (T46.setTop (mkF m 104 #[.val (.ref a1), .val (.long q2), .second, .val (.long q3), .second, .val (.long q4), .second] [])) t → Steps p.tables e below (s₁.setTop (entryFrame m #[(.ref a1), (.long q2), (.long q3), (.long q4)] 7)) t := by
    intro t kt
    refine pre0 _ ?_
    show Steps p.tables e below (s₁.setTop (mkF m 0 #[.val (.ref a1), .val (.long q2), .second, .val (.long q3), .second, .val (.long q4), .second] [])) _
    refine XS.aloadN X0.here hx rfl (hb hby d6_0) rfl rfl ?_
    show Steps p.tables e below (s₁.setTop (mkF m 1 #[.val (.ref a1), .val (.long q2), .second, .val (.long q3), .second, .val (.long q4), .second] [(.ref a1)])) _
    refine st1 _ ?_
    show Steps p.tables e below (T1.setTop (mkF m 4 #[.val (.ref a1), .val (.long q2), .second, .val (.long q3), .second, .val (.long q4), .second] [(.int ps)])) _
    refine XS.aloadN X1.here hx rfl (hb hby d6_4) rfl rfl ?_
    show Steps p.tables e below (T1.setTop (mkF m 5 #[.val (.ref a1), .val (.long q2), .second, .val (.long q3), .second, .val (.long q4), .second] [(.ref a1), (.int ps)])) _
    refine st2 _ ?_
    show Steps p.tables e below (T2.setTop (mkF m 8 #[.val (.ref a1), .val (.long q2), .second, .val (.long q3), .second, .val (.long q4), .second] [(.ref az), (.int ps)])) _
    refine owLenJ X2 hx hZ hE2 A_az (z := (16 : Int32)) rfl (g := (mkF m 8 #[.val (.ref a1), .val (.long q2), .second, .val (.long q3), .second, .val (.long q4), .second] [(.ref az), (.int ps)])) rfl rfl (hb hby d6_8) _ ?_
    show Steps p.tables e below (T2.setTop (mkF m 9 #[.val (.ref a1), .val (.long q2), .second, .val (.long q3), .second, .val (.long q4), .second] [(.int (16 : Int32)), (.int ps)])) _
    refine XS.icmpYes X2.here hx rfl (pc0 := 9) (pc' := 63) rfl (hb hby d6_9) rfl (XT.ii_ne_t (own_n16 hsz hks)) (by decide) (by decide) ?_
    show Steps p.tables e below (T2.setTop (mkF m 63 #[.val (.ref a1), .val (.long q2), .second, .val (.long q3), .second, .val (.long q4), .second] [])) _
    refine XS.aloadN X2.here hx rfl (hb hby d6_63) rfl rfl ?_
    show Steps p.tables e below (T2.setTop (mkF m 64 #[.val (.ref a1), .val (.long q2), .second, .val (.long q3), .second, .val (.long q4), .second] [(.ref a1)])) _
    refine st3 _ ?_
    show Steps p.tables e below (T3.setTop (mkF m 67 #[.val (.ref a1), .val (.long q2), .second, .val (.long q3), .second, .val (.long q4), .second] [(.ref az)])) _
    refine XS.aloadN X3.here hx rfl (hb hby d6_67) rfl rfl ?_
    show Steps p.tables e below (T3.setTop (mkF m 68 #[.val (.ref a1), .val (.long q2), .second, .val (.long q3), .second, .val (.long q4), .second] [(.ref a1), (.ref az)])) _
    refine st4 _ ?_
    show Steps p.tables e below (T4.setTop (mkF m 71 #[.val (.ref a1), .val (.long q2), .second, .val (.long q3), .second, .val (.long q4), .second] [(.int ps), (.ref az)])) _
    refine XS.lloadN X4.here hx rfl (hb hby d6_71) rfl ?_
    show Steps p.tables e below (T4.setTop (mkF m 72 #[.val (.ref a1), .val (.long q2), .second, .val (.long q3), .second, .val (.long q4), .second] [(.long q2), (.int ps), (.ref az)])) _
    refine st5 _ ?_
    show Steps p.tables e below (T5.setTop (mkF m 73 #[.val (.ref a1), .val (.long q2), .second, .val (.long q3), .second, .val (.long q4), .second] [])) _
    refine XS.aloadN X5.here hx rfl (hb hby d6_73) rfl rfl ?_
    show Steps p.tables e below (T5.setTop (mkF m 74 #[.val (.ref a1), .val (.long q2), .second, .val (.long q3), .second, .val (.long q4), .second] [(.ref a1)])) _
    refine st17 _ ?_
    show Steps p.tables e below (T17.setTop (mkF m 77 #[.val (.ref a1), .val (.long q2), .second, .val (.long q3), .second, .val (.long q4), .second] [(.ref aw)])) _
    refine XS.aloadN X17.here hx rfl (hb hby d6_77) rfl rfl ?_
    show Steps p.tables e below (T17.setTop (mkF m 78 #[.val (.ref a1), .val (.long q2), .second, .val (.long q3), .second, .val (.long q4), .second] [(.ref a1), (.ref aw)])) _
    refine st18 _ ?_
    show Steps p.tables e below (T18.setTop (mkF m 81 #[.val (.ref a1), .val (.long q2), .second, .val (.long q3), .second, .val (.long q4), .second] [(.int ps), (.ref aw)])) _
    refine XS.lloadN X18.here hx rfl (hb hby d6_81) rfl ?_
    show Steps p.tables e below (T18.setTop (mkF m 82 #[.val (.ref a1), .val (.long q2), .second, .val (.long q3), .second, .val (.long q4), .second] [(.long q3), (.int ps), (.ref aw)])) _
    refine st19 _ ?_
    show Steps p.tables e below (T19.setTop (mkF m 83 #[.val (.ref a1), .val (.long q2), .second, .val (.long q3), .second, .val (.long q4), .second] [])) _
    refine XS.aloadN X19.here hx rfl (hb hby d6_83) rfl rfl ?_
    show Steps p.tables e below (T19.setTop (mkF m 84 #[.val (.ref a1), .val (.long q2), .second, .val (.long q3), .second, .val (.long q4), .second] [(.ref a1)])) _
    refine st31 _ ?_
    show Steps p.tables e below (T31.setTop (mkF m 87 #[.val (.ref a1), .val (.long q2), .second, .val (.long q3), .second, .val (.long q4), .second] [(.ref at_)])) _
    refine XS.aloadN X31.here hx rfl (hb hby d6_87) rfl rfl ?_
    show Steps p.tables e below (T31.setTop (mkF m 88 #[.val (.ref a1), .val (.long q2), .second, .val (.long q3), .second, .val (.long q4), .second] [(.ref a1), (.ref at_)])) _
    refine st32 _ ?_
    show Steps p.tables e below (T32.setTop (mkF m 91 #[.val (.ref a1), .val (.long q2), .second, .val (.long q3), .second, .val (.long q4), .second] [(.int ps), (.ref at_)])) _
    refine XS.lload X32.here hx rfl (hb hby d6_91) rfl ?_
    show Steps p.tables e below (T32.setTop (mkF m 93 #[.val (.ref a1), .val (.long q2), .second, .val (.long q3), .second, .val (.long q4), .second] [(.long q4), (.int ps), (.ref at_)])) _
    refine st33 _ ?_
    show Steps p.tables e below (T33.setTop (mkF m 94 #[.val (.ref a1), .val (.long q2), .second, .val (.long q3), .second, .val (.long q4), .second] [])) _
    refine XS.aloadN X33.here hx rfl (hb hby d6_94) rfl rfl ?_
    show Steps p.tables e below (T33.setTop (mkF m 95 #[.val (.ref a1), .val (.long q2), .second, .val (.long q3), .second, .val (.long q4), .second] [(.ref a1)])) _
    refine XS.dup X33.here hx rfl (hb hby d6_95) rfl rfl ?_
    show Steps p.tables e below (T33.setTop (mkF m 96 #[.val (.ref a1), .val (.long q2), .second, .val (.long q3), .second, .val (.long q4), .second] [(.ref a1), (.ref a1)])) _
    refine st45 _ ?_
    show Steps p.tables e below (T45.setTop (mkF m 99 #[.val (.ref a1), .val (.long q2), .second, .val (.long q3), .second, .val (.long q4), .second] [(.int ps), (.ref a1)])) _
    refine XS.iconst X45.here hx rfl (hb hby d6_99) ?_
    show Steps p.tables e below (T45.setTop (mkF m 100 #[.val (.ref a1), .val (.long q2), .second, .val (.long q3), .second, .val (.long q4), .second] [(.int (1 : Int32)), (.int ps), (.ref a1)])) _
    refine XS.iadd X45.here hx rfl (hb hby d6_100) rfl ?_
    show Steps p.tables e below (T45.setTop (mkF m 101 #[.val (.ref a1), .val (.long q2), .second, .val (.long q3), .second, .val (.long q4), .second] [(.int (ps + (1 : Int32))), (.ref a1)])) _
    refine st46 _ ?_
    exact kt
  obtain ⟨fs, hr, hrun, hended, hW, hsame⟩ := X46.leave (v := none) (fun _ => rfl)
  refine ⟨_, _, pre58 _ ?_, hrun, hended, _, _, rfl, ?_, ⟨_, rfl⟩, hW, hsame.mono (by decide) (by decide)⟩
  · show Steps p.tables e below (T46.setTop (mkF m 104 #[.val (.ref a1), .val (.long q2), .second, .val (.long q3), .second, .val (.long q4), .second] [])) _
    exact X46.returnOut hx Bd.returns (hb hby d6_104) hr
  · show Q6 Z a1 q2 q3 q4 az aw at_ ps fz fw ft ks h0 n0 _ T46.heap _
    rw [hE46]
    exact ⟨rfl, N56, K57, f47, f49, f50, f51, Fw46, f52, f53, f54⟩
theorem d4_0 : decode prog_203_method_18_code 0 = .ok (.iconst 0, 1) := by decide +kernel
theorem d4_1 : decode prog_203_method_18_code 1 = .ok (.istore_n 3, 1) := by decide +kernel
theorem d4_2 : decode prog_203_method_18_code 2 = .ok (.aload_n 0, 1) := by decide +kernel
theorem d4_3 : decode prog_203_method_18_code 3 = .ok (.getfield 22, 3) := by decide +kernel
theorem d4_6 : decode prog_203_method_18_code 6 = .ok (.iconst 1, 1) := by decide +kernel
theorem d4_7 : decode prog_203_method_18_code 7 = .ok (.isub, 1) := by decide +kernel
theorem d4_8 : decode prog_203_method_18_code 8 = .ok (.istore 4, 2) := by decide +kernel
theorem d4_10 : decode prog_203_method_18_code 10 = .ok (.iload_n 3, 1) := by decide +kernel
theorem d4_11 : decode prog_203_method_18_code 11 = .ok (.iload 4, 2) := by decide +kernel
theorem d4_13 : decode prog_203_method_18_code 13 = .ok (.if_icmp .gt 40, 3) := by decide +kernel
theorem d4_16 : decode prog_203_method_18_code 16 = .ok (.iload_n 3, 1) := by decide +kernel
theorem d4_17 : decode prog_203_method_18_code 17 = .ok (.iload 4, 2) := by decide +kernel
theorem d4_19 : decode prog_203_method_18_code 19 = .ok (.iadd, 1) := by decide +kernel
theorem d4_20 : decode prog_203_method_18_code 20 = .ok (.iconst 1, 1) := by decide +kernel
theorem d4_21 : decode prog_203_method_18_code 21 = .ok (.iushr, 1) := by decide +kernel
theorem d4_22 : decode prog_203_method_18_code 22 = .ok (.istore 5, 2) := by decide +kernel
theorem d4_24 : decode prog_203_method_18_code 24 = .ok (.aload_n 0, 1) := by decide +kernel
theorem d4_25 : decode prog_203_method_18_code 25 = .ok (.getfield 12, 3) := by decide +kernel
theorem d4_28 : decode prog_203_method_18_code 28 = .ok (.iload 5, 2) := by decide +kernel
theorem d4_30 : decode prog_203_method_18_code 30 = .ok (.laload, 1) := by decide +kernel
theorem d4_31 : decode prog_203_method_18_code 31 = .ok (.lload_n 1, 1) := by decide +kernel
theorem d4_32 : decode prog_203_method_18_code 32 = .ok (.lcmp, 1) := by decide +kernel
theorem d4_33 : decode prog_203_method_18_code 33 = .ok (.ifCond .gt 11, 3) := by decide +kernel
theorem d4_36 : decode prog_203_method_18_code 36 = .ok (.iload 5, 2) := by decide +kernel
theorem d4_38 : decode prog_203_method_18_code 38 = .ok (.iconst 1, 1) := by decide +kernel
theorem d4_39 : decode prog_203_method_18_code 39 = .ok (.iadd, 1) := by decide +kernel
theorem d4_40 : decode prog_203_method_18_code 40 = .ok (.istore_n 3, 1) := by decide +kernel
theorem d4_41 : decode prog_203_method_18_code 41 = .ok (.goto 9, 3) := by decide +kernel
theorem d4_44 : decode prog_203_method_18_code 44 = .ok (.iload 5, 2) := by decide +kernel
theorem d4_46 : decode prog_203_method_18_code 46 = .ok (.iconst 1, 1) := by decide +kernel
theorem d4_47 : decode prog_203_method_18_code 47 = .ok (.isub, 1) := by decide +kernel
theorem d4_48 : decode prog_203_method_18_code 48 = .ok (.istore 4, 2) := by decide +kernel
theorem d4_50 : decode prog_203_method_18_code 50 = .ok (.goto (-40), 3) := by decide +kernel
theorem d4_53 : decode prog_203_method_18_code 53 = .ok (.iload 4, 2) := by decide +kernel
theorem d4_55 : decode prog_203_method_18_code 55 = .ok (.ireturn, 1) := by decide +kernel
theorem pn_4 : plainName "com/example/quorumvote/quorumvote/simulation/SimulatedLog" = true := by first | (simp [plainName, overriddenIn]; done) | decide +kernel
theorem ef_4 (m : MethodId) (x0 : Addr) (x1 : Int64) : entryFrame m #[(.ref x0), (.long x1)] 6 = mkF m 0 #[.val (.ref x0), .val (.long x1), .second, .unset, .unset, .unset] [] := by first | (simp [entryFrame, mkF, argsToLocals, Value.category]; done) | rfl
def Q4 (Z : State) (a1 : Addr) (q2 : Int64) (az : Addr) (ps : Int32) (fz : Nat → Int64) (cn : Nat) (h0 : Heap) (n0 : Nat) (v : Option Value) (h : Heap) (L : List Loc) : Prop := ∃ r : Int32, v = some (.int r) ∧ Fr n0 L ∧ h = h0 ∧ own_spec fz q2 cn r
set_option maxRecDepth 65536 in
set_option maxHeartbeats 40000000 in
theorem rm4 (l : Launch) (Z : State) (a0 : Array Value) (hw : ∀ d ∈ tables_1, d.before a0 Z = true) (ws : List Jvm.Cond) (a1 : Addr) (q2 : Int64) (az : Addr) (ps : Int32) (fz : Nat → Int64) (cn : Nat) (h0 : Heap) (n0 : Nat) (Z0 : n0 ≤ h0.size) (F_zxids : Fld Z h0 a1 "com/example/quorumvote/quorumvote/simulation/SimulatedLog" "zxids" "[J" (.ref az)) (F_size : Fld Z h0 a1 "com/example/quorumvote/quorumvote/simulation/SimulatedLog" "size" "I" (.int ps)) (A_az : owAJ Z h0 az .long 16 fz) (hps : ps.toInt = (cn : Int)) (hcn : cn ≤ 5) (hso : own_sorted fz cn) :
    MetFree l (⟨"com/example/quorumvote/quorumvote/simulation/SimulatedLog", "placeAtOrBelow", "(J)I"⟩ : MethodName) (head1 (Jvm.Cond.code (⟨"com/example/quorumvote/quorumvote/simulation/SimulatedLog", "placeAtOrBelow", "(J)I"⟩ : MethodName) prog_203_method_18_code 6 (some .int) :: ws) ({ frames := 0, cells := 0, slots := 0, locals := 0 } : Room)) (fun a U => a = #[(.ref a1), (.long q2)] ∧ Z.Warmed39 U.vm ∧ U.heap = h0) (fun _ _ _ _ _ => True) (fun _ U o U' => ∃ v L, o = .returned v ∧ Q4 Z a1 q2 az ps fz cn h0 n0 v U'.heap L ∧ FrameEnd U o U' L ({ frames := 0, cells := 0, slots := 0, locals := 0 } : Room).cells ({ frames := 0, cells := 0, slots := 0, locals := 0 } : Room).slots) := by
  refine MetFree.of_bodySF (plainFor_of_name pn_4) hisR ?_
  intro p e s m args below meth c s₁ Bd hml0 hP hK
  obtain ⟨rfl, hZ, hh⟩ := hP
  have hx := Bd.exec
  have hby := Bd.bytes
  have hml : c.maxLocals = 6 := hml0
  have hown : s.vm.findClass "com/example/quorumvote/quorumvote/simulation/SimulatedLog" = some m.cls := findClass_of_methodNamed Bd.named
  have hnm := (name_of_methodNamed Bd.named Bd.method).1
  have X0 : Stand p l e ({ frames := 0, cells := 0, slots := 0, locals := 0 } : Room) s m #[(.ref a1), (.long q2)] below meth c s₁ [] 0 0 := Stand.of_body Bd
  have e0 : s₁.heap = h0 := by rw [← hh, Bd.state]; rfl
  have N0 := Fr.nil n0
  have pre0 : ∀ t, Steps p.tables e below (s₁.setTop (mkF m 0 #[.val (.ref a1), .val (.long q2), .second, .unset, .unset, .unset] [])) t → Steps p.tables e below (s₁.setTop (entryFrame m #[(.ref a1), (.long q2)] 6)) t := fun t k => castTop (ef_4 m a1 q2) k
  obtain ⟨T1, X1, hE1, st1⟩ := getF X0 hx hZ hown (host := "") (Or.inl (hw _ (List.mem_of_getElem? (i := 22) rfl))) Via.refl e0 F_size (g := (mkF m 3 #[.val (.ref a1), .val (.long q2), .second, .val (.int (0 : Int32)), .unset, .unset] [(.ref a1)])) rfl rfl (hb hby d4_3)
  have pre2 : ∀ t, Steps p.tables e below (T1.setTop (mkF m 10 #[.val (.ref a1), .val (.long q2), .second, .val (.int (0 : Int32)), .val (.int (ps - (1 : Int32))), .unset] [])) t → Steps p.tables e below (s₁.setTop (entryFrame m #[(.ref a1), (.long q2)] 6)) t := by
    intro t kt
    refine pre0 _ ?_
    show Steps p.tables e below (s₁.setTop (mkF m 0 #[.val (.ref a1), .val (.long q2), .second, .unset, .unset, .unset] [])) _
    refine XS.iconst X0.here hx rfl (hb hby d4_0) ?_
    show Steps p.tables e below (s₁.setTop (mkF m 1 #[.val (.ref a1), .val (.long q2), .second, .unset, .unset, .unset] [(.int (0 : Int32))])) _
    refine XS.istoreN X0.here hx rfl (hb hby d4_1) rfl (l' := #[.val (.ref a1), .val (.long q2), .second, .val (.int (0 : Int32)), .unset, .unset]) rfl ?_
    show Steps p.tables e below (s₁.setTop (mkF m 2 #[.val (.ref a1), .val (.long q2), .second, .val (.int (0 : Int32)), .unset, .unset] [])) _
    refine XS.aloadN X0.here hx rfl (hb hby d4_2) rfl rfl ?_
    show Steps p.tables e below (s₁.setTop (mkF m 3 #[.val (.ref a1), .val (.long q2), .second, .val (.int (0 : Int32)), .unset, .unset] [(.ref a1)])) _
    refine st1 _ ?_
    show Steps p.tables e below (T1.setTop (mkF m 6 #[.val (.ref a1), .val (.long q2), .second, .val (.int (0 : Int32)), .unset, .unset] [(.int ps)])) _
    refine XS.iconst X1.here hx rfl (hb hby d4_6) ?_
    show Steps p.tables e below (T1.setTop (mkF m 7 #[.val (.ref a1), .val (.long q2), .second, .val (.int (0 : Int32)), .unset, .unset] [(.int (1 : Int32)), (.int ps)])) _
    refine XS.isub X1.here hx rfl (hb hby d4_7) rfl ?_
    show Steps p.tables e below (T1.setTop (mkF m 8 #[.val (.ref a1), .val (.long q2), .second, .val (.int (0 : Int32)), .unset, .unset] [(.int (ps - (1 : Int32)))])) _
    refine XS.istore X1.here hx rfl (hb hby d4_8) rfl (l' := #[.val (.ref a1), .val (.long q2), .second, .val (.int (0 : Int32)), .val (.int (ps - (1 : Int32))), .unset]) rfl ?_
    exact kt
  have loop : ∀ (d : Nat) (TL : State) (lo hi : Int32) (s5 : Slot), Stand p l e ({ frames := 0, cells := 0, slots := 0, locals := 0 } : Room) s m #[(.ref a1), (.long q2)] below meth c TL [] 0 0 → TL.heap = h0 → One s5 → own_inv fz q2 cn lo hi → hi.toInt + 1 - lo.toInt ≤ (d : Int) → ∃ (T' : State) (lo' r : Int32) (s' : Slot), Stand p l e ({ frames := 0, cells := 0, slots := 0, locals := 0 } : Room) s m #[(.ref a1), (.long q2)] below meth c T' [] 0 0 ∧ T'.heap = h0 ∧ own_spec fz q2 cn r ∧ ∀ t, Steps p.tables e below (T'.setTop (mkF m 53 #[.val (.ref a1), .val (.long q2), .second, .val (.int lo'), .val (.int r), s'] [])) t → Steps p.tables e below (TL.setTop (mkF m 10 #[.val (.ref a1), .val (.long q2), .second, .val (.int lo), .val (.int hi), s5] [])) t := by
    intro d
    induction d with
    | zero =>
      intro TL lo hi s5 XL eL h5 hv hd
      have pre3 : ∀ t, Steps p.tables e below (TL.setTop (mkF m 10 #[.val (.ref a1), .val (.long q2), .second, .val (.int lo), .val (.int hi), s5] [])) t → Steps p.tables e below (TL.setTop (mkF m 10 #[.val (.ref a1), .val (.long q2), .second, .val (.int lo), .val (.int hi), s5] [])) t := fun _ k => k
      have pre4 : ∀ t, Steps p.tables e below (TL.setTop (mkF m 53 #[.val (.ref a1), .val (.long q2), .second, .val (.int lo), .val (.int hi), s5] [])) t → Steps p.tables e below (TL.setTop (mkF m 10 #[.val (.ref a1), .val (.long q2), .second, .val (.int lo), .val (.int hi), s5] [])) t := by
        intro t kt
        refine pre3 _ ?_
        show Steps p.tables e below (TL.setTop (mkF m 10 #[.val (.ref a1), .val (.long q2), .second, .val (.int lo), .val (.int hi), s5] [])) _
        refine XS.iloadN XL.here hx rfl (hb hby d4_10) rfl ?_
        show Steps p.tables e below (TL.setTop (mkF m 11 #[.val (.ref a1), .val (.long q2), .second, .val (.int lo), .val (.int hi), s5] [(.int lo)])) _
        refine XS.iload XL.here hx rfl (hb hby d4_11) rfl ?_
        show Steps p.tables e below (TL.setTop (mkF m 13 #[.val (.ref a1), .val (.long q2), .second, .val (.int lo), .val (.int hi), s5] [(.int hi), (.int lo)])) _
        refine XS.icmpYes XL.here hx rfl (pc0 := 13) (pc' := 53) rfl (hb hby d4_13) rfl (XT.ii_gt_t (own_z hd)) (by decide) (by decide) ?_
        exact kt
      exact ⟨TL, lo, hi, s5, XL, eL, own_out hv (own_z hd), fun t kt => pre4 _ kt⟩
    | succ d ih =>
      intro TL lo hi s5 XL eL h5 hv hd
      by_cases hq : hi < lo
      · skip
        have pre5 : ∀ t, Steps p.tables e below (TL.setTop (mkF m 10 #[.val (.ref a1), .val (.long q2), .second, .val (.int lo), .val (.int hi), s5] [])) t → Steps p.tables e below (TL.setTop (mkF m 10 #[.val (.ref a1), .val (.long q2), .second, .val (.int lo), .val (.int hi), s5] [])) t := fun _ k => k
        have pre6 : ∀ t, Steps p.tables e below (TL.setTop (mkF m 53 #[.val (.ref a1), .val (.long q2), .second, .val (.int lo), .val (.int hi), s5] [])) t → Steps p.tables e below (TL.setTop (mkF m 10 #[.val (.ref a1), .val (.long q2), .second, .val (.int lo), .val (.int hi), s5] [])) t := by
          intro t kt
          refine pre5 _ ?_
          show Steps p.tables e below (TL.setTop (mkF m 10 #[.val (.ref a1), .val (.long q2), .second, .val (.int lo), .val (.int hi), s5] [])) _
          refine XS.iloadN XL.here hx rfl (hb hby d4_10) rfl ?_
          show Steps p.tables e below (TL.setTop (mkF m 11 #[.val (.ref a1), .val (.long q2), .second, .val (.int lo), .val (.int hi), s5] [(.int lo)])) _
          refine XS.iload XL.here hx rfl (hb hby d4_11) rfl ?_
          show Steps p.tables e below (TL.setTop (mkF m 13 #[.val (.ref a1), .val (.long q2), .second, .val (.int lo), .val (.int hi), s5] [(.int hi), (.int lo)])) _
          refine XS.icmpYes XL.here hx rfl (pc0 := 13) (pc' := 53) rfl (hb hby d4_13) rfl (XT.ii_gt_t hq) (by decide) (by decide) ?_
          exact kt
        exact ⟨TL, lo, hi, s5, XL, eL, own_out hv hq, fun t kt => pre6 _ kt⟩
      · skip
        have pre7 : ∀ t, Steps p.tables e below (TL.setTop (mkF m 10 #[.val (.ref a1), .val (.long q2), .second, .val (.int lo), .val (.int hi), s5] [])) t → Steps p.tables e below (TL.setTop (mkF m 10 #[.val (.ref a1), .val (.long q2), .second, .val (.int lo), .val (.int hi), s5] [])) t := fun _ k => k
        have pre8 : ∀ t, Steps p.tables e below (TL.setTop (mkF m 22 #[.val (.ref a1), .val (.long q2), .second, .val (.int lo), .val (.int hi), s5] [(.int (((lo + hi).toUInt32 >>> ((1 : Int32) &&& 31).toUInt32).toInt32))])) t → Steps p.tables e below (TL.setTop (mkF m 10 #[.val (.ref a1), .val (.long q2), .second, .val (.int lo), .val (.int hi), s5] [])) t := by
          intro t kt
          refine pre7 _ ?_
          show Steps p.tables e below (TL.setTop (mkF m 10 #[.val (.ref a1), .val (.long q2), .second, .val (.int lo), .val (.int hi), s5] [])) _
          refine XS.iloadN XL.here hx rfl (hb hby d4_10) rfl ?_
          show Steps p.tables e below (TL.setTop (mkF m 11 #[.val (.ref a1), .val (.long q2), .second, .val (.int lo), .val (.int hi), s5] [(.int lo)])) _
          refine XS.iload XL.here hx rfl (hb hby d4_11) rfl ?_
          show Steps p.tables e below (TL.setTop (mkF m 13 #[.val (.ref a1), .val (.long q2), .second, .val (.int lo), .val (.int hi), s5] [(.int hi), (.int lo)])) _
          refine XS.icmpNo XL.here hx rfl (hb hby d4_13) rfl (XT.ii_gt_f hq) ?_
          show Steps p.tables e below (TL.setTop (mkF m 16 #[.val (.ref a1), .val (.long q2), .second, .val (.int lo), .val (.int hi), s5] [])) _
          refine XS.iloadN XL.here hx rfl (hb hby d4_16) rfl ?_
          show Steps p.tables e below (TL.setTop (mkF m 17 #[.val (.ref a1), .val (.long q2), .second, .val (.int lo), .val (.int hi), s5] [(.int lo)])) _
          refine XS.iload XL.here hx rfl (hb hby d4_17) rfl ?_
          show Steps p.tables e below (TL.setTop (mkF m 19 #[.val (.ref a1), .val (.long q2), .second, .val (.int lo), .val (.int hi), s5] [(.int hi), (.int lo)])) _
          refine XS.iadd XL.here hx rfl (hb hby d4_19) rfl ?_
          show Steps p.tables e below (TL.setTop (mkF m 20 #[.val (.ref a1), .val (.long q2), .second, .val (.int lo), .val (.int hi), s5] [(.int (lo + hi))])) _
          refine XS.iconst XL.here hx rfl (hb hby d4_20) ?_
          show Steps p.tables e below (TL.setTop (mkF m 21 #[.val (.ref a1), .val (.long q2), .second, .val (.int lo), .val (.int hi), s5] [(.int (1 : Int32)), (.int (lo + hi))])) _
          refine XS.iushr XL.here hx rfl (hb hby d4_21) rfl ?_
          exact kt
        obtain ⟨mi, h_mi⟩ : ∃ z : Int32, z = (((lo + hi).toUInt32 >>> ((1 : Int32) &&& 31).toUInt32).toInt32) := ⟨_, rfl⟩
        have pre9 : ∀ t, Steps p.tables e below (TL.setTop (mkF m 22 #[.val (.ref a1), .val (.long q2), .second, .val (.int lo), .val (.int hi), s5] [(.int mi)])) t → Steps p.tables e below (TL.setTop (mkF m 10 #[.val (.ref a1), .val (.long q2), .second, .val (.int lo), .val (.int hi), s5] [])) t := by
          intro t kt
          rw [h_mi] at kt
          exact pre8 _ kt
        obtain ⟨km, h_km, h_k1, h_k2, h_k3⟩ := own_mid lo hi mi h_mi hv hq
        obtain ⟨T10, X10, hE10, st10⟩ := getF XL hx hZ hown (host := "") (Or.inl (hw _ (List.mem_of_getElem? (i := 16) rfl))) Via.refl eL F_zxids (g := (mkF m 25 #[.val (.ref a1), .val (.long q2), .second, .val (.int lo), .val (.int hi), .val (.int mi)] [(.ref a1)])) rfl rfl (hb hby d4_25)
        have pre11 : ∀ t, Steps p.tables e below (T10.setTop (mkF m 33 #[.val (.ref a1), .val (.long q2), .second, .val (.int lo), .val (.int hi), .val (.int mi)] [(.int (XT.cmpL (fz km) q2))])) t → Steps p.tables e below (TL.setTop (mkF m 10 #[.val (.ref a1), .val (.long q2), .second, .val (.int lo), .val (.int hi), s5] [])) t := by
          intro t kt
          refine pre9 _ ?_
          show Steps p.tables e below (TL.setTop (mkF m 22 #[.val (.ref a1), .val (.long q2), .second, .val (.int lo), .val (.int hi), s5] [(.int mi)])) _
          refine XS.istoreS XL.here hx rfl (hb hby d4_22) rfl  rfl h5 ?_
          show Steps p.tables e below (TL.setTop (mkF m 24 #[.val (.ref a1), .val (.long q2), .second, .val (.int lo), .val (.int hi), .val (.int mi)] [])) _
          refine XS.aloadN XL.here hx rfl (hb hby d4_24) rfl rfl ?_
          show Steps p.tables e below (TL.setTop (mkF m 25 #[.val (.ref a1), .val (.long q2), .second, .val (.int lo), .val (.int hi), .val (.int mi)] [(.ref a1)])) _
          refine st10 _ ?_
          show Steps p.tables e below (T10.setTop (mkF m 28 #[.val (.ref a1), .val (.long q2), .second, .val (.int lo), .val (.int hi), .val (.int mi)] [(.ref az)])) _
          refine XS.iload X10.here hx rfl (hb hby d4_28) rfl ?_
          show Steps p.tables e below (T10.setTop (mkF m 30 #[.val (.ref a1), .val (.long q2), .second, .val (.int lo), .val (.int hi), .val (.int mi)] [(.int mi), (.ref az)])) _
          refine owLdJ (k := km) X10 hx hZ hE10 A_az (j := mi) h_km (by omega) (g := (mkF m 30 #[.val (.ref a1), .val (.long q2), .second, .val (.int lo), .val (.int hi), .val (.int mi)] [(.int mi), (.ref az)])) rfl rfl (hb hby d4_30) _ ?_
          show Steps p.tables e below (T10.setTop (mkF m 31 #[.val (.ref a1), .val (.long q2), .second, .val (.int lo), .val (.int hi), .val (.int mi)] [(.long (fz km))])) _
          refine XS.lloadN X10.here hx rfl (hb hby d4_31) rfl ?_
          show Steps p.tables e below (T10.setTop (mkF m 32 #[.val (.ref a1), .val (.long q2), .second, .val (.int lo), .val (.int hi), .val (.int mi)] [(.long q2), (.long (fz km))])) _
          refine XT.lcmp X10.here hx rfl (hb hby d4_32) rfl ?_
          exact kt
        by_cases hc33_12 : q2 < (fz km)
        · skip
          have pre13 : ∀ t, Steps p.tables e below (T10.setTop (mkF m 10 #[.val (.ref a1), .val (.long q2), .second, .val (.int lo), .val (.int (mi - (1 : Int32))), .val (.int mi)] [])) t → Steps p.tables e below (TL.setTop (mkF m 10 #[.val (.ref a1), .val (.long q2), .second, .val (.int lo), .val (.int hi), s5] [])) t := by
            intro t kt
            refine pre11 _ ?_
            show Steps p.tables e below (T10.setTop (mkF m 33 #[.val (.ref a1), .val (.long q2), .second, .val (.int lo), .val (.int hi), .val (.int mi)] [(.int (XT.cmpL (fz km) q2))])) _
            refine XS.ifYes X10.here hx rfl (pc0 := 33) (pc' := 44) rfl (hb hby d4_33) rfl (XT.ll_gt_t hc33_12) (by decide) (by decide) ?_
            show Steps p.tables e below (T10.setTop (mkF m 44 #[.val (.ref a1), .val (.long q2), .second, .val (.int lo), .val (.int hi), .val (.int mi)] [])) _
            refine XS.iload X10.here hx rfl (hb hby d4_44) rfl ?_
            show Steps p.tables e below (T10.setTop (mkF m 46 #[.val (.ref a1), .val (.long q2), .second, .val (.int lo), .val (.int hi), .val (.int mi)] [(.int mi)])) _
            refine XS.iconst X10.here hx rfl (hb hby d4_46) ?_
            show Steps p.tables e below (T10.setTop (mkF m 47 #[.val (.ref a1), .val (.long q2), .second, .val (.int lo), .val (.int hi), .val (.int mi)] [(.int (1 : Int32)), (.int mi)])) _
            refine XS.isub X10.here hx rfl (hb hby d4_47) rfl ?_
            show Steps p.tables e below (T10.setTop (mkF m 48 #[.val (.ref a1), .val (.long q2), .second, .val (.int lo), .val (.int hi), .val (.int mi)] [(.int (mi - (1 : Int32)))])) _
            refine XS.istore X10.here hx rfl (hb hby d4_48) rfl (l' := #[.val (.ref a1), .val (.long q2), .second, .val (.int lo), .val (.int (mi - (1 : Int32))), .val (.int mi)]) rfl ?_
            show Steps p.tables e below (T10.setTop (mkF m 50 #[.val (.ref a1), .val (.long q2), .second, .val (.int lo), .val (.int (mi - (1 : Int32))), .val (.int mi)] [])) _
            refine XS.goto X10.here hx rfl (pc0 := 50) (pc' := 10) rfl (hb hby d4_50) (by decide) (by decide) ?_
            exact kt
          obtain ⟨T', lo', r, s', X', e', sp, stL⟩ := ih T10 lo (mi - (1 : Int32)) (.val (.int mi)) X10 hE10 (One.val rfl) (own_left hv h_km h_k1 h_k2 h_k3 hso hc33_12) (own_leftd hv h_km h_k1 h_k2 h_k3 hd)
          exact ⟨T', lo', r, s', X', e', sp, fun t kt => pre13 _ (stL t kt)⟩
        · skip
          have pre14 : ∀ t, Steps p.tables e below (T10.setTop (mkF m 10 #[.val (.ref a1), .val (.long q2), .second, .val (.int (mi + (1 : Int32))), .val (.int hi), .val (.int mi)] [])) t → Steps p.tables e below (TL.setTop (mkF m 10 #[.val (.ref a1), .val (.long q2), .second, .val (.int lo), .val (.int hi), s5] [])) t := by
            intro t kt
            refine pre11 _ ?_
            show Steps p.tables e below (T10.setTop (mkF m 33 #[.val (.ref a1), .val (.long q2), .second, .val (.int lo), .val (.int hi), .val (.int mi)] [(.int (XT.cmpL (fz km) q2))])) _
            refine XS.ifNo X10.here hx rfl (hb hby d4_33) rfl (XT.ll_gt_f hc33_12) ?_
            show Steps p.tables e below (T10.setTop (mkF m 36 #[.val (.ref a1), .val (.long q2), .second, .val (.int lo), .val (.int hi), .val (.int mi)] [])) _
            refine XS.iload X10.here hx rfl (hb hby d4_36) rfl ?_
            show Steps p.tables e below (T10.setTop (mkF m 38 #[.val (.ref a1), .val (.long q2), .second, .val (.int lo), .val (.int hi), .val (.int mi)] [(.int mi)])) _
            refine XS.iconst X10.here hx rfl (hb hby d4_38) ?_
            show Steps p.tables e below (T10.setTop (mkF m 39 #[.val (.ref a1), .val (.long q2), .second, .val (.int lo), .val (.int hi), .val (.int mi)] [(.int (1 : Int32)), (.int mi)])) _
            refine XS.iadd X10.here hx rfl (hb hby d4_39) rfl ?_
            show Steps p.tables e below (T10.setTop (mkF m 40 #[.val (.ref a1), .val (.long q2), .second, .val (.int lo), .val (.int hi), .val (.int mi)] [(.int (mi + (1 : Int32)))])) _
            refine XS.istoreN X10.here hx rfl (hb hby d4_40) rfl (l' := #[.val (.ref a1), .val (.long q2), .second, .val (.int (mi + (1 : Int32))), .val (.int hi), .val (.int mi)]) rfl ?_
            show Steps p.tables e below (T10.setTop (mkF m 41 #[.val (.ref a1), .val (.long q2), .second, .val (.int (mi + (1 : Int32))), .val (.int hi), .val (.int mi)] [])) _
            refine XS.goto X10.here hx rfl (pc0 := 41) (pc' := 50) rfl (hb hby d4_41) (by decide) (by decide) ?_
            show Steps p.tables e below (T10.setTop (mkF m 50 #[.val (.ref a1), .val (.long q2), .second, .val (.int (mi + (1 : Int32))), .val (.int hi), .val (.int mi)] [])) _
            refine XS.goto X10.here hx rfl (pc0 := 50) (pc' := 10) rfl (hb hby d4_50) (by decide) (by decide) ?_
            exact kt
          obtain ⟨T', lo', r, s', X', e', sp, stL⟩ := ih T10 (mi + (1 : Int32)) hi (.val (.int mi)) X10 hE10 (One.val rfl) (own_right hv h_km h_k1 h_k2 h_k3 hso hc33_12) (own_rightd hv h_km h_k1 h_k2 h_k3 hd)
          exact ⟨T', lo', r, s', X', e', sp, fun t kt => pre14 _ (stL t kt)⟩
  obtain ⟨TF, lo', r, s', XF, eF, sp, stF⟩ := loop 16 T1 (0 : Int32) (ps - (1 : Int32)) .unset X1 hE1 One.u (own_init fz q2 hps hcn) (own_initd hps hcn)
  have pre15 : ∀ t, Steps p.tables e below (TF.setTop (mkF m 53 #[.val (.ref a1), .val (.long q2), .second, .val (.int lo'), .val (.int r), s'] [])) t → Steps p.tables e below (s₁.setTop (entryFrame m #[(.ref a1), (.long q2)] 6)) t := fun t kt => pre2 _ (stF t kt)
  have pre16 : ∀ t, Steps p.tables e below (TF.setTop (mkF m 55 #[.val (.ref a1), .val (.long q2), .second, .val (.int lo'), .val (.int r), s'] [(.int r)])) t → Steps p.tables e below (s₁.setTop (entryFrame m #[(.ref a1), (.long q2)] 6)) t := by
    intro t kt
    refine pre15 _ ?_
    show Steps p.tables e below (TF.setTop (mkF m 53 #[.val (.ref a1), .val (.long q2), .second, .val (.int lo'), .val (.int r), s'] [])) _
    refine XS.iload XF.here hx rfl (hb hby d4_53) rfl ?_
    exact kt
  obtain ⟨fs, hr, hrun, hended, hW, hsame⟩ := XF.leave (v := some (.int r)) (fun h => by rw [Bd.returns] at h; cases h)
  refine ⟨_, _, pre16 _ ?_, hrun, hended, _, _, rfl, ?_, ⟨_, rfl⟩, hW, hsame.mono (by decide) (by decide)⟩
  · show Steps p.tables e below (TF.setTop (mkF m 55 #[.val (.ref a1), .val (.long q2), .second, .val (.int lo'), .val (.int r), s'] [(.int r)])) _
    exact owRetI XF hx Bd.returns (hb hby d4_55) hr
  · show Q4 Z a1 q2 az ps fz cn h0 n0 _ TF.heap _
    rw [eF]
    exact ⟨r, rfl, N0, rfl, sp⟩
theorem d5_0 : decode method_3_code 0 = .ok (.iload_n 1, 1) := by decide +kernel
theorem d5_1 : decode method_3_code 1 = .ok (.iload_n 0, 1) := by decide +kernel
theorem d5_2 : decode method_3_code 2 = .ok (.if_icmp .ge 12, 3) := by decide +kernel
theorem d5_5 : decode method_3_code 5 = .ok (.lload_n 2, 1) := by decide +kernel
theorem d5_6 : decode method_3_code 6 = .ok (.lload 4, 2) := by decide +kernel
theorem d5_8 : decode method_3_code 8 = .ok (.lcmp, 1) := by decide +kernel
theorem d5_9 : decode method_3_code 9 = .ok (.ifCond .gt 5, 3) := by decide +kernel
theorem d5_12 : decode method_3_code 12 = .ok (.iconst 1, 1) := by decide +kernel
theorem d5_13 : decode method_3_code 13 = .ok (.ireturn, 1) := by decide +kernel
theorem d5_14 : decode method_3_code 14 = .ok (.iconst 0, 1) := by decide +kernel
theorem d5_15 : decode method_3_code 15 = .ok (.ireturn, 1) := by decide +kernel
theorem pn_5 : plainName "com/example/quorumvote/quorumvote/simulation/SimulatedLogPlaceAtOrBelowPinLaw" = true := by first | (simp [plainName, overriddenIn]; done) | decide +kernel
theorem ef_5 (m : MethodId) (x0 : Int32) (x1 : Int32) (x2 : Int64) (x3 : Int64) : entryFrame m #[(.int x0), (.int x1), (.long x2), (.long x3)] 6 = mkF m 0 #[.val (.int x0), .val (.int x1), .val (.long x2), .second, .val (.long x3), .second] [] := by first | (simp [entryFrame, mkF, argsToLocals, Value.category]; done) | rfl
def fn5 (p1 : Int32) (p2 : Int32) (q3 : Int64) (q4 : Int64) : Int32 := (if p2 < p1 then (if q4 < q3 then (0 : Int32) else (1 : Int32)) else (0 : Int32))
def Q5 (Z : State) (p1 : Int32) (p2 : Int32) (q3 : Int64) (q4 : Int64) (h0 : Heap) (n0 : Nat) (v : Option Value) (h : Heap) (L : List Loc) : Prop := v = some (.int (fn5 p1 p2 q3 q4)) ∧ Fr n0 L ∧ h = h0
set_option maxRecDepth 65536 in
set_option maxHeartbeats 40000000 in
theorem rm5 (l : Launch) (Z : State) (a0 : Array Value) (hw : ∀ d ∈ tables_1, d.before a0 Z = true) (ws : List Jvm.Cond) (p1 : Int32) (p2 : Int32) (q3 : Int64) (q4 : Int64) (h0 : Heap) (n0 : Nat) (Z0 : n0 ≤ h0.size) :
    MetFree l (⟨"com/example/quorumvote/quorumvote/simulation/SimulatedLogPlaceAtOrBelowPinLaw", "at", "(IIJJ)I"⟩ : MethodName) (head1 (Jvm.Cond.code (⟨"com/example/quorumvote/quorumvote/simulation/SimulatedLogPlaceAtOrBelowPinLaw", "at", "(IIJJ)I"⟩ : MethodName) method_3_code 6 (some .int) :: ws) ({ frames := 0, cells := 0, slots := 0, locals := 0 } : Room)) (fun a U => a = #[(.int p1), (.int p2), (.long q3), (.long q4)] ∧ Z.Warmed39 U.vm ∧ U.heap = h0) (fun _ _ _ _ _ => True) (fun _ U o U' => ∃ v L, o = .returned v ∧ Q5 Z p1 p2 q3 q4 h0 n0 v U'.heap L ∧ FrameEnd U o U' L ({ frames := 0, cells := 0, slots := 0, locals := 0 } : Room).cells ({ frames := 0, cells := 0, slots := 0, locals := 0 } : Room).slots) := by
  refine MetFree.of_bodySF (plainFor_of_name pn_5) hisR ?_
  intro p e s m args below meth c s₁ Bd hml0 hP hK
  obtain ⟨rfl, hZ, hh⟩ := hP
  have hx := Bd.exec
  have hby := Bd.bytes
  have hml : c.maxLocals = 6 := hml0
  have hown : s.vm.findClass "com/example/quorumvote/quorumvote/simulation/SimulatedLogPlaceAtOrBelowPinLaw" = some m.cls := findClass_of_methodNamed Bd.named
  have hnm := (name_of_methodNamed Bd.named Bd.method).1
  have X0 : Stand p l e ({ frames := 0, cells := 0, slots := 0, locals := 0 } : Room) s m #[(.int p1), (.int p2), (.long q3), (.long q4)] below meth c s₁ [] 0 0 := Stand.of_body Bd
  have e0 : s₁.heap = h0 := by rw [← hh, Bd.state]; rfl
  have N0 := Fr.nil n0
  have pre0 : ∀ t, Steps p.tables e below (s₁.setTop (mkF m 0 #[.val (.int p1), .val (.int p2), .val (.long q3), .second, .val (.long q4), .second] [])) t → Steps p.tables e below (s₁.setTop (entryFrame m #[(.int p1), (.int p2), (.long q3), (.long q4)] 6)) t := fun t k => castTop (ef_5 m p1 p2 q3 q4) k
  have pre1 : ∀ t, Steps p.tables e below (s₁.setTop (mkF m 2 #[.val (.int p1), .val (.int p2), .val (.long q3), .second, .val (.long q4), .second] [(.int p1), (.int p2)])) t → Steps p.tables e below (s₁.setTop (entryFrame m #[(.int p1), (.int p2), (.long q3), (.long q4)] 6)) t := by
    intro t kt
    refine pre0 _ ?_
    show Steps p.tables e below (s₁.setTop (mkF m 0 #[.val (.int p1), .val (.int p2), .val (.long q3), .second, .val (.long q4), .second] [])) _
    refine XS.iloadN X0.here hx rfl (hb hby d5_0) rfl ?_
    show Steps p.tables e below (s₁.setTop (mkF m 1 #[.val (.int p1), .val (.int p2), .val (.long q3), .second, .val (.long q4), .second] [(.int p2)])) _
    refine XS.iloadN X0.here hx rfl (hb hby d5_1) rfl ?_
    exact kt
  by_cases hc2_2 : p2 < p1
  · skip
    have pre3 : ∀ t, Steps p.tables e below (s₁.setTop (mkF m 9 #[.val (.int p1), .val (.int p2), .val (.long q3), .second, .val (.long q4), .second] [(.int (XT.cmpL q3 q4))])) t → Steps p.tables e below (s₁.setTop (entryFrame m #[(.int p1), (.int p2), (.long q3), (.long q4)] 6)) t := by
      intro t kt
      refine pre1 _ ?_
      show Steps p.tables e below (s₁.setTop (mkF m 2 #[.val (.int p1), .val (.int p2), .val (.long q3), .second, .val (.long q4), .second] [(.int p1), (.int p2)])) _
      refine XS.icmpNo X0.here hx rfl (hb hby d5_2) rfl (XT.ii_ge_f hc2_2) ?_
      show Steps p.tables e below (s₁.setTop (mkF m 5 #[.val (.int p1), .val (.int p2), .val (.long q3), .second, .val (.long q4), .second] [])) _
      refine XS.lloadN X0.here hx rfl (hb hby d5_5) rfl ?_
      show Steps p.tables e below (s₁.setTop (mkF m 6 #[.val (.int p1), .val (.int p2), .val (.long q3), .second, .val (.long q4), .second] [(.long q3)])) _
      refine XS.lload X0.here hx rfl (hb hby d5_6) rfl ?_
      show Steps p.tables e below (s₁.setTop (mkF m 8 #[.val (.int p1), .val (.int p2), .val (.long q3), .second, .val (.long q4), .second] [(.long q4), (.long q3)])) _
      refine XT.lcmp X0.here hx rfl (hb hby d5_8) rfl ?_
      exact kt
    by_cases hc9_4 : q4 < q3
    · skip
      have pre5 : ∀ t, Steps p.tables e below (s₁.setTop (mkF m 15 #[.val (.int p1), .val (.int p2), .val (.long q3), .second, .val (.long q4), .second] [(.int (0 : Int32))])) t → Steps p.tables e below (s₁.setTop (entryFrame m #[(.int p1), (.int p2), (.long q3), (.long q4)] 6)) t := by
        intro t kt
        refine pre3 _ ?_
        show Steps p.tables e below (s₁.setTop (mkF m 9 #[.val (.int p1), .val (.int p2), .val (.long q3), .second, .val (.long q4), .second] [(.int (XT.cmpL q3 q4))])) _
        refine XS.ifYes X0.here hx rfl (pc0 := 9) (pc' := 14) rfl (hb hby d5_9) rfl (XT.ll_gt_t hc9_4) (by decide) (by decide) ?_
        show Steps p.tables e below (s₁.setTop (mkF m 14 #[.val (.int p1), .val (.int p2), .val (.long q3), .second, .val (.long q4), .second] [])) _
        refine XS.iconst X0.here hx rfl (hb hby d5_14) ?_
        exact kt
      obtain ⟨fs, hr, hrun, hended, hW, hsame⟩ := X0.leave (v := some (.int (0 : Int32))) (fun h => by rw [Bd.returns] at h; cases h)
      refine ⟨_, _, pre5 _ ?_, hrun, hended, _, _, rfl, ?_, ⟨_, rfl⟩, hW, hsame.mono (by decide) (by decide)⟩
      · show Steps p.tables e below (s₁.setTop (mkF m 15 #[.val (.int p1), .val (.int p2), .val (.long q3), .second, .val (.long q4), .second] [(.int (0 : Int32))])) _
        exact owRetI X0 hx Bd.returns (hb hby d5_15) hr
      · show Q5 Z p1 p2 q3 q4 h0 n0 _ s₁.heap _
        rw [e0]
        exact ⟨by unfold fn5; rw [if_pos hc2_2, if_pos hc9_4], N0, rfl⟩
    · skip
      have pre6 : ∀ t, Steps p.tables e below (s₁.setTop (mkF m 13 #[.val (.int p1), .val (.int p2), .val (.long q3), .second, .val (.long q4), .second] [(.int (1 : Int32))])) t → Steps p.tables e below (s₁.setTop (entryFrame m #[(.int p1), (.int p2), (.long q3), (.long q4)] 6)) t := by
        intro t kt
        refine pre3 _ ?_
        show Steps p.tables e below (s₁.setTop (mkF m 9 #[.val (.int p1), .val (.int p2), .val (.long q3), .second, .val (.long q4), .second] [(.int (XT.cmpL q3 q4))])) _
        refine XS.ifNo X0.here hx rfl (hb hby d5_9) rfl (XT.ll_gt_f hc9_4) ?_
        show Steps p.tables e below (s₁.setTop (mkF m 12 #[.val (.int p1), .val (.int p2), .val (.long q3), .second, .val (.long q4), .second] [])) _
        refine XS.iconst X0.here hx rfl (hb hby d5_12) ?_
        exact kt
      obtain ⟨fs, hr, hrun, hended, hW, hsame⟩ := X0.leave (v := some (.int (1 : Int32))) (fun h => by rw [Bd.returns] at h; cases h)
      refine ⟨_, _, pre6 _ ?_, hrun, hended, _, _, rfl, ?_, ⟨_, rfl⟩, hW, hsame.mono (by decide) (by decide)⟩
      · show Steps p.tables e below (s₁.setTop (mkF m 13 #[.val (.int p1), .val (.int p2), .val (.long q3), .second, .val (.long q4), .second] [(.int (1 : Int32))])) _
        exact owRetI X0 hx Bd.returns (hb hby d5_13) hr
      · show Q5 Z p1 p2 q3 q4 h0 n0 _ s₁.heap _
        rw [e0]
        exact ⟨by unfold fn5; rw [if_pos hc2_2, if_neg hc9_4], N0, rfl⟩
  · skip
    have pre7 : ∀ t, Steps p.tables e below (s₁.setTop (mkF m 15 #[.val (.int p1), .val (.int p2), .val (.long q3), .second, .val (.long q4), .second] [(.int (0 : Int32))])) t → Steps p.tables e below (s₁.setTop (entryFrame m #[(.int p1), (.int p2), (.long q3), (.long q4)] 6)) t := by
      intro t kt
      refine pre1 _ ?_
      show Steps p.tables e below (s₁.setTop (mkF m 2 #[.val (.int p1), .val (.int p2), .val (.long q3), .second, .val (.long q4), .second] [(.int p1), (.int p2)])) _
      refine XS.icmpYes X0.here hx rfl (pc0 := 2) (pc' := 14) rfl (hb hby d5_2) rfl (XT.ii_ge_t hc2_2) (by decide) (by decide) ?_
      show Steps p.tables e below (s₁.setTop (mkF m 14 #[.val (.int p1), .val (.int p2), .val (.long q3), .second, .val (.long q4), .second] [])) _
      refine XS.iconst X0.here hx rfl (hb hby d5_14) ?_
      exact kt
    obtain ⟨fs, hr, hrun, hended, hW, hsame⟩ := X0.leave (v := some (.int (0 : Int32))) (fun h => by rw [Bd.returns] at h; cases h)
    refine ⟨_, _, pre7 _ ?_, hrun, hended, _, _, rfl, ?_, ⟨_, rfl⟩, hW, hsame.mono (by decide) (by decide)⟩
    · show Steps p.tables e below (s₁.setTop (mkF m 15 #[.val (.int p1), .val (.int p2), .val (.long q3), .second, .val (.long q4), .second] [(.int (0 : Int32))])) _
      exact owRetI X0 hx Bd.returns (hb hby d5_15) hr
    · show Q5 Z p1 p2 q3 q4 h0 n0 _ s₁.heap _
      rw [e0]
      exact ⟨by unfold fn5; rw [if_neg hc2_2], N0, rfl⟩
theorem own_nn (p0 nn : Int32) (h : nn = ((p0 &&& (2147483647 : Int32)) % (6 : Int32))) : 0 ≤ nn.toInt ∧ nn.toInt ≤ 5 := by
  have h1 := c_mask p0 2147483647 31 (by decide) (by decide)
  have h2 := (c_irem (p0 &&& 2147483647) 6 6 rfl).1
  rw [← h] at h2
  omega
theorem own_at (nn i : Int32) (z q : Int64) : (i.toInt < nn.toInt → z.toInt ≤ q.toInt → (fn5 nn i z q).toInt = 1) ∧ (nn.toInt ≤ i.toInt → (fn5 nn i z q).toInt = 0) ∧ (q.toInt < z.toInt → (fn5 nn i z q).toInt = 0) := by
  unfold fn5
  have o0 : (0 : Int32).toInt = 0 := rfl
  have o1 : (1 : Int32).toInt = 1 := rfl
  (repeat' split) <;> rename_i q1 <;> simp only [Int32.lt_iff_toInt_lt, Int64.lt_iff_toInt_lt] at * <;> omega
theorem own_so0 (q0 zz1 zz2 zz3 zz4 : Int64) (fz : Nat → Int64) (h_fz : fz = (fun _ => 0)) (z1 : ¬ zz1 < q0) (z2 : ¬ zz2 < zz1) (z3 : ¬ zz3 < zz2) (z4 : ¬ zz4 < zz3) : own_sorted fz 0 := by
  rw [Int64.lt_iff_toInt_lt] at z1 z2 z3 z4
  intro i j hij hj

  omega
set_option maxHeartbeats 4000000 in
theorem own_law0 (nn : Int32) (q0 zz1 zz2 zz3 zz4 qq : Int64) (fz : Nat → Int64) (h_fz : fz = (fun _ => 0)) (rr : Int32) (sp : own_spec fz qq 0 rr) (ex : Int32) (h_ex : ex = ((((((fn5 nn (0 : Int32) q0 qq) + (fn5 nn (1 : Int32) zz1 qq)) + (fn5 nn (2 : Int32) zz2 qq)) + (fn5 nn (3 : Int32) zz3 qq)) + (fn5 nn (4 : Int32) zz4 qq)) - (1 : Int32))) (hn : nn.toInt = 0) : rr = ex := by
  obtain ⟨s1, s2, s3, s4⟩ := sp

  have t0 := own_at nn 0 q0 qq
  have o0 : (0 : Int32).toInt = 0 := rfl
  have t1 := own_at nn 1 zz1 qq
  have o1 : (1 : Int32).toInt = 1 := rfl
  have t2 := own_at nn 2 zz2 qq
  have o2 : (2 : Int32).toInt = 2 := rfl
  have t3 := own_at nn 3 zz3 qq
  have o3 : (3 : Int32).toInt = 3 := rfl
  have t4 := own_at nn 4 zz4 qq
  have o4 : (4 : Int32).toInt = 4 := rfl
  generalize (fn5 nn (0 : Int32) q0 qq) = a0 at *
  generalize (fn5 nn (1 : Int32) zz1 qq) = a1 at *
  generalize (fn5 nn (2 : Int32) zz2 qq) = a2 at *
  generalize (fn5 nn (3 : Int32) zz3 qq) = a3 at *
  generalize (fn5 nn (4 : Int32) zz4 qq) = a4 at *
  have v0 : a0.toInt = 0 := t0.2.1 (by omega)
  have v1 : a1.toInt = 0 := t1.2.1 (by omega)
  have v2 : a2.toInt = 0 := t2.2.1 (by omega)
  have v3 : a3.toInt = 0 := t3.2.1 (by omega)
  have v4 : a4.toInt = 0 := t4.2.1 (by omega)
  have b1 := c_iadd a0 a1
  have b2 := c_iadd (a0 + a1) a2
  have b3 := c_iadd (a0 + a1 + a2) a3
  have b4 := c_iadd (a0 + a1 + a2 + a3) a4
  have b5 := c_isub (a0 + a1 + a2 + a3 + a4) 1
  have r0 := rng32 ex
  rw [← h_ex] at b5
  have r1 := rng32 (a0 + a1)
  have r2 := rng32 (a0 + a1 + a2)
  have r3 := rng32 (a0 + a1 + a2 + a3)
  have r4 := rng32 (a0 + a1 + a2 + a3 + a4)
  have hr : rr.toInt = -1 := by omega
  clear h_ex s3 s4 h_fz t0 t1 t2 t3 t4 
  rw [← Int32.toInt_inj]
  rcases hr with hr
  · have y0 := v0; have y1 := v1; have y2 := v2; have y3 := v3; have y4 := v4; clear v0 v1 v2 v3 v4; omega
theorem own_so1 (q0 zz1 zz2 zz3 zz4 : Int64) (fz : Nat → Int64) (h_fz : fz = (owUp (fun _ => 0) 0 q0)) (z1 : ¬ zz1 < q0) (z2 : ¬ zz2 < zz1) (z3 : ¬ zz3 < zz2) (z4 : ¬ zz4 < zz3) : own_sorted fz 1 := by
  rw [Int64.lt_iff_toInt_lt] at z1 z2 z3 z4
  intro i j hij hj
  have f0 : fz 0 = q0 := by rw [h_fz]; rfl
  have hj' : j = 0 := by omega
  have hi' : i = 0 := by omega
  rcases hj' with rfl <;> rcases hi' with rfl <;> simp only [f0] <;> omega
set_option maxHeartbeats 4000000 in
theorem own_law1 (nn : Int32) (q0 zz1 zz2 zz3 zz4 qq : Int64) (fz : Nat → Int64) (h_fz : fz = (owUp (fun _ => 0) 0 q0)) (rr : Int32) (sp : own_spec fz qq 1 rr) (ex : Int32) (h_ex : ex = ((((((fn5 nn (0 : Int32) q0 qq) + (fn5 nn (1 : Int32) zz1 qq)) + (fn5 nn (2 : Int32) zz2 qq)) + (fn5 nn (3 : Int32) zz3 qq)) + (fn5 nn (4 : Int32) zz4 qq)) - (1 : Int32))) (hn : nn.toInt = 1) : rr = ex := by
  obtain ⟨s1, s2, s3, s4⟩ := sp
  have f0 : fz 0 = q0 := by rw [h_fz]; rfl
  have t0 := own_at nn 0 q0 qq
  have o0 : (0 : Int32).toInt = 0 := rfl
  have t1 := own_at nn 1 zz1 qq
  have o1 : (1 : Int32).toInt = 1 := rfl
  have t2 := own_at nn 2 zz2 qq
  have o2 : (2 : Int32).toInt = 2 := rfl
  have t3 := own_at nn 3 zz3 qq
  have o3 : (3 : Int32).toInt = 3 := rfl
  have t4 := own_at nn 4 zz4 qq
  have o4 : (4 : Int32).toInt = 4 := rfl
  generalize (fn5 nn (0 : Int32) q0 qq) = a0 at *
  generalize (fn5 nn (1 : Int32) zz1 qq) = a1 at *
  generalize (fn5 nn (2 : Int32) zz2 qq) = a2 at *
  generalize (fn5 nn (3 : Int32) zz3 qq) = a3 at *
  generalize (fn5 nn (4 : Int32) zz4 qq) = a4 at *
  have u0 := s3 0
  have w0 := s4 0
  rw [f0] at u0 w0
  have v0 : (0 ≤ rr.toInt → a0.toInt = 1) ∧ (rr.toInt < 0 → a0.toInt = 0) := ⟨fun hh => t0.1 (by omega) (u0 hh), fun hh => t0.2.2 (w0 hh (by decide))⟩
  have v1 : a1.toInt = 0 := t1.2.1 (by omega)
  have v2 : a2.toInt = 0 := t2.2.1 (by omega)
  have v3 : a3.toInt = 0 := t3.2.1 (by omega)
  have v4 : a4.toInt = 0 := t4.2.1 (by omega)
  have b1 := c_iadd a0 a1
  have b2 := c_iadd (a0 + a1) a2
  have b3 := c_iadd (a0 + a1 + a2) a3
  have b4 := c_iadd (a0 + a1 + a2 + a3) a4
  have b5 := c_isub (a0 + a1 + a2 + a3 + a4) 1
  have r0 := rng32 ex
  rw [← h_ex] at b5
  have r1 := rng32 (a0 + a1)
  have r2 := rng32 (a0 + a1 + a2)
  have r3 := rng32 (a0 + a1 + a2 + a3)
  have r4 := rng32 (a0 + a1 + a2 + a3 + a4)
  have hr : rr.toInt = -1 ∨ rr.toInt = 0 := by omega
  clear h_ex s3 s4 h_fz t0 t1 t2 t3 t4 u0 w0
  rw [← Int32.toInt_inj]
  rcases hr with hr | hr
  · have y0 := v0.2 (by omega); have y1 := v1; have y2 := v2; have y3 := v3; have y4 := v4; clear v0 v1 v2 v3 v4; omega
  · have y0 := v0.1 (by omega); have y1 := v1; have y2 := v2; have y3 := v3; have y4 := v4; clear v0 v1 v2 v3 v4; omega
theorem own_so2 (q0 zz1 zz2 zz3 zz4 : Int64) (fz : Nat → Int64) (h_fz : fz = (owUp (owUp (fun _ => 0) 0 q0) 1 zz1)) (z1 : ¬ zz1 < q0) (z2 : ¬ zz2 < zz1) (z3 : ¬ zz3 < zz2) (z4 : ¬ zz4 < zz3) : own_sorted fz 2 := by
  rw [Int64.lt_iff_toInt_lt] at z1 z2 z3 z4
  intro i j hij hj
  have f0 : fz 0 = q0 := by rw [h_fz]; rfl
  have f1 : fz 1 = zz1 := by rw [h_fz]; rfl
  have hj' : j = 0 ∨ j = 1 := by omega
  have hi' : i = 0 ∨ i = 1 := by omega
  rcases hj' with rfl | rfl <;> rcases hi' with rfl | rfl <;> simp only [f0, f1] <;> omega
set_option maxHeartbeats 4000000 in
theorem own_law2 (nn : Int32) (q0 zz1 zz2 zz3 zz4 qq : Int64) (fz : Nat → Int64) (h_fz : fz = (owUp (owUp (fun _ => 0) 0 q0) 1 zz1)) (rr : Int32) (sp : own_spec fz qq 2 rr) (ex : Int32) (h_ex : ex = ((((((fn5 nn (0 : Int32) q0 qq) + (fn5 nn (1 : Int32) zz1 qq)) + (fn5 nn (2 : Int32) zz2 qq)) + (fn5 nn (3 : Int32) zz3 qq)) + (fn5 nn (4 : Int32) zz4 qq)) - (1 : Int32))) (hn : nn.toInt = 2) : rr = ex := by
  obtain ⟨s1, s2, s3, s4⟩ := sp
  have f0 : fz 0 = q0 := by rw [h_fz]; rfl
  have f1 : fz 1 = zz1 := by rw [h_fz]; rfl
  have t0 := own_at nn 0 q0 qq
  have o0 : (0 : Int32).toInt = 0 := rfl
  have t1 := own_at nn 1 zz1 qq
  have o1 : (1 : Int32).toInt = 1 := rfl
  have t2 := own_at nn 2 zz2 qq
  have o2 : (2 : Int32).toInt = 2 := rfl
  have t3 := own_at nn 3 zz3 qq
  have o3 : (3 : Int32).toInt = 3 := rfl
  have t4 := own_at nn 4 zz4 qq
  have o4 : (4 : Int32).toInt = 4 := rfl
  generalize (fn5 nn (0 : Int32) q0 qq) = a0 at *
  generalize (fn5 nn (1 : Int32) zz1 qq) = a1 at *
  generalize (fn5 nn (2 : Int32) zz2 qq) = a2 at *
  generalize (fn5 nn (3 : Int32) zz3 qq) = a3 at *
  generalize (fn5 nn (4 : Int32) zz4 qq) = a4 at *
  have u0 := s3 0
  have w0 := s4 0
  rw [f0] at u0 w0
  have v0 : (0 ≤ rr.toInt → a0.toInt = 1) ∧ (rr.toInt < 0 → a0.toInt = 0) := ⟨fun hh => t0.1 (by omega) (u0 hh), fun hh => t0.2.2 (w0 hh (by decide))⟩
  have u1 := s3 1
  have w1 := s4 1
  rw [f1] at u1 w1
  have v1 : (1 ≤ rr.toInt → a1.toInt = 1) ∧ (rr.toInt < 1 → a1.toInt = 0) := ⟨fun hh => t1.1 (by omega) (u1 hh), fun hh => t1.2.2 (w1 hh (by decide))⟩
  have v2 : a2.toInt = 0 := t2.2.1 (by omega)
  have v3 : a3.toInt = 0 := t3.2.1 (by omega)
  have v4 : a4.toInt = 0 := t4.2.1 (by omega)
  have b1 := c_iadd a0 a1
  have b2 := c_iadd (a0 + a1) a2
  have b3 := c_iadd (a0 + a1 + a2) a3
  have b4 := c_iadd (a0 + a1 + a2 + a3) a4
  have b5 := c_isub (a0 + a1 + a2 + a3 + a4) 1
  have r0 := rng32 ex
  rw [← h_ex] at b5
  have r1 := rng32 (a0 + a1)
  have r2 := rng32 (a0 + a1 + a2)
  have r3 := rng32 (a0 + a1 + a2 + a3)
  have r4 := rng32 (a0 + a1 + a2 + a3 + a4)
  have hr : rr.toInt = -1 ∨ rr.toInt = 0 ∨ rr.toInt = 1 := by omega
  clear h_ex s3 s4 h_fz t0 t1 t2 t3 t4 u0 w0 u1 w1
  rw [← Int32.toInt_inj]
  rcases hr with hr | hr | hr
  · have y0 := v0.2 (by omega); have y1 := v1.2 (by omega); have y2 := v2; have y3 := v3; have y4 := v4; clear v0 v1 v2 v3 v4; omega
  · have y0 := v0.1 (by omega); have y1 := v1.2 (by omega); have y2 := v2; have y3 := v3; have y4 := v4; clear v0 v1 v2 v3 v4; omega
  · have y0 := v0.1 (by omega); have y1 := v1.1 (by omega); have y2 := v2; have y3 := v3; have y4 := v4; clear v0 v1 v2 v3 v4; omega
theorem own_so3 (q0 zz1 zz2 zz3 zz4 : Int64) (fz : Nat → Int64) (h_fz : fz = (owUp (owUp (owUp (fun _ => 0) 0 q0) 1 zz1) 2 zz2)) (z1 : ¬ zz1 < q0) (z2 : ¬ zz2 < zz1) (z3 : ¬ zz3 < zz2) (z4 : ¬ zz4 < zz3) : own_sorted fz 3 := by
  rw [Int64.lt_iff_toInt_lt] at z1 z2 z3 z4
  intro i j hij hj
  have f0 : fz 0 = q0 := by rw [h_fz]; rfl
  have f1 : fz 1 = zz1 := by rw [h_fz]; rfl
  have f2 : fz 2 = zz2 := by rw [h_fz]; rfl
  have hj' : j = 0 ∨ j = 1 ∨ j = 2 := by omega
  have hi' : i = 0 ∨ i = 1 ∨ i = 2 := by omega
  rcases hj' with rfl | rfl | rfl <;> rcases hi' with rfl | rfl | rfl <;> simp only [f0, f1, f2] <;> omega
set_option maxHeartbeats 4000000 in
theorem own_law3 (nn : Int32) (q0 zz1 zz2 zz3 zz4 qq : Int64) (fz : Nat → Int64) (h_fz : fz = (owUp (owUp (owUp (fun _ => 0) 0 q0) 1 zz1) 2 zz2)) (rr : Int32) (sp : own_spec fz qq 3 rr) (ex : Int32) (h_ex : ex = ((((((fn5 nn (0 : Int32) q0 qq) + (fn5 nn (1 : Int32) zz1 qq)) + (fn5 nn (2 : Int32) zz2 qq)) + (fn5 nn (3 : Int32) zz3 qq)) + (fn5 nn (4 : Int32) zz4 qq)) - (1 : Int32))) (hn : nn.toInt = 3) : rr = ex := by
  obtain ⟨s1, s2, s3, s4⟩ := sp
  have f0 : fz 0 = q0 := by rw [h_fz]; rfl
  have f1 : fz 1 = zz1 := by rw [h_fz]; rfl
  have f2 : fz 2 = zz2 := by rw [h_fz]; rfl
  have t0 := own_at nn 0 q0 qq
  have o0 : (0 : Int32).toInt = 0 := rfl
  have t1 := own_at nn 1 zz1 qq
  have o1 : (1 : Int32).toInt = 1 := rfl
  have t2 := own_at nn 2 zz2 qq
  have o2 : (2 : Int32).toInt = 2 := rfl
  have t3 := own_at nn 3 zz3 qq
  have o3 : (3 : Int32).toInt = 3 := rfl
  have t4 := own_at nn 4 zz4 qq
  have o4 : (4 : Int32).toInt = 4 := rfl
  generalize (fn5 nn (0 : Int32) q0 qq) = a0 at *
  generalize (fn5 nn (1 : Int32) zz1 qq) = a1 at *
  generalize (fn5 nn (2 : Int32) zz2 qq) = a2 at *
  generalize (fn5 nn (3 : Int32) zz3 qq) = a3 at *
  generalize (fn5 nn (4 : Int32) zz4 qq) = a4 at *
  have u0 := s3 0
  have w0 := s4 0
  rw [f0] at u0 w0
  have v0 : (0 ≤ rr.toInt → a0.toInt = 1) ∧ (rr.toInt < 0 → a0.toInt = 0) := ⟨fun hh => t0.1 (by omega) (u0 hh), fun hh => t0.2.2 (w0 hh (by decide))⟩
  have u1 := s3 1
  have w1 := s4 1
  rw [f1] at u1 w1
  have v1 : (1 ≤ rr.toInt → a1.toInt = 1) ∧ (rr.toInt < 1 → a1.toInt = 0) := ⟨fun hh => t1.1 (by omega) (u1 hh), fun hh => t1.2.2 (w1 hh (by decide))⟩
  have u2 := s3 2
  have w2 := s4 2
  rw [f2] at u2 w2
  have v2 : (2 ≤ rr.toInt → a2.toInt = 1) ∧ (rr.toInt < 2 → a2.toInt = 0) := ⟨fun hh => t2.1 (by omega) (u2 hh), fun hh => t2.2.2 (w2 hh (by decide))⟩
  have v3 : a3.toInt = 0 := t3.2.1 (by omega)
  have v4 : a4.toInt = 0 := t4.2.1 (by omega)
  have b1 := c_iadd a0 a1
  have b2 := c_iadd (a0 + a1) a2
  have b3 := c_iadd (a0 + a1 + a2) a3
  have b4 := c_iadd (a0 + a1 + a2 + a3) a4
  have b5 := c_isub (a0 + a1 + a2 + a3 + a4) 1
  have r0 := rng32 ex
  rw [← h_ex] at b5
  have r1 := rng32 (a0 + a1)
  have r2 := rng32 (a0 + a1 + a2)
  have r3 := rng32 (a0 + a1 + a2 + a3)
  have r4 := rng32 (a0 + a1 + a2 + a3 + a4)
  have hr : rr.toInt = -1 ∨ rr.toInt = 0 ∨ rr.toInt = 1 ∨ rr.toInt = 2 := by omega
  clear h_ex s3 s4 h_fz t0 t1 t2 t3 t4 u0 w0 u1 w1 u2 w2
  rw [← Int32.toInt_inj]
  rcases hr with hr | hr | hr | hr
  · have y0 := v0.2 (by omega); have y1 := v1.2 (by omega); have y2 := v2.2 (by omega); have y3 := v3; have y4 := v4; clear v0 v1 v2 v3 v4; omega
  · have y0 := v0.1 (by omega); have y1 := v1.2 (by omega); have y2 := v2.2 (by omega); have y3 := v3; have y4 := v4; clear v0 v1 v2 v3 v4; omega
  · have y0 := v0.1 (by omega); have y1 := v1.1 (by omega); have y2 := v2.2 (by omega); have y3 := v3; have y4 := v4; clear v0 v1 v2 v3 v4; omega
  · have y0 := v0.1 (by omega); have y1 := v1.1 (by omega); have y2 := v2.1 (by omega); have y3 := v3; have y4 := v4; clear v0 v1 v2 v3 v4; omega
theorem own_so4 (q0 zz1 zz2 zz3 zz4 : Int64) (fz : Nat → Int64) (h_fz : fz = (owUp (owUp (owUp (owUp (fun _ => 0) 0 q0) 1 zz1) 2 zz2) 3 zz3)) (z1 : ¬ zz1 < q0) (z2 : ¬ zz2 < zz1) (z3 : ¬ zz3 < zz2) (z4 : ¬ zz4 < zz3) : own_sorted fz 4 := by
  rw [Int64.lt_iff_toInt_lt] at z1 z2 z3 z4
  intro i j hij hj
  have f0 : fz 0 = q0 := by rw [h_fz]; rfl
  have f1 : fz 1 = zz1 := by rw [h_fz]; rfl
  have f2 : fz 2 = zz2 := by rw [h_fz]; rfl
  have f3 : fz 3 = zz3 := by rw [h_fz]; rfl
  have hj' : j = 0 ∨ j = 1 ∨ j = 2 ∨ j = 3 := by omega
  have hi' : i = 0 ∨ i = 1 ∨ i = 2 ∨ i = 3 := by omega
  rcases hj' with rfl | rfl | rfl | rfl <;> rcases hi' with rfl | rfl | rfl | rfl <;> simp only [f0, f1, f2, f3] <;> omega
set_option maxHeartbeats 4000000 in
theorem own_law4 (nn : Int32) (q0 zz1 zz2 zz3 zz4 qq : Int64) (fz : Nat → Int64) (h_fz : fz = (owUp (owUp (owUp (owUp (fun _ => 0) 0 q0) 1 zz1) 2 zz2) 3 zz3)) (rr : Int32) (sp : own_spec fz qq 4 rr) (ex : Int32) (h_ex : ex = ((((((fn5 nn (0 : Int32) q0 qq) + (fn5 nn (1 : Int32) zz1 qq)) + (fn5 nn (2 : Int32) zz2 qq)) + (fn5 nn (3 : Int32) zz3 qq)) + (fn5 nn (4 : Int32) zz4 qq)) - (1 : Int32))) (hn : nn.toInt = 4) : rr = ex := by
  obtain ⟨s1, s2, s3, s4⟩ := sp
  have f0 : fz 0 = q0 := by rw [h_fz]; rfl
  have f1 : fz 1 = zz1 := by rw [h_fz]; rfl
  have f2 : fz 2 = zz2 := by rw [h_fz]; rfl
  have f3 : fz 3 = zz3 := by rw [h_fz]; rfl
  have t0 := own_at nn 0 q0 qq
  have o0 : (0 : Int32).toInt = 0 := rfl
  have t1 := own_at nn 1 zz1 qq
  have o1 : (1 : Int32).toInt = 1 := rfl
  have t2 := own_at nn 2 zz2 qq
  have o2 : (2 : Int32).toInt = 2 := rfl
  have t3 := own_at nn 3 zz3 qq
  have o3 : (3 : Int32).toInt = 3 := rfl
  have t4 := own_at nn 4 zz4 qq
  have o4 : (4 : Int32).toInt = 4 := rfl
  generalize (fn5 nn (0 : Int32) q0 qq) = a0 at *
  generalize (fn5 nn (1 : Int32) zz1 qq) = a1 at *
  generalize (fn5 nn (2 : Int32) zz2 qq) = a2 at *
  generalize (fn5 nn (3 : Int32) zz3 qq) = a3 at *
  generalize (fn5 nn (4 : Int32) zz4 qq) = a4 at *
  have u0 := s3 0
  have w0 := s4 0
  rw [f0] at u0 w0
  have v0 : (0 ≤ rr.toInt → a0.toInt = 1) ∧ (rr.toInt < 0 → a0.toInt = 0) := ⟨fun hh => t0.1 (by omega) (u0 hh), fun hh => t0.2.2 (w0 hh (by decide))⟩
  have u1 := s3 1
  have w1 := s4 1
  rw [f1] at u1 w1
  have v1 : (1 ≤ rr.toInt → a1.toInt = 1) ∧ (rr.toInt < 1 → a1.toInt = 0) := ⟨fun hh => t1.1 (by omega) (u1 hh), fun hh => t1.2.2 (w1 hh (by decide))⟩
  have u2 := s3 2
  have w2 := s4 2
  rw [f2] at u2 w2
  have v2 : (2 ≤ rr.toInt → a2.toInt = 1) ∧ (rr.toInt < 2 → a2.toInt = 0) := ⟨fun hh => t2.1 (by omega) (u2 hh), fun hh => t2.2.2 (w2 hh (by decide))⟩
  have u3 := s3 3
  have w3 := s4 3
  rw [f3] at u3 w3
  have v3 : (3 ≤ rr.toInt → a3.toInt = 1) ∧ (rr.toInt < 3 → a3.toInt = 0) := ⟨fun hh => t3.1 (by omega) (u3 hh), fun hh => t3.2.2 (w3 hh (by decide))⟩
  have v4 : a4.toInt = 0 := t4.2.1 (by omega)
  have b1 := c_iadd a0 a1
  have b2 := c_iadd (a0 + a1) a2
  have b3 := c_iadd (a0 + a1 + a2) a3
  have b4 := c_iadd (a0 + a1 + a2 + a3) a4
  have b5 := c_isub (a0 + a1 + a2 + a3 + a4) 1
  have r0 := rng32 ex
  rw [← h_ex] at b5
  have r1 := rng32 (a0 + a1)
  have r2 := rng32 (a0 + a1 + a2)
  have r3 := rng32 (a0 + a1 + a2 + a3)
  have r4 := rng32 (a0 + a1 + a2 + a3 + a4)
  have hr : rr.toInt = -1 ∨ rr.toInt = 0 ∨ rr.toInt = 1 ∨ rr.toInt = 2 ∨ rr.toInt = 3 := by omega
  clear h_ex s3 s4 h_fz t0 t1 t2 t3 t4 u0 w0 u1 w1 u2 w2 u3 w3
  rw [← Int32.toInt_inj]
  rcases hr with hr | hr | hr | hr | hr
  · have y0 := v0.2 (by omega); have y1 := v1.2 (by omega); have y2 := v2.2 (by omega); have y3 := v3.2 (by omega); have y4 := v4; clear v0 v1 v2 v3 v4; omega
  · have y0 := v0.1 (by omega); have y1 := v1.2 (by omega); have y2 := v2.2 (by omega); have y3 := v3.2 (by omega); have y4 := v4; clear v0 v1 v2 v3 v4; omega
  · have y0 := v0.1 (by omega); have y1 := v1.1 (by omega); have y2 := v2.2 (by omega); have y3 := v3.2 (by omega); have y4 := v4; clear v0 v1 v2 v3 v4; omega
  · have y0 := v0.1 (by omega); have y1 := v1.1 (by omega); have y2 := v2.1 (by omega); have y3 := v3.2 (by omega); have y4 := v4; clear v0 v1 v2 v3 v4; omega
  · have y0 := v0.1 (by omega); have y1 := v1.1 (by omega); have y2 := v2.1 (by omega); have y3 := v3.1 (by omega); have y4 := v4; clear v0 v1 v2 v3 v4; omega
theorem own_so5 (q0 zz1 zz2 zz3 zz4 : Int64) (fz : Nat → Int64) (h_fz : fz = (owUp (owUp (owUp (owUp (owUp (fun _ => 0) 0 q0) 1 zz1) 2 zz2) 3 zz3) 4 zz4)) (z1 : ¬ zz1 < q0) (z2 : ¬ zz2 < zz1) (z3 : ¬ zz3 < zz2) (z4 : ¬ zz4 < zz3) : own_sorted fz 5 := by
  rw [Int64.lt_iff_toInt_lt] at z1 z2 z3 z4
  intro i j hij hj
  have f0 : fz 0 = q0 := by rw [h_fz]; rfl
  have f1 : fz 1 = zz1 := by rw [h_fz]; rfl
  have f2 : fz 2 = zz2 := by rw [h_fz]; rfl
  have f3 : fz 3 = zz3 := by rw [h_fz]; rfl
  have f4 : fz 4 = zz4 := by rw [h_fz]; rfl
  have hj' : j = 0 ∨ j = 1 ∨ j = 2 ∨ j = 3 ∨ j = 4 := by omega
  have hi' : i = 0 ∨ i = 1 ∨ i = 2 ∨ i = 3 ∨ i = 4 := by omega
  rcases hj' with rfl | rfl | rfl | rfl | rfl <;> rcases hi' with rfl | rfl | rfl | rfl | rfl <;> simp only [f0, f1, f2, f3, f4] <;> omega
set_option maxHeartbeats 4000000 in
theorem own_law5 (nn : Int32) (q0 zz1 zz2 zz3 zz4 qq : Int64) (fz : Nat → Int64) (h_fz : fz = (owUp (owUp (owUp (owUp (owUp (fun _ => 0) 0 q0) 1 zz1) 2 zz2) 3 zz3) 4 zz4)) (rr : Int32) (sp : own_spec fz qq 5 rr) (ex : Int32) (h_ex : ex = ((((((fn5 nn (0 : Int32) q0 qq) + (fn5 nn (1 : Int32) zz1 qq)) + (fn5 nn (2 : Int32) zz2 qq)) + (fn5 nn (3 : Int32) zz3 qq)) + (fn5 nn (4 : Int32) zz4 qq)) - (1 : Int32))) (hn : nn.toInt = 5) : rr = ex := by
  obtain ⟨s1, s2, s3, s4⟩ := sp
  have f0 : fz 0 = q0 := by rw [h_fz]; rfl
  have f1 : fz 1 = zz1 := by rw [h_fz]; rfl
  have f2 : fz 2 = zz2 := by rw [h_fz]; rfl
  have f3 : fz 3 = zz3 := by rw [h_fz]; rfl
  have f4 : fz 4 = zz4 := by rw [h_fz]; rfl
  have t0 := own_at nn 0 q0 qq
  have o0 : (0 : Int32).toInt = 0 := rfl
  have t1 := own_at nn 1 zz1 qq
  have o1 : (1 : Int32).toInt = 1 := rfl
  have t2 := own_at nn 2 zz2 qq
  have o2 : (2 : Int32).toInt = 2 := rfl
  have t3 := own_at nn 3 zz3 qq
  have o3 : (3 : Int32).toInt = 3 := rfl
  have t4 := own_at nn 4 zz4 qq
  have o4 : (4 : Int32).toInt = 4 := rfl
  generalize (fn5 nn (0 : Int32) q0 qq) = a0 at *
  generalize (fn5 nn (1 : Int32) zz1 qq) = a1 at *
  generalize (fn5 nn (2 : Int32) zz2 qq) = a2 at *
  generalize (fn5 nn (3 : Int32) zz3 qq) = a3 at *
  generalize (fn5 nn (4 : Int32) zz4 qq) = a4 at *
  have u0 := s3 0
  have w0 := s4 0
  rw [f0] at u0 w0
  have v0 : (0 ≤ rr.toInt → a0.toInt = 1) ∧ (rr.toInt < 0 → a0.toInt = 0) := ⟨fun hh => t0.1 (by omega) (u0 hh), fun hh => t0.2.2 (w0 hh (by decide))⟩
  have u1 := s3 1
  have w1 := s4 1
  rw [f1] at u1 w1
  have v1 : (1 ≤ rr.toInt → a1.toInt = 1) ∧ (rr.toInt < 1 → a1.toInt = 0) := ⟨fun hh => t1.1 (by omega) (u1 hh), fun hh => t1.2.2 (w1 hh (by decide))⟩
  have u2 := s3 2
  have w2 := s4 2
  rw [f2] at u2 w2
  have v2 : (2 ≤ rr.toInt → a2.toInt = 1) ∧ (rr.toInt < 2 → a2.toInt = 0) := ⟨fun hh => t2.1 (by omega) (u2 hh), fun hh => t2.2.2 (w2 hh (by decide))⟩
  have u3 := s3 3
  have w3 := s4 3
  rw [f3] at u3 w3
  have v3 : (3 ≤ rr.toInt → a3.toInt = 1) ∧ (rr.toInt < 3 → a3.toInt = 0) := ⟨fun hh => t3.1 (by omega) (u3 hh), fun hh => t3.2.2 (w3 hh (by decide))⟩
  have u4 := s3 4
  have w4 := s4 4
  rw [f4] at u4 w4
  have v4 : (4 ≤ rr.toInt → a4.toInt = 1) ∧ (rr.toInt < 4 → a4.toInt = 0) := ⟨fun hh => t4.1 (by omega) (u4 hh), fun hh => t4.2.2 (w4 hh (by decide))⟩
  have b1 := c_iadd a0 a1
  have b2 := c_iadd (a0 + a1) a2
  have b3 := c_iadd (a0 + a1 + a2) a3
  have b4 := c_iadd (a0 + a1 + a2 + a3) a4
  have b5 := c_isub (a0 + a1 + a2 + a3 + a4) 1
  have r0 := rng32 ex
  rw [← h_ex] at b5
  have r1 := rng32 (a0 + a1)
  have r2 := rng32 (a0 + a1 + a2)
  have r3 := rng32 (a0 + a1 + a2 + a3)
  have r4 := rng32 (a0 + a1 + a2 + a3 + a4)
  have hr : rr.toInt = -1 ∨ rr.toInt = 0 ∨ rr.toInt = 1 ∨ rr.toInt = 2 ∨ rr.toInt = 3 ∨ rr.toInt = 4 := by omega
  clear h_ex s3 s4 h_fz t0 t1 t2 t3 t4 u0 w0 u1 w1 u2 w2 u3 w3 u4 w4
  rw [← Int32.toInt_inj]
  rcases hr with hr | hr | hr | hr | hr | hr
  · have y0 := v0.2 (by omega); have y1 := v1.2 (by omega); have y2 := v2.2 (by omega); have y3 := v3.2 (by omega); have y4 := v4.2 (by omega); clear v0 v1 v2 v3 v4; omega
  · have y0 := v0.1 (by omega); have y1 := v1.2 (by omega); have y2 := v2.2 (by omega); have y3 := v3.2 (by omega); have y4 := v4.2 (by omega); clear v0 v1 v2 v3 v4; omega
  · have y0 := v0.1 (by omega); have y1 := v1.1 (by omega); have y2 := v2.2 (by omega); have y3 := v3.2 (by omega); have y4 := v4.2 (by omega); clear v0 v1 v2 v3 v4; omega
  · have y0 := v0.1 (by omega); have y1 := v1.1 (by omega); have y2 := v2.1 (by omega); have y3 := v3.2 (by omega); have y4 := v4.2 (by omega); clear v0 v1 v2 v3 v4; omega
  · have y0 := v0.1 (by omega); have y1 := v1.1 (by omega); have y2 := v2.1 (by omega); have y3 := v3.1 (by omega); have y4 := v4.2 (by omega); clear v0 v1 v2 v3 v4; omega
  · have y0 := v0.1 (by omega); have y1 := v1.1 (by omega); have y2 := v2.1 (by omega); have y3 := v3.1 (by omega); have y4 := v4.1 (by omega); clear v0 v1 v2 v3 v4; omega
theorem pn_0 : plainName "com/example/quorumvote/quorumvote/simulation/SimulatedLogPlaceAtOrBelowPinLaw" = true := by first | (simp [plainName, overriddenIn]; done) | decide +kernel
theorem ef_0 (m : MethodId) (x0 : Int32) (x1 : Int64) (x2 : Int32) (x3 : Int32) (x4 : Int32) : entryFrame m #[(.int x0), (.long x1), (.int x2), (.int x3), (.int x4)] maxLocals = mkF m 0 #[.val (.int x0), .val (.long x1), .second, .val (.int x2), .val (.int x3), .val (.int x4), .unset, .unset, .unset, .unset, .unset, .unset, .unset, .unset, .unset, .unset, .unset, .unset, .unset, .unset, .unset, .unset] [] := by first | (simp [entryFrame, mkF, argsToLocals, Value.category, maxLocals]; done) | rfl
theorem pd_1 : parseMethodDescriptor "()V" = some ⟨[], none⟩ := by decide +kernel
theorem pd_2 : parseMethodDescriptor "(JJJ)V" = some ⟨[.long, .long, .long], none⟩ := by decide +kernel
theorem pd_3 : parseMethodDescriptor "(J)I" = some ⟨[.long], some .int⟩ := by decide +kernel
theorem pd_4 : parseMethodDescriptor "(IIJJ)I" = some ⟨[.int, .int, .long, .long], some .int⟩ := by decide +kernel
def Q0 (Z : State) (p0 : Int32) (q0 : Int64) (pg : Int32) (ph : Int32) (po : Int32) (h0 : Heap) (n0 : Nat) (v : Option Value) (h : Heap) (L : List Loc) : Prop := v = some (.int 1) ∧ Fr n0 L
set_option maxRecDepth 65536 in
set_option maxHeartbeats 40000000 in
theorem rm0 (l : Launch) (Z : State) (a0 : Array Value) (hw : ∀ d ∈ tables_1, d.before a0 Z = true) (ws : List Jvm.Cond) (p0 : Int32) (q0 : Int64) (pg : Int32) (ph : Int32) (po : Int32) (h0 : Heap) (n0 : Nat) (Z0 : n0 ≤ h0.size) :
    MetFree l x (head1 (Jvm.Cond.code x code maxLocals ret :: ws) room_1) (fun a U => a = #[(.int p0), (.long q0), (.int pg), (.int ph), (.int po)] ∧ Z.Warmed39 U.vm ∧ U.heap = h0) (fun _ _ _ _ _ => True) (fun _ U o U' => ∃ v L, o = .returned v ∧ Q0 Z p0 q0 pg ph po h0 n0 v U'.heap L ∧ FrameEnd U o U' L room_1.cells room_1.slots) := by
  refine MetFree.of_bodySF (plainFor_of_name pn_0) hisR ?_
  intro p e s m args below meth c s₁ Bd hml0 hP hK
  obtain ⟨rfl, hZ, hh⟩ := hP
  have hx := Bd.exec
  have hby := Bd.bytes
  have hml : c.maxLocals = 22 := hml0
  have hown : s.vm.findClass "com/example/quorumvote/quorumvote/simulation/SimulatedLogPlaceAtOrBelowPinLaw" = some m.cls := findClass_of_methodNamed Bd.named
  have hnm := (name_of_methodNamed Bd.named Bd.method).1
  have X0 : Stand p l e room_1 s m #[(.int p0), (.long q0), (.int pg), (.int ph), (.int po)] below meth c s₁ [] 0 0 := Stand.of_body Bd
  have e0 : s₁.heap = h0 := by rw [← hh, Bd.state]; rfl
  have N0 := Fr.nil n0
  have pre0 : ∀ t, Steps p.tables e below (s₁.setTop (mkF m 0 #[.val (.int p0), .val (.long q0), .second, .val (.int pg), .val (.int ph), .val (.int po), .unset, .unset, .unset, .unset, .unset, .unset, .unset, .unset, .unset, .unset, .unset, .unset, .unset, .unset, .unset, .unset] [])) t → Steps p.tables e below (s₁.setTop (entryFrame m #[(.int p0), (.long q0), (.int pg), (.int ph), (.int po)] maxLocals)) t := fun t k => castTop (ef_0 m p0 q0 pg ph po) k
  have pre1 : ∀ t, Steps p.tables e below (s₁.setTop (mkF m 7 #[.val (.int p0), .val (.long q0), .second, .val (.int pg), .val (.int ph), .val (.int po), .unset, .unset, .unset, .unset, .unset, .unset, .unset, .unset, .unset, .unset, .unset, .unset, .unset, .unset, .unset, .unset] [(.int ((p0 &&& (2147483647 : Int32)) % (6 : Int32)))])) t → Steps p.tables e below (s₁.setTop (entryFrame m #[(.int p0), (.long q0), (.int pg), (.int ph), (.int po)] maxLocals)) t := by
    intro t kt
    refine pre0 _ ?_
    show Steps p.tables e below (s₁.setTop (mkF m 0 #[.val (.int p0), .val (.long q0), .second, .val (.int pg), .val (.int ph), .val (.int po), .unset, .unset, .unset, .unset, .unset, .unset, .unset, .unset, .unset, .unset, .unset, .unset, .unset, .unset, .unset, .unset] [])) _
    refine XS.iloadN X0.here hx rfl (hb hby at_0) rfl ?_
    show Steps p.tables e below (s₁.setTop (mkF m 1 #[.val (.int p0), .val (.long q0), .second, .val (.int pg), .val (.int ph), .val (.int po), .unset, .unset, .unset, .unset, .unset, .unset, .unset, .unset, .unset, .unset, .unset, .unset, .unset, .unset, .unset, .unset] [(.int p0)])) _
    refine Stand.ldcI (g := (mkF m 1 #[.val (.int p0), .val (.long q0), .second, .val (.int pg), .val (.int ph), .val (.int po), .unset, .unset, .unset, .unset, .unset, .unset, .unset, .unset, .unset, .unset, .unset, .unset, .unset, .unset, .unset, .unset] [(.int p0)])) X0 hx hown (mvT hZ (hw _ (List.mem_of_getElem? (i := 0) rfl))) rfl (hb hby at_1) ?_
    show Steps p.tables e below (s₁.setTop (mkF m 3 #[.val (.int p0), .val (.long q0), .second, .val (.int pg), .val (.int ph), .val (.int po), .unset, .unset, .unset, .unset, .unset, .unset, .unset, .unset, .unset, .unset, .unset, .unset, .unset, .unset, .unset, .unset] [(.int (2147483647 : Int32)), (.int p0)])) _
    refine XS.iand X0.here hx rfl (hb hby at_3) rfl ?_
    show Steps p.tables e below (s₁.setTop (mkF m 4 #[.val (.int p0), .val (.long q0), .second, .val (.int pg), .val (.int ph), .val (.int po), .unset, .unset, .unset, .unset, .unset, .unset, .unset, .unset, .unset, .unset, .unset, .unset, .unset, .unset, .unset, .unset] [(.int (p0 &&& (2147483647 : Int32)))])) _
    refine XS.bipush X0.here hx rfl (hb hby at_4) ?_
    show Steps p.tables e below (s₁.setTop (mkF m 6 #[.val (.int p0), .val (.long q0), .second, .val (.int pg), .val (.int ph), .val (.int po), .unset, .unset, .unset, .unset, .unset, .unset, .unset, .unset, .unset, .unset, .unset, .unset, .unset, .unset, .unset, .unset] [(.int (6 : Int32)), (.int (p0 &&& (2147483647 : Int32)))])) _
    refine iremM (g := (mkF m 6 #[.val (.int p0), .val (.long q0), .second, .val (.int pg), .val (.int ph), .val (.int po), .unset, .unset, .unset, .unset, .unset, .unset, .unset, .unset, .unset, .unset, .unset, .unset, .unset, .unset, .unset, .unset] [(.int (6 : Int32)), (.int (p0 &&& (2147483647 : Int32)))])) X0 hx rfl (hb hby at_6) rfl (by decide) ?_
    exact kt
  obtain ⟨nn, h_nn⟩ : ∃ z : Int32, z = ((p0 &&& (2147483647 : Int32)) % (6 : Int32)) := ⟨_, rfl⟩
  have pre2 : ∀ t, Steps p.tables e below (s₁.setTop (mkF m 7 #[.val (.int p0), .val (.long q0), .second, .val (.int pg), .val (.int ph), .val (.int po), .unset, .unset, .unset, .unset, .unset, .unset, .unset, .unset, .unset, .unset, .unset, .unset, .unset, .unset, .unset, .unset] [(.int nn)])) t → Steps p.tables e below (s₁.setTop (entryFrame m #[(.int p0), (.long q0), (.int pg), (.int ph), (.int po)] maxLocals)) t := by
    intro t kt
    rw [h_nn] at kt
    exact pre1 _ kt
  have pre3 : ∀ t, Steps p.tables e below (s₁.setTop (mkF m 20 #[.val (.int p0), .val (.long q0), .second, .val (.int pg), .val (.int ph), .val (.int po), .val (.int nn), .val (.long q0), .second, .unset, .unset, .unset, .unset, .unset, .unset, .unset, .unset, .unset, .unset, .unset, .unset, .unset] [(.long (q0 + ((pg &&& (65535 : Int32)).toInt64)))])) t → Steps p.tables e below (s₁.setTop (entryFrame m #[(.int p0), (.long q0), (.int pg), (.int ph), (.int po)] maxLocals)) t := by
    intro t kt
    refine pre2 _ ?_
    show Steps p.tables e below (s₁.setTop (mkF m 7 #[.val (.int p0), .val (.long q0), .second, .val (.int pg), .val (.int ph), .val (.int po), .unset, .unset, .unset, .unset, .unset, .unset, .unset, .unset, .unset, .unset, .unset, .unset, .unset, .unset, .unset, .unset] [(.int nn)])) _
    refine XS.istore X0.here hx rfl (hb hby at_7) rfl (l' := #[.val (.int p0), .val (.long q0), .second, .val (.int pg), .val (.int ph), .val (.int po), .val (.int nn), .unset, .unset, .unset, .unset, .unset, .unset, .unset, .unset, .unset, .unset, .unset, .unset, .unset, .unset, .unset]) rfl ?_
    show Steps p.tables e below (s₁.setTop (mkF m 9 #[.val (.int p0), .val (.long q0), .second, .val (.int pg), .val (.int ph), .val (.int po), .val (.int nn), .unset, .unset, .unset, .unset, .unset, .unset, .unset, .unset, .unset, .unset, .unset, .unset, .unset, .unset, .unset] [])) _
    refine XS.lloadN X0.here hx rfl (hb hby at_9) rfl ?_
    show Steps p.tables e below (s₁.setTop (mkF m 10 #[.val (.int p0), .val (.long q0), .second, .val (.int pg), .val (.int ph), .val (.int po), .val (.int nn), .unset, .unset, .unset, .unset, .unset, .unset, .unset, .unset, .unset, .unset, .unset, .unset, .unset, .unset, .unset] [(.long q0)])) _
    refine XS.lstore X0.here hx rfl (hb hby at_10) rfl (l' := #[.val (.int p0), .val (.long q0), .second, .val (.int pg), .val (.int ph), .val (.int po), .val (.int nn), .val (.long q0), .second, .unset, .unset, .unset, .unset, .unset, .unset, .unset, .unset, .unset, .unset, .unset, .unset, .unset]) rfl ?_
    show Steps p.tables e below (s₁.setTop (mkF m 12 #[.val (.int p0), .val (.long q0), .second, .val (.int pg), .val (.int ph), .val (.int po), .val (.int nn), .val (.long q0), .second, .unset, .unset, .unset, .unset, .unset, .unset, .unset, .unset, .unset, .unset, .unset, .unset, .unset] [])) _
    refine XS.lload X0.here hx rfl (hb hby at_12) rfl ?_
    show Steps p.tables e below (s₁.setTop (mkF m 14 #[.val (.int p0), .val (.long q0), .second, .val (.int pg), .val (.int ph), .val (.int po), .val (.int nn), .val (.long q0), .second, .unset, .unset, .unset, .unset, .unset, .unset, .unset, .unset, .unset, .unset, .unset, .unset, .unset] [(.long q0)])) _
    refine XS.iloadN X0.here hx rfl (hb hby at_14) rfl ?_
    show Steps p.tables e below (s₁.setTop (mkF m 15 #[.val (.int p0), .val (.long q0), .second, .val (.int pg), .val (.int ph), .val (.int po), .val (.int nn), .val (.long q0), .second, .unset, .unset, .unset, .unset, .unset, .unset, .unset, .unset, .unset, .unset, .unset, .unset, .unset] [(.int pg), (.long q0)])) _
    refine Stand.ldcI (g := (mkF m 15 #[.val (.int p0), .val (.long q0), .second, .val (.int pg), .val (.int ph), .val (.int po), .val (.int nn), .val (.long q0), .second, .unset, .unset, .unset, .unset, .unset, .unset, .unset, .unset, .unset, .unset, .unset, .unset, .unset] [(.int pg), (.long q0)])) X0 hx hown (mvT hZ (hw _ (List.mem_of_getElem? (i := 1) rfl))) rfl (hb hby at_15) ?_
    show Steps p.tables e below (s₁.setTop (mkF m 17 #[.val (.int p0), .val (.long q0), .second, .val (.int pg), .val (.int ph), .val (.int po), .val (.int nn), .val (.long q0), .second, .unset, .unset, .unset, .unset, .unset, .unset, .unset, .unset, .unset, .unset, .unset, .unset, .unset] [(.int (65535 : Int32)), (.int pg), (.long q0)])) _
    refine XS.iand X0.here hx rfl (hb hby at_17) rfl ?_
    show Steps p.tables e below (s₁.setTop (mkF m 18 #[.val (.int p0), .val (.long q0), .second, .val (.int pg), .val (.int ph), .val (.int po), .val (.int nn), .val (.long q0), .second, .unset, .unset, .unset, .unset, .unset, .unset, .unset, .unset, .unset, .unset, .unset, .unset, .unset] [(.int (pg &&& (65535 : Int32))), (.long q0)])) _
    refine XS.i2l X0.here hx rfl (hb hby at_18) rfl ?_
    show Steps p.tables e below (s₁.setTop (mkF m 19 #[.val (.int p0), .val (.long q0), .second, .val (.int pg), .val (.int ph), .val (.int po), .val (.int nn), .val (.long q0), .second, .unset, .unset, .unset, .unset, .unset, .unset, .unset, .unset, .unset, .unset, .unset, .unset, .unset] [(.long ((pg &&& (65535 : Int32)).toInt64)), (.long q0)])) _
    refine XS.ladd X0.here hx rfl (hb hby at_19) rfl ?_
    exact kt
  obtain ⟨zz1, h_zz1⟩ : ∃ z : Int64, z = (q0 + ((pg &&& (65535 : Int32)).toInt64)) := ⟨_, rfl⟩
  have pre4 : ∀ t, Steps p.tables e below (s₁.setTop (mkF m 20 #[.val (.int p0), .val (.long q0), .second, .val (.int pg), .val (.int ph), .val (.int po), .val (.int nn), .val (.long q0), .second, .unset, .unset, .unset, .unset, .unset, .unset, .unset, .unset, .unset, .unset, .unset, .unset, .unset] [(.long zz1)])) t → Steps p.tables e below (s₁.setTop (entryFrame m #[(.int p0), (.long q0), (.int pg), (.int ph), (.int po)] maxLocals)) t := by
    intro t kt
    rw [h_zz1] at kt
    exact pre3 _ kt
  have pre5 : ∀ t, Steps p.tables e below (s₁.setTop (mkF m 30 #[.val (.int p0), .val (.long q0), .second, .val (.int pg), .val (.int ph), .val (.int po), .val (.int nn), .val (.long q0), .second, .val (.long zz1), .second, .unset, .unset, .unset, .unset, .unset, .unset, .unset, .unset, .unset, .unset, .unset] [(.long (zz1 + (((pg.toUInt32 >>> ((16 : Int32) &&& 31).toUInt32).toInt32).toInt64)))])) t → Steps p.tables e below (s₁.setTop (entryFrame m #[(.int p0), (.long q0), (.int pg), (.int ph), (.int po)] maxLocals)) t := by
    intro t kt
    refine pre4 _ ?_
    show Steps p.tables e below (s₁.setTop (mkF m 20 #[.val (.int p0), .val (.long q0), .second, .val (.int pg), .val (.int ph), .val (.int po), .val (.int nn), .val (.long q0), .second, .unset, .unset, .unset, .unset, .unset, .unset, .unset, .unset, .unset, .unset, .unset, .unset, .unset] [(.long zz1)])) _
    refine XS.lstore X0.here hx rfl (hb hby at_20) rfl (l' := #[.val (.int p0), .val (.long q0), .second, .val (.int pg), .val (.int ph), .val (.int po), .val (.int nn), .val (.long q0), .second, .val (.long zz1), .second, .unset, .unset, .unset, .unset, .unset, .unset, .unset, .unset, .unset, .unset, .unset]) rfl ?_
    show Steps p.tables e below (s₁.setTop (mkF m 22 #[.val (.int p0), .val (.long q0), .second, .val (.int pg), .val (.int ph), .val (.int po), .val (.int nn), .val (.long q0), .second, .val (.long zz1), .second, .unset, .unset, .unset, .unset, .unset, .unset, .unset, .unset, .unset, .unset, .unset] [])) _
    refine XS.lload X0.here hx rfl (hb hby at_22) rfl ?_
    show Steps p.tables e below (s₁.setTop (mkF m 24 #[.val (.int p0), .val (.long q0), .second, .val (.int pg), .val (.int ph), .val (.int po), .val (.int nn), .val (.long q0), .second, .val (.long zz1), .second, .unset, .unset, .unset, .unset, .unset, .unset, .unset, .unset, .unset, .unset, .unset] [(.long zz1)])) _
    refine XS.iloadN X0.here hx rfl (hb hby at_24) rfl ?_
    show Steps p.tables e below (s₁.setTop (mkF m 25 #[.val (.int p0), .val (.long q0), .second, .val (.int pg), .val (.int ph), .val (.int po), .val (.int nn), .val (.long q0), .second, .val (.long zz1), .second, .unset, .unset, .unset, .unset, .unset, .unset, .unset, .unset, .unset, .unset, .unset] [(.int pg), (.long zz1)])) _
    refine XS.bipush X0.here hx rfl (hb hby at_25) ?_
    show Steps p.tables e below (s₁.setTop (mkF m 27 #[.val (.int p0), .val (.long q0), .second, .val (.int pg), .val (.int ph), .val (.int po), .val (.int nn), .val (.long q0), .second, .val (.long zz1), .second, .unset, .unset, .unset, .unset, .unset, .unset, .unset, .unset, .unset, .unset, .unset] [(.int (16 : Int32)), (.int pg), (.long zz1)])) _
    refine XS.iushr X0.here hx rfl (hb hby at_27) rfl ?_
    show Steps p.tables e below (s₁.setTop (mkF m 28 #[.val (.int p0), .val (.long q0), .second, .val (.int pg), .val (.int ph), .val (.int po), .val (.int nn), .val (.long q0), .second, .val (.long zz1), .second, .unset, .unset, .unset, .unset, .unset, .unset, .unset, .unset, .unset, .unset, .unset] [(.int ((pg.toUInt32 >>> ((16 : Int32) &&& 31).toUInt32).toInt32)), (.long zz1)])) _
    refine XS.i2l X0.here hx rfl (hb hby at_28) rfl ?_
    show Steps p.tables e below (s₁.setTop (mkF m 29 #[.val (.int p0), .val (.long q0), .second, .val (.int pg), .val (.int ph), .val (.int po), .val (.int nn), .val (.long q0), .second, .val (.long zz1), .second, .unset, .unset, .unset, .unset, .unset, .unset, .unset, .unset, .unset, .unset, .unset] [(.long (((pg.toUInt32 >>> ((16 : Int32) &&& 31).toUInt32).toInt32).toInt64)), (.long zz1)])) _
    refine XS.ladd X0.here hx rfl (hb hby at_29) rfl ?_
    exact kt
  obtain ⟨zz2, h_zz2⟩ : ∃ z : Int64, z = (zz1 + (((pg.toUInt32 >>> ((16 : Int32) &&& 31).toUInt32).toInt32).toInt64)) := ⟨_, rfl⟩
  have pre6 : ∀ t, Steps p.tables e below (s₁.setTop (mkF m 30 #[.val (.int p0), .val (.long q0), .second, .val (.int pg), .val (.int ph), .val (.int po), .val (.int nn), .val (.long q0), .second, .val (.long zz1), .second, .unset, .unset, .unset, .unset, .unset, .unset, .unset, .unset, .unset, .unset, .unset] [(.long zz2)])) t → Steps p.tables e below (s₁.setTop (entryFrame m #[(.int p0), (.long q0), (.int pg), (.int ph), (.int po)] maxLocals)) t := by
    intro t kt
    rw [h_zz2] at kt
    exact pre5 _ kt
  have pre7 : ∀ t, Steps p.tables e below (s₁.setTop (mkF m 41 #[.val (.int p0), .val (.long q0), .second, .val (.int pg), .val (.int ph), .val (.int po), .val (.int nn), .val (.long q0), .second, .val (.long zz1), .second, .val (.long zz2), .second, .unset, .unset, .unset, .unset, .unset, .unset, .unset, .unset, .unset] [(.long (zz2 + ((ph &&& (65535 : Int32)).toInt64)))])) t → Steps p.tables e below (s₁.setTop (entryFrame m #[(.int p0), (.long q0), (.int pg), (.int ph), (.int po)] maxLocals)) t := by
    intro t kt
    refine pre6 _ ?_
    show Steps p.tables e below (s₁.setTop (mkF m 30 #[.val (.int p0), .val (.long q0), .second, .val (.int pg), .val (.int ph), .val (.int po), .val (.int nn), .val (.long q0), .second, .val (.long zz1), .second, .unset, .unset, .unset, .unset, .unset, .unset, .unset, .unset, .unset, .unset, .unset] [(.long zz2)])) _
    refine XS.lstore X0.here hx rfl (hb hby at_30) rfl (l' := #[.val (.int p0), .val (.long q0), .second, .val (.int pg), .val (.int ph), .val (.int po), .val (.int nn), .val (.long q0), .second, .val (.long zz1), .second, .val (.long zz2), .second, .unset, .unset, .unset, .unset, .unset, .unset, .unset, .unset, .unset]) rfl ?_
    show Steps p.tables e below (s₁.setTop (mkF m 32 #[.val (.int p0), .val (.long q0), .second, .val (.int pg), .val (.int ph), .val (.int po), .val (.int nn), .val (.long q0), .second, .val (.long zz1), .second, .val (.long zz2), .second, .unset, .unset, .unset, .unset, .unset, .unset, .unset, .unset, .unset] [])) _
    refine XS.lload X0.here hx rfl (hb hby at_32) rfl ?_
    show Steps p.tables e below (s₁.setTop (mkF m 34 #[.val (.int p0), .val (.long q0), .second, .val (.int pg), .val (.int ph), .val (.int po), .val (.int nn), .val (.long q0), .second, .val (.long zz1), .second, .val (.long zz2), .second, .unset, .unset, .unset, .unset, .unset, .unset, .unset, .unset, .unset] [(.long zz2)])) _
    refine XS.iload X0.here hx rfl (hb hby at_34) rfl ?_
    show Steps p.tables e below (s₁.setTop (mkF m 36 #[.val (.int p0), .val (.long q0), .second, .val (.int pg), .val (.int ph), .val (.int po), .val (.int nn), .val (.long q0), .second, .val (.long zz1), .second, .val (.long zz2), .second, .unset, .unset, .unset, .unset, .unset, .unset, .unset, .unset, .unset] [(.int ph), (.long zz2)])) _
    refine Stand.ldcI (g := (mkF m 36 #[.val (.int p0), .val (.long q0), .second, .val (.int pg), .val (.int ph), .val (.int po), .val (.int nn), .val (.long q0), .second, .val (.long zz1), .second, .val (.long zz2), .second, .unset, .unset, .unset, .unset, .unset, .unset, .unset, .unset, .unset] [(.int ph), (.long zz2)])) X0 hx hown (mvT hZ (hw _ (List.mem_of_getElem? (i := 1) rfl))) rfl (hb hby at_36) ?_
    show Steps p.tables e below (s₁.setTop (mkF m 38 #[.val (.int p0), .val (.long q0), .second, .val (.int pg), .val (.int ph), .val (.int po), .val (.int nn), .val (.long q0), .second, .val (.long zz1), .second, .val (.long zz2), .second, .unset, .unset, .unset, .unset, .unset, .unset, .unset, .unset, .unset] [(.int (65535 : Int32)), (.int ph), (.long zz2)])) _
    refine XS.iand X0.here hx rfl (hb hby at_38) rfl ?_
    show Steps p.tables e below (s₁.setTop (mkF m 39 #[.val (.int p0), .val (.long q0), .second, .val (.int pg), .val (.int ph), .val (.int po), .val (.int nn), .val (.long q0), .second, .val (.long zz1), .second, .val (.long zz2), .second, .unset, .unset, .unset, .unset, .unset, .unset, .unset, .unset, .unset] [(.int (ph &&& (65535 : Int32))), (.long zz2)])) _
    refine XS.i2l X0.here hx rfl (hb hby at_39) rfl ?_
    show Steps p.tables e below (s₁.setTop (mkF m 40 #[.val (.int p0), .val (.long q0), .second, .val (.int pg), .val (.int ph), .val (.int po), .val (.int nn), .val (.long q0), .second, .val (.long zz1), .second, .val (.long zz2), .second, .unset, .unset, .unset, .unset, .unset, .unset, .unset, .unset, .unset] [(.long ((ph &&& (65535 : Int32)).toInt64)), (.long zz2)])) _
    refine XS.ladd X0.here hx rfl (hb hby at_40) rfl ?_
    exact kt
  obtain ⟨zz3, h_zz3⟩ : ∃ z : Int64, z = (zz2 + ((ph &&& (65535 : Int32)).toInt64)) := ⟨_, rfl⟩
  have pre8 : ∀ t, Steps p.tables e below (s₁.setTop (mkF m 41 #[.val (.int p0), .val (.long q0), .second, .val (.int pg), .val (.int ph), .val (.int po), .val (.int nn), .val (.long q0), .second, .val (.long zz1), .second, .val (.long zz2), .second, .unset, .unset, .unset, .unset, .unset, .unset, .unset, .unset, .unset] [(.long zz3)])) t → Steps p.tables e below (s₁.setTop (entryFrame m #[(.int p0), (.long q0), (.int pg), (.int ph), (.int po)] maxLocals)) t := by
    intro t kt
    rw [h_zz3] at kt
    exact pre7 _ kt
  have pre9 : ∀ t, Steps p.tables e below (s₁.setTop (mkF m 52 #[.val (.int p0), .val (.long q0), .second, .val (.int pg), .val (.int ph), .val (.int po), .val (.int nn), .val (.long q0), .second, .val (.long zz1), .second, .val (.long zz2), .second, .val (.long zz3), .second, .unset, .unset, .unset, .unset, .unset, .unset, .unset] [(.long (zz3 + (((ph.toUInt32 >>> ((16 : Int32) &&& 31).toUInt32).toInt32).toInt64)))])) t → Steps p.tables e below (s₁.setTop (entryFrame m #[(.int p0), (.long q0), (.int pg), (.int ph), (.int po)] maxLocals)) t := by
    intro t kt
    refine pre8 _ ?_
    show Steps p.tables e below (s₁.setTop (mkF m 41 #[.val (.int p0), .val (.long q0), .second, .val (.int pg), .val (.int ph), .val (.int po), .val (.int nn), .val (.long q0), .second, .val (.long zz1), .second, .val (.long zz2), .second, .unset, .unset, .unset, .unset, .unset, .unset, .unset, .unset, .unset] [(.long zz3)])) _
    refine XS.lstore X0.here hx rfl (hb hby at_41) rfl (l' := #[.val (.int p0), .val (.long q0), .second, .val (.int pg), .val (.int ph), .val (.int po), .val (.int nn), .val (.long q0), .second, .val (.long zz1), .second, .val (.long zz2), .second, .val (.long zz3), .second, .unset, .unset, .unset, .unset, .unset, .unset, .unset]) rfl ?_
    show Steps p.tables e below (s₁.setTop (mkF m 43 #[.val (.int p0), .val (.long q0), .second, .val (.int pg), .val (.int ph), .val (.int po), .val (.int nn), .val (.long q0), .second, .val (.long zz1), .second, .val (.long zz2), .second, .val (.long zz3), .second, .unset, .unset, .unset, .unset, .unset, .unset, .unset] [])) _
    refine XS.lload X0.here hx rfl (hb hby at_43) rfl ?_
    show Steps p.tables e below (s₁.setTop (mkF m 45 #[.val (.int p0), .val (.long q0), .second, .val (.int pg), .val (.int ph), .val (.int po), .val (.int nn), .val (.long q0), .second, .val (.long zz1), .second, .val (.long zz2), .second, .val (.long zz3), .second, .unset, .unset, .unset, .unset, .unset, .unset, .unset] [(.long zz3)])) _
    refine XS.iload X0.here hx rfl (hb hby at_45) rfl ?_
    show Steps p.tables e below (s₁.setTop (mkF m 47 #[.val (.int p0), .val (.long q0), .second, .val (.int pg), .val (.int ph), .val (.int po), .val (.int nn), .val (.long q0), .second, .val (.long zz1), .second, .val (.long zz2), .second, .val (.long zz3), .second, .unset, .unset, .unset, .unset, .unset, .unset, .unset] [(.int ph), (.long zz3)])) _
    refine XS.bipush X0.here hx rfl (hb hby at_47) ?_
    show Steps p.tables e below (s₁.setTop (mkF m 49 #[.val (.int p0), .val (.long q0), .second, .val (.int pg), .val (.int ph), .val (.int po), .val (.int nn), .val (.long q0), .second, .val (.long zz1), .second, .val (.long zz2), .second, .val (.long zz3), .second, .unset, .unset, .unset, .unset, .unset, .unset, .unset] [(.int (16 : Int32)), (.int ph), (.long zz3)])) _
    refine XS.iushr X0.here hx rfl (hb hby at_49) rfl ?_
    show Steps p.tables e below (s₁.setTop (mkF m 50 #[.val (.int p0), .val (.long q0), .second, .val (.int pg), .val (.int ph), .val (.int po), .val (.int nn), .val (.long q0), .second, .val (.long zz1), .second, .val (.long zz2), .second, .val (.long zz3), .second, .unset, .unset, .unset, .unset, .unset, .unset, .unset] [(.int ((ph.toUInt32 >>> ((16 : Int32) &&& 31).toUInt32).toInt32)), (.long zz3)])) _
    refine XS.i2l X0.here hx rfl (hb hby at_50) rfl ?_
    show Steps p.tables e below (s₁.setTop (mkF m 51 #[.val (.int p0), .val (.long q0), .second, .val (.int pg), .val (.int ph), .val (.int po), .val (.int nn), .val (.long q0), .second, .val (.long zz1), .second, .val (.long zz2), .second, .val (.long zz3), .second, .unset, .unset, .unset, .unset, .unset, .unset, .unset] [(.long (((ph.toUInt32 >>> ((16 : Int32) &&& 31).toUInt32).toInt32).toInt64)), (.long zz3)])) _
    refine XS.ladd X0.here hx rfl (hb hby at_51) rfl ?_
    exact kt
  obtain ⟨zz4, h_zz4⟩ : ∃ z : Int64, z = (zz3 + (((ph.toUInt32 >>> ((16 : Int32) &&& 31).toUInt32).toInt32).toInt64)) := ⟨_, rfl⟩
  have pre10 : ∀ t, Steps p.tables e below (s₁.setTop (mkF m 52 #[.val (.int p0), .val (.long q0), .second, .val (.int pg), .val (.int ph), .val (.int po), .val (.int nn), .val (.long q0), .second, .val (.long zz1), .second, .val (.long zz2), .second, .val (.long zz3), .second, .unset, .unset, .unset, .unset, .unset, .unset, .unset] [(.long zz4)])) t → Steps p.tables e below (s₁.setTop (entryFrame m #[(.int p0), (.long q0), (.int pg), (.int ph), (.int po)] maxLocals)) t := by
    intro t kt
    rw [h_zz4] at kt
    exact pre9 _ kt
  have pre11 : ∀ t, Steps p.tables e below (s₁.setTop (mkF m 59 #[.val (.int p0), .val (.long q0), .second, .val (.int pg), .val (.int ph), .val (.int po), .val (.int nn), .val (.long q0), .second, .val (.long zz1), .second, .val (.long zz2), .second, .val (.long zz3), .second, .val (.long zz4), .second, .unset, .unset, .unset, .unset, .unset] [(.int (XT.cmpL zz1 q0))])) t → Steps p.tables e below (s₁.setTop (entryFrame m #[(.int p0), (.long q0), (.int pg), (.int ph), (.int po)] maxLocals)) t := by
    intro t kt
    refine pre10 _ ?_
    show Steps p.tables e below (s₁.setTop (mkF m 52 #[.val (.int p0), .val (.long q0), .second, .val (.int pg), .val (.int ph), .val (.int po), .val (.int nn), .val (.long q0), .second, .val (.long zz1), .second, .val (.long zz2), .second, .val (.long zz3), .second, .unset, .unset, .unset, .unset, .unset, .unset, .unset] [(.long zz4)])) _
    refine XS.lstore X0.here hx rfl (hb hby at_52) rfl (l' := #[.val (.int p0), .val (.long q0), .second, .val (.int pg), .val (.int ph), .val (.int po), .val (.int nn), .val (.long q0), .second, .val (.long zz1), .second, .val (.long zz2), .second, .val (.long zz3), .second, .val (.long zz4), .second, .unset, .unset, .unset, .unset, .unset]) rfl ?_
    show Steps p.tables e below (s₁.setTop (mkF m 54 #[.val (.int p0), .val (.long q0), .second, .val (.int pg), .val (.int ph), .val (.int po), .val (.int nn), .val (.long q0), .second, .val (.long zz1), .second, .val (.long zz2), .second, .val (.long zz3), .second, .val (.long zz4), .second, .unset, .unset, .unset, .unset, .unset] [])) _
    refine XS.lload X0.here hx rfl (hb hby at_54) rfl ?_
    show Steps p.tables e below (s₁.setTop (mkF m 56 #[.val (.int p0), .val (.long q0), .second, .val (.int pg), .val (.int ph), .val (.int po), .val (.int nn), .val (.long q0), .second, .val (.long zz1), .second, .val (.long zz2), .second, .val (.long zz3), .second, .val (.long zz4), .second, .unset, .unset, .unset, .unset, .unset] [(.long zz1)])) _
    refine XS.lload X0.here hx rfl (hb hby at_56) rfl ?_
    show Steps p.tables e below (s₁.setTop (mkF m 58 #[.val (.int p0), .val (.long q0), .second, .val (.int pg), .val (.int ph), .val (.int po), .val (.int nn), .val (.long q0), .second, .val (.long zz1), .second, .val (.long zz2), .second, .val (.long zz3), .second, .val (.long zz4), .second, .unset, .unset, .unset, .unset, .unset] [(.long q0), (.long zz1)])) _
    refine XT.lcmp X0.here hx rfl (hb hby at_58) rfl ?_
    exact kt
  by_cases hc59_12 : zz1 < q0
  · skip
    have pre13 : ∀ t, Steps p.tables e below (s₁.setTop (mkF m 87 #[.val (.int p0), .val (.long q0), .second, .val (.int pg), .val (.int ph), .val (.int po), .val (.int nn), .val (.long q0), .second, .val (.long zz1), .second, .val (.long zz2), .second, .val (.long zz3), .second, .val (.long zz4), .second, .unset, .unset, .unset, .unset, .unset] [(.int (1 : Int32))])) t → Steps p.tables e below (s₁.setTop (entryFrame m #[(.int p0), (.long q0), (.int pg), (.int ph), (.int po)] maxLocals)) t := by
      intro t kt
      refine pre11 _ ?_
      show Steps p.tables e below (s₁.setTop (mkF m 59 #[.val (.int p0), .val (.long q0), .second, .val (.int pg), .val (.int ph), .val (.int po), .val (.int nn), .val (.long q0), .second, .val (.long zz1), .second, .val (.long zz2), .second, .val (.long zz3), .second, .val (.long zz4), .second, .unset, .unset, .unset, .unset, .unset] [(.int (XT.cmpL zz1 q0))])) _
      refine XS.ifYes X0.here hx rfl (pc0 := 59) (pc' := 86) rfl (hb hby at_59) rfl (XT.ll_lt_t hc59_12) (by decide) (by decide) ?_
      show Steps p.tables e below (s₁.setTop (mkF m 86 #[.val (.int p0), .val (.long q0), .second, .val (.int pg), .val (.int ph), .val (.int po), .val (.int nn), .val (.long q0), .second, .val (.long zz1), .second, .val (.long zz2), .second, .val (.long zz3), .second, .val (.long zz4), .second, .unset, .unset, .unset, .unset, .unset] [])) _
      refine XS.iconst X0.here hx rfl (hb hby at_86) ?_
      exact kt
    obtain ⟨fs, hr, hrun, hended, hW, hsame⟩ := X0.leave (v := some (.int (1 : Int32))) (fun h => by rw [Bd.returns] at h; cases h)
    refine ⟨_, _, pre13 _ ?_, hrun, hended, _, _, rfl, ?_, ⟨_, rfl⟩, hW, hsame.mono (by decide) (by decide)⟩
    · show Steps p.tables e below (s₁.setTop (mkF m 87 #[.val (.int p0), .val (.long q0), .second, .val (.int pg), .val (.int ph), .val (.int po), .val (.int nn), .val (.long q0), .second, .val (.long zz1), .second, .val (.long zz2), .second, .val (.long zz3), .second, .val (.long zz4), .second, .unset, .unset, .unset, .unset, .unset] [(.int (1 : Int32))])) _
      exact retN X0 hx (t := .boolean) Bd.returns (by simp) (hb hby at_87) hr
    · show Q0 Z p0 q0 pg ph po h0 n0 _ s₁.heap _
      rw [e0]
      exact ⟨rfl, N0⟩
  · skip
    have pre14 : ∀ t, Steps p.tables e below (s₁.setTop (mkF m 67 #[.val (.int p0), .val (.long q0), .second, .val (.int pg), .val (.int ph), .val (.int po), .val (.int nn), .val (.long q0), .second, .val (.long zz1), .second, .val (.long zz2), .second, .val (.long zz3), .second, .val (.long zz4), .second, .unset, .unset, .unset, .unset, .unset] [(.int (XT.cmpL zz2 zz1))])) t → Steps p.tables e below (s₁.setTop (entryFrame m #[(.int p0), (.long q0), (.int pg), (.int ph), (.int po)] maxLocals)) t := by
      intro t kt
      refine pre11 _ ?_
      show Steps p.tables e below (s₁.setTop (mkF m 59 #[.val (.int p0), .val (.long q0), .second, .val (.int pg), .val (.int ph), .val (.int po), .val (.int nn), .val (.long q0), .second, .val (.long zz1), .second, .val (.long zz2), .second, .val (.long zz3), .second, .val (.long zz4), .second, .unset, .unset, .unset, .unset, .unset] [(.int (XT.cmpL zz1 q0))])) _
      refine XS.ifNo X0.here hx rfl (hb hby at_59) rfl (XT.ll_lt_f hc59_12) ?_
      show Steps p.tables e below (s₁.setTop (mkF m 62 #[.val (.int p0), .val (.long q0), .second, .val (.int pg), .val (.int ph), .val (.int po), .val (.int nn), .val (.long q0), .second, .val (.long zz1), .second, .val (.long zz2), .second, .val (.long zz3), .second, .val (.long zz4), .second, .unset, .unset, .unset, .unset, .unset] [])) _
      refine XS.lload X0.here hx rfl (hb hby at_62) rfl ?_
      show Steps p.tables e below (s₁.setTop (mkF m 64 #[.val (.int p0), .val (.long q0), .second, .val (.int pg), .val (.int ph), .val (.int po), .val (.int nn), .val (.long q0), .second, .val (.long zz1), .second, .val (.long zz2), .second, .val (.long zz3), .second, .val (.long zz4), .second, .unset, .unset, .unset, .unset, .unset] [(.long zz2)])) _
      refine XS.lload X0.here hx rfl (hb hby at_64) rfl ?_
      show Steps p.tables e below (s₁.setTop (mkF m 66 #[.val (.int p0), .val (.long q0), .second, .val (.int pg), .val (.int ph), .val (.int po), .val (.int nn), .val (.long q0), .second, .val (.long zz1), .second, .val (.long zz2), .second, .val (.long zz3), .second, .val (.long zz4), .second, .unset, .unset, .unset, .unset, .unset] [(.long zz1), (.long zz2)])) _
      refine XT.lcmp X0.here hx rfl (hb hby at_66) rfl ?_
      exact kt
    by_cases hc67_15 : zz2 < zz1
    · skip
      have pre16 : ∀ t, Steps p.tables e below (s₁.setTop (mkF m 87 #[.val (.int p0), .val (.long q0), .second, .val (.int pg), .val (.int ph), .val (.int po), .val (.int nn), .val (.long q0), .second, .val (.long zz1), .second, .val (.long zz2), .second, .val (.long zz3), .second, .val (.long zz4), .second, .unset, .unset, .unset, .unset, .unset] [(.int (1 : Int32))])) t → Steps p.tables e below (s₁.setTop (entryFrame m #[(.int p0), (.long q0), (.int pg), (.int ph), (.int po)] maxLocals)) t := by
        intro t kt
        refine pre14 _ ?_
        show Steps p.tables e below (s₁.setTop (mkF m 67 #[.val (.int p0), .val (.long q0), .second, .val (.int pg), .val (.int ph), .val (.int po), .val (.int nn), .val (.long q0), .second, .val (.long zz1), .second, .val (.long zz2), .second, .val (.long zz3), .second, .val (.long zz4), .second, .unset, .unset, .unset, .unset, .unset] [(.int (XT.cmpL zz2 zz1))])) _
        refine XS.ifYes X0.here hx rfl (pc0 := 67) (pc' := 86) rfl (hb hby at_67) rfl (XT.ll_lt_t hc67_15) (by decide) (by decide) ?_
        show Steps p.tables e below (s₁.setTop (mkF m 86 #[.val (.int p0), .val (.long q0), .second, .val (.int pg), .val (.int ph), .val (.int po), .val (.int nn), .val (.long q0), .second, .val (.long zz1), .second, .val (.long zz2), .second, .val (.long zz3), .second, .val (.long zz4), .second, .unset, .unset, .unset, .unset, .unset] [])) _
        refine XS.iconst X0.here hx rfl (hb hby at_86) ?_
        exact kt
      obtain ⟨fs, hr, hrun, hended, hW, hsame⟩ := X0.leave (v := some (.int (1 : Int32))) (fun h => by rw [Bd.returns] at h; cases h)
      refine ⟨_, _, pre16 _ ?_, hrun, hended, _, _, rfl, ?_, ⟨_, rfl⟩, hW, hsame.mono (by decide) (by decide)⟩
      · show Steps p.tables e below (s₁.setTop (mkF m 87 #[.val (.int p0), .val (.long q0), .second, .val (.int pg), .val (.int ph), .val (.int po), .val (.int nn), .val (.long q0), .second, .val (.long zz1), .second, .val (.long zz2), .second, .val (.long zz3), .second, .val (.long zz4), .second, .unset, .unset, .unset, .unset, .unset] [(.int (1 : Int32))])) _
        exact retN X0 hx (t := .boolean) Bd.returns (by simp) (hb hby at_87) hr
      · show Q0 Z p0 q0 pg ph po h0 n0 _ s₁.heap _
        rw [e0]
        exact ⟨rfl, N0⟩
    · skip
      have pre17 : ∀ t, Steps p.tables e below (s₁.setTop (mkF m 75 #[.val (.int p0), .val (.long q0), .second, .val (.int pg), .val (.int ph), .val (.int po), .val (.int nn), .val (.long q0), .second, .val (.long zz1), .second, .val (.long zz2), .second, .val (.long zz3), .second, .val (.long zz4), .second, .unset, .unset, .unset, .unset, .unset] [(.int (XT.cmpL zz3 zz2))])) t → Steps p.tables e below (s₁.setTop (entryFrame m #[(.int p0), (.long q0), (.int pg), (.int ph), (.int po)] maxLocals)) t := by
        intro t kt
        refine pre14 _ ?_
        show Steps p.tables e below (s₁.setTop (mkF m 67 #[.val (.int p0), .val (.long q0), .second, .val (.int pg), .val (.int ph), .val (.int po), .val (.int nn), .val (.long q0), .second, .val (.long zz1), .second, .val (.long zz2), .second, .val (.long zz3), .second, .val (.long zz4), .second, .unset, .unset, .unset, .unset, .unset] [(.int (XT.cmpL zz2 zz1))])) _
        refine XS.ifNo X0.here hx rfl (hb hby at_67) rfl (XT.ll_lt_f hc67_15) ?_
        show Steps p.tables e below (s₁.setTop (mkF m 70 #[.val (.int p0), .val (.long q0), .second, .val (.int pg), .val (.int ph), .val (.int po), .val (.int nn), .val (.long q0), .second, .val (.long zz1), .second, .val (.long zz2), .second, .val (.long zz3), .second, .val (.long zz4), .second, .unset, .unset, .unset, .unset, .unset] [])) _
        refine XS.lload X0.here hx rfl (hb hby at_70) rfl ?_
        show Steps p.tables e below (s₁.setTop (mkF m 72 #[.val (.int p0), .val (.long q0), .second, .val (.int pg), .val (.int ph), .val (.int po), .val (.int nn), .val (.long q0), .second, .val (.long zz1), .second, .val (.long zz2), .second, .val (.long zz3), .second, .val (.long zz4), .second, .unset, .unset, .unset, .unset, .unset] [(.long zz3)])) _
        refine XS.lload X0.here hx rfl (hb hby at_72) rfl ?_
        show Steps p.tables e below (s₁.setTop (mkF m 74 #[.val (.int p0), .val (.long q0), .second, .val (.int pg), .val (.int ph), .val (.int po), .val (.int nn), .val (.long q0), .second, .val (.long zz1), .second, .val (.long zz2), .second, .val (.long zz3), .second, .val (.long zz4), .second, .unset, .unset, .unset, .unset, .unset] [(.long zz2), (.long zz3)])) _
        refine XT.lcmp X0.here hx rfl (hb hby at_74) rfl ?_
        exact kt
      by_cases hc75_18 : zz3 < zz2
      · skip
        have pre19 : ∀ t, Steps p.tables e below (s₁.setTop (mkF m 87 #[.val (.int p0), .val (.long q0), .second, .val (.int pg), .val (.int ph), .val (.int po), .val (.int nn), .val (.long q0), .second, .val (.long zz1), .second, .val (.long zz2), .second, .val (.long zz3), .second, .val (.long zz4), .second, .unset, .unset, .unset, .unset, .unset] [(.int (1 : Int32))])) t → Steps p.tables e below (s₁.setTop (entryFrame m #[(.int p0), (.long q0), (.int pg), (.int ph), (.int po)] maxLocals)) t := by
          intro t kt
          refine pre17 _ ?_
          show Steps p.tables e below (s₁.setTop (mkF m 75 #[.val (.int p0), .val (.long q0), .second, .val (.int pg), .val (.int ph), .val (.int po), .val (.int nn), .val (.long q0), .second, .val (.long zz1), .second, .val (.long zz2), .second, .val (.long zz3), .second, .val (.long zz4), .second, .unset, .unset, .unset, .unset, .unset] [(.int (XT.cmpL zz3 zz2))])) _
          refine XS.ifYes X0.here hx rfl (pc0 := 75) (pc' := 86) rfl (hb hby at_75) rfl (XT.ll_lt_t hc75_18) (by decide) (by decide) ?_
          show Steps p.tables e below (s₁.setTop (mkF m 86 #[.val (.int p0), .val (.long q0), .second, .val (.int pg), .val (.int ph), .val (.int po), .val (.int nn), .val (.long q0), .second, .val (.long zz1), .second, .val (.long zz2), .second, .val (.long zz3), .second, .val (.long zz4), .second, .unset, .unset, .unset, .unset, .unset] [])) _
          refine XS.iconst X0.here hx rfl (hb hby at_86) ?_
          exact kt
        obtain ⟨fs, hr, hrun, hended, hW, hsame⟩ := X0.leave (v := some (.int (1 : Int32))) (fun h => by rw [Bd.returns] at h; cases h)
        refine ⟨_, _, pre19 _ ?_, hrun, hended, _, _, rfl, ?_, ⟨_, rfl⟩, hW, hsame.mono (by decide) (by decide)⟩
        · show Steps p.tables e below (s₁.setTop (mkF m 87 #[.val (.int p0), .val (.long q0), .second, .val (.int pg), .val (.int ph), .val (.int po), .val (.int nn), .val (.long q0), .second, .val (.long zz1), .second, .val (.long zz2), .second, .val (.long zz3), .second, .val (.long zz4), .second, .unset, .unset, .unset, .unset, .unset] [(.int (1 : Int32))])) _
          exact retN X0 hx (t := .boolean) Bd.returns (by simp) (hb hby at_87) hr
        · show Q0 Z p0 q0 pg ph po h0 n0 _ s₁.heap _
          rw [e0]
          exact ⟨rfl, N0⟩
      · skip
        have pre20 : ∀ t, Steps p.tables e below (s₁.setTop (mkF m 83 #[.val (.int p0), .val (.long q0), .second, .val (.int pg), .val (.int ph), .val (.int po), .val (.int nn), .val (.long q0), .second, .val (.long zz1), .second, .val (.long zz2), .second, .val (.long zz3), .second, .val (.long zz4), .second, .unset, .unset, .unset, .unset, .unset] [(.int (XT.cmpL zz4 zz3))])) t → Steps p.tables e below (s₁.setTop (entryFrame m #[(.int p0), (.long q0), (.int pg), (.int ph), (.int po)] maxLocals)) t := by
          intro t kt
          refine pre17 _ ?_
          show Steps p.tables e below (s₁.setTop (mkF m 75 #[.val (.int p0), .val (.long q0), .second, .val (.int pg), .val (.int ph), .val (.int po), .val (.int nn), .val (.long q0), .second, .val (.long zz1), .second, .val (.long zz2), .second, .val (.long zz3), .second, .val (.long zz4), .second, .unset, .unset, .unset, .unset, .unset] [(.int (XT.cmpL zz3 zz2))])) _
          refine XS.ifNo X0.here hx rfl (hb hby at_75) rfl (XT.ll_lt_f hc75_18) ?_
          show Steps p.tables e below (s₁.setTop (mkF m 78 #[.val (.int p0), .val (.long q0), .second, .val (.int pg), .val (.int ph), .val (.int po), .val (.int nn), .val (.long q0), .second, .val (.long zz1), .second, .val (.long zz2), .second, .val (.long zz3), .second, .val (.long zz4), .second, .unset, .unset, .unset, .unset, .unset] [])) _
          refine XS.lload X0.here hx rfl (hb hby at_78) rfl ?_
          show Steps p.tables e below (s₁.setTop (mkF m 80 #[.val (.int p0), .val (.long q0), .second, .val (.int pg), .val (.int ph), .val (.int po), .val (.int nn), .val (.long q0), .second, .val (.long zz1), .second, .val (.long zz2), .second, .val (.long zz3), .second, .val (.long zz4), .second, .unset, .unset, .unset, .unset, .unset] [(.long zz4)])) _
          refine XS.lload X0.here hx rfl (hb hby at_80) rfl ?_
          show Steps p.tables e below (s₁.setTop (mkF m 82 #[.val (.int p0), .val (.long q0), .second, .val (.int pg), .val (.int ph), .val (.int po), .val (.int nn), .val (.long q0), .second, .val (.long zz1), .second, .val (.long zz2), .second, .val (.long zz3), .second, .val (.long zz4), .second, .unset, .unset, .unset, .unset, .unset] [(.long zz3), (.long zz4)])) _
          refine XT.lcmp X0.here hx rfl (hb hby at_82) rfl ?_
          exact kt
        by_cases hc83_21 : zz4 < zz3
        · skip
          have pre22 : ∀ t, Steps p.tables e below (s₁.setTop (mkF m 87 #[.val (.int p0), .val (.long q0), .second, .val (.int pg), .val (.int ph), .val (.int po), .val (.int nn), .val (.long q0), .second, .val (.long zz1), .second, .val (.long zz2), .second, .val (.long zz3), .second, .val (.long zz4), .second, .unset, .unset, .unset, .unset, .unset] [(.int (1 : Int32))])) t → Steps p.tables e below (s₁.setTop (entryFrame m #[(.int p0), (.long q0), (.int pg), (.int ph), (.int po)] maxLocals)) t := by
            intro t kt
            refine pre20 _ ?_
            show Steps p.tables e below (s₁.setTop (mkF m 83 #[.val (.int p0), .val (.long q0), .second, .val (.int pg), .val (.int ph), .val (.int po), .val (.int nn), .val (.long q0), .second, .val (.long zz1), .second, .val (.long zz2), .second, .val (.long zz3), .second, .val (.long zz4), .second, .unset, .unset, .unset, .unset, .unset] [(.int (XT.cmpL zz4 zz3))])) _
            refine XS.ifNo X0.here hx rfl (hb hby at_83) rfl (XT.ll_ge_f hc83_21) ?_
            show Steps p.tables e below (s₁.setTop (mkF m 86 #[.val (.int p0), .val (.long q0), .second, .val (.int pg), .val (.int ph), .val (.int po), .val (.int nn), .val (.long q0), .second, .val (.long zz1), .second, .val (.long zz2), .second, .val (.long zz3), .second, .val (.long zz4), .second, .unset, .unset, .unset, .unset, .unset] [])) _
            refine XS.iconst X0.here hx rfl (hb hby at_86) ?_
            exact kt
          obtain ⟨fs, hr, hrun, hended, hW, hsame⟩ := X0.leave (v := some (.int (1 : Int32))) (fun h => by rw [Bd.returns] at h; cases h)
          refine ⟨_, _, pre22 _ ?_, hrun, hended, _, _, rfl, ?_, ⟨_, rfl⟩, hW, hsame.mono (by decide) (by decide)⟩
          · show Steps p.tables e below (s₁.setTop (mkF m 87 #[.val (.int p0), .val (.long q0), .second, .val (.int pg), .val (.int ph), .val (.int po), .val (.int nn), .val (.long q0), .second, .val (.long zz1), .second, .val (.long zz2), .second, .val (.long zz3), .second, .val (.long zz4), .second, .unset, .unset, .unset, .unset, .unset] [(.int (1 : Int32))])) _
            exact retN X0 hx (t := .boolean) Bd.returns (by simp) (hb hby at_87) hr
          · show Q0 Z p0 q0 pg ph po h0 n0 _ s₁.heap _
            rw [e0]
            exact ⟨rfl, N0⟩
        · skip
          have z1 := hc59_12
          have z2 := hc67_15
          have z3 := hc75_18
          have z4 := hc83_21
          have pre23 : ∀ t, Steps p.tables e below (s₁.setTop (mkF m 97 #[.val (.int p0), .val (.long q0), .second, .val (.int pg), .val (.int ph), .val (.int po), .val (.int nn), .val (.long q0), .second, .val (.long zz1), .second, .val (.long zz2), .second, .val (.long zz3), .second, .val (.long zz4), .second, .unset, .unset, .unset, .unset, .unset] [(.long (q0 + ((po % (300000 : Int32)).toInt64)))])) t → Steps p.tables e below (s₁.setTop (entryFrame m #[(.int p0), (.long q0), (.int pg), (.int ph), (.int po)] maxLocals)) t := by
            intro t kt
            refine pre20 _ ?_
            show Steps p.tables e below (s₁.setTop (mkF m 83 #[.val (.int p0), .val (.long q0), .second, .val (.int pg), .val (.int ph), .val (.int po), .val (.int nn), .val (.long q0), .second, .val (.long zz1), .second, .val (.long zz2), .second, .val (.long zz3), .second, .val (.long zz4), .second, .unset, .unset, .unset, .unset, .unset] [(.int (XT.cmpL zz4 zz3))])) _
            refine XS.ifYes X0.here hx rfl (pc0 := 83) (pc' := 88) rfl (hb hby at_83) rfl (XT.ll_ge_t hc83_21) (by decide) (by decide) ?_
            show Steps p.tables e below (s₁.setTop (mkF m 88 #[.val (.int p0), .val (.long q0), .second, .val (.int pg), .val (.int ph), .val (.int po), .val (.int nn), .val (.long q0), .second, .val (.long zz1), .second, .val (.long zz2), .second, .val (.long zz3), .second, .val (.long zz4), .second, .unset, .unset, .unset, .unset, .unset] [])) _
            refine XS.lload X0.here hx rfl (hb hby at_88) rfl ?_
            show Steps p.tables e below (s₁.setTop (mkF m 90 #[.val (.int p0), .val (.long q0), .second, .val (.int pg), .val (.int ph), .val (.int po), .val (.int nn), .val (.long q0), .second, .val (.long zz1), .second, .val (.long zz2), .second, .val (.long zz3), .second, .val (.long zz4), .second, .unset, .unset, .unset, .unset, .unset] [(.long q0)])) _
            refine XS.iload X0.here hx rfl (hb hby at_90) rfl ?_
            show Steps p.tables e below (s₁.setTop (mkF m 92 #[.val (.int p0), .val (.long q0), .second, .val (.int pg), .val (.int ph), .val (.int po), .val (.int nn), .val (.long q0), .second, .val (.long zz1), .second, .val (.long zz2), .second, .val (.long zz3), .second, .val (.long zz4), .second, .unset, .unset, .unset, .unset, .unset] [(.int po), (.long q0)])) _
            refine Stand.ldcI (g := (mkF m 92 #[.val (.int p0), .val (.long q0), .second, .val (.int pg), .val (.int ph), .val (.int po), .val (.int nn), .val (.long q0), .second, .val (.long zz1), .second, .val (.long zz2), .second, .val (.long zz3), .second, .val (.long zz4), .second, .unset, .unset, .unset, .unset, .unset] [(.int po), (.long q0)])) X0 hx hown (mvT hZ (hw _ (List.mem_of_getElem? (i := 2) rfl))) rfl (hb hby at_92) ?_
            show Steps p.tables e below (s₁.setTop (mkF m 94 #[.val (.int p0), .val (.long q0), .second, .val (.int pg), .val (.int ph), .val (.int po), .val (.int nn), .val (.long q0), .second, .val (.long zz1), .second, .val (.long zz2), .second, .val (.long zz3), .second, .val (.long zz4), .second, .unset, .unset, .unset, .unset, .unset] [(.int (300000 : Int32)), (.int po), (.long q0)])) _
            refine iremM (g := (mkF m 94 #[.val (.int p0), .val (.long q0), .second, .val (.int pg), .val (.int ph), .val (.int po), .val (.int nn), .val (.long q0), .second, .val (.long zz1), .second, .val (.long zz2), .second, .val (.long zz3), .second, .val (.long zz4), .second, .unset, .unset, .unset, .unset, .unset] [(.int (300000 : Int32)), (.int po), (.long q0)])) X0 hx rfl (hb hby at_94) rfl (by decide) ?_
            show Steps p.tables e below (s₁.setTop (mkF m 95 #[.val (.int p0), .val (.long q0), .second, .val (.int pg), .val (.int ph), .val (.int po), .val (.int nn), .val (.long q0), .second, .val (.long zz1), .second, .val (.long zz2), .second, .val (.long zz3), .second, .val (.long zz4), .second, .unset, .unset, .unset, .unset, .unset] [(.int (po % (300000 : Int32))), (.long q0)])) _
            refine XS.i2l X0.here hx rfl (hb hby at_95) rfl ?_
            show Steps p.tables e below (s₁.setTop (mkF m 96 #[.val (.int p0), .val (.long q0), .second, .val (.int pg), .val (.int ph), .val (.int po), .val (.int nn), .val (.long q0), .second, .val (.long zz1), .second, .val (.long zz2), .second, .val (.long zz3), .second, .val (.long zz4), .second, .unset, .unset, .unset, .unset, .unset] [(.long ((po % (300000 : Int32)).toInt64)), (.long q0)])) _
            refine XS.ladd X0.here hx rfl (hb hby at_96) rfl ?_
            exact kt
          obtain ⟨qq, h_qq⟩ : ∃ z : Int64, z = (q0 + ((po % (300000 : Int32)).toInt64)) := ⟨_, rfl⟩
          have pre24 : ∀ t, Steps p.tables e below (s₁.setTop (mkF m 97 #[.val (.int p0), .val (.long q0), .second, .val (.int pg), .val (.int ph), .val (.int po), .val (.int nn), .val (.long q0), .second, .val (.long zz1), .second, .val (.long zz2), .second, .val (.long zz3), .second, .val (.long zz4), .second, .unset, .unset, .unset, .unset, .unset] [(.long qq)])) t → Steps p.tables e below (s₁.setTop (entryFrame m #[(.int p0), (.long q0), (.int pg), (.int ph), (.int po)] maxLocals)) t := by
            intro t kt
            rw [h_qq] at kt
            exact pre23 _ kt
          obtain ⟨T25, gh25, X25, hE25, E25, A25, D25, -, st25⟩ := newO X0 hx hZ hown (hw _ (List.mem_of_getElem? (i := 3) rfl)) (hw _ (List.mem_of_getElem? (i := 4) rfl)) (hw _ (List.mem_of_getElem? (i := 5) rfl)) e0 (g := (mkF m 99 #[.val (.int p0), .val (.long q0), .second, .val (.int pg), .val (.int ph), .val (.int po), .val (.int nn), .val (.long q0), .second, .val (.long zz1), .second, .val (.long zz2), .second, .val (.long zz3), .second, .val (.long zz4), .second, .val (.long qq), .second, .unset, .unset, .unset] [])) rfl (hb hby at_99) (by decide) (by decide)
          obtain ⟨ol, g25⟩ : ∃ z, z = h0.size := ⟨_, rfl⟩
          rw [← g25] at A25 D25 st25
          have g_ol : n0 ≤ ol := Nat.le_trans Z0 (Nat.le_of_eq g25.symm)
          have Z26 := Nat.le_trans Z0 E25.1
          have F_zxids_ol : Fld Z gh25 ol "com/example/quorumvote/quorumvote/simulation/SimulatedLog" "zxids" "[J" .null := D25 (Or.inl (hw _ (List.mem_of_getElem? (i := 17) rfl))) (ty := (.array .long)) (by decide)
          have F_writes_ol : Fld Z gh25 ol "com/example/quorumvote/quorumvote/simulation/SimulatedLog" "writes" "[J" .null := D25 (Or.inl (hw _ (List.mem_of_getElem? (i := 19) rfl))) (ty := (.array .long)) (by decide)
          have F_tags_ol : Fld Z gh25 ol "com/example/quorumvote/quorumvote/simulation/SimulatedLog" "tags" "[J" .null := D25 (Or.inl (hw _ (List.mem_of_getElem? (i := 21) rfl))) (ty := (.array .long)) (by decide)
          have F_size_ol : Fld Z gh25 ol "com/example/quorumvote/quorumvote/simulation/SimulatedLog" "size" "I" (.int (0 : Int32)) := D25 (Or.inl (hw _ (List.mem_of_getElem? (i := 23) rfl))) (ty := .int) (by decide)
          have F_onDisk_ol : Fld Z gh25 ol "com/example/quorumvote/quorumvote/simulation/SimulatedLog" "onDisk" "I" (.int (0 : Int32)) := D25 (Or.inl (hw _ (List.mem_of_getElem? (i := 25) rfl))) (ty := .int) (by decide)
          have F_applied_ol : Fld Z gh25 ol "com/example/quorumvote/quorumvote/simulation/SimulatedLog" "applied" "I" (.int (0 : Int32)) := D25 (Or.inl (hw _ (List.mem_of_getElem? (i := 27) rfl))) (ty := .int) (by decide)
          obtain ⟨_, _, ⟨T27, L27, k27, n27⟩, -, X27, ⟨Lc27, hQ27, l27, y27, z27⟩, st27⟩ := X25.specialBack hx (y := (⟨"com/example/quorumvote/quorumvote/simulation/SimulatedLog", "<init>", "()V"⟩ : MethodName)) rfl hown (mvT hZ (hw _ (List.mem_of_getElem? (i := 6) rfl))) (mvT hZ (hw _ (List.mem_of_getElem? (i := 7) rfl))) (mvT hZ (hw _ (List.mem_of_getElem? (i := 8) rfl))) (by decide) (backOf (W := 1) (rm1 l Z a0 hw [] ol gh25 n0 Z26 A25 F_zxids_ol F_writes_ol F_tags_ol F_size_ol F_onDisk_ol F_applied_ol g_ol) hZ (hw _ (List.mem_of_getElem? (i := 8) rfl)) (hw _ (List.mem_of_getElem? (i := 5) rfl)) (by decide) (by decide)) (g := (mkF m 103 #[.val (.int p0), .val (.long q0), .second, .val (.int pg), .val (.int ph), .val (.int po), .val (.int nn), .val (.long q0), .second, .val (.long zz1), .second, .val (.long zz2), .second, .val (.long zz3), .second, .val (.long zz4), .second, .val (.long qq), .second, .unset, .unset, .unset] [(.ref ol), (.ref ol)])) rfl (by rw [hml]; rfl) (Steps.refl _) (a := ol) (argsL := []) (rest := [(.ref ol)]) (lenOf pd_1 rfl) rfl (by show 2 * 0 + _ ≤ _; exact Nat.le_of_eq rfl) (hb hby at_103) (fun _ _ => ⟨rfl, hE25, (by decide : 1 + 3 ≤ _), (by decide : 9 + 48 ≤ _)⟩)
          dsimp only [Pt.U, Pt.locs, Pt.cells, Pt.slots] at X27 l27 y27 z27 st27 hQ27
          subst l27 y27 z27
          obtain ⟨bz, bw, bt, rfl, N27q, K27, h_bz, h_bw, h_bt, ne_bz_bw, ne_bz_bt, ne_bw_bt, p27_E, p27_z, p27_w, p27_t, p27_s, p27_Az, p27_Aw, p27_At⟩ := hQ27
          have N27 := Fr.app N0 N27q
          have ne_ol_bz : ol ≠ bz := Nat.ne_of_lt (Nat.lt_of_lt_of_le A25.lt h_bz)
          have g_bz : n0 ≤ bz := Nat.le_trans Z26 h_bz
          have ne_ol_bw : ol ≠ bw := Nat.ne_of_lt (Nat.lt_of_lt_of_le A25.lt h_bw)
          have g_bw : n0 ≤ bw := Nat.le_trans Z26 h_bw
          have ne_ol_bt : ol ≠ bt := Nat.ne_of_lt (Nat.lt_of_lt_of_le A25.lt h_bt)
          have g_bt : n0 ≤ bt := Nat.le_trans Z26 h_bt
          have f28 := A25.keep K27
          have Z35 := Nat.le_trans Z26 K27.1
          have pre36 : ∀ t, Steps p.tables e below (T27.setTop (mkF m 110 #[.val (.int p0), .val (.long q0), .second, .val (.int pg), .val (.int ph), .val (.int po), .val (.int nn), .val (.long q0), .second, .val (.long zz1), .second, .val (.long zz2), .second, .val (.long zz3), .second, .val (.long zz4), .second, .val (.long qq), .second, .val (.ref ol), .unset, .unset] [(.int nn)])) t → Steps p.tables e below (s₁.setTop (entryFrame m #[(.int p0), (.long q0), (.int pg), (.int ph), (.int po)] maxLocals)) t := by
            intro t kt
            refine pre24 _ ?_
            show Steps p.tables e below (s₁.setTop (mkF m 97 #[.val (.int p0), .val (.long q0), .second, .val (.int pg), .val (.int ph), .val (.int po), .val (.int nn), .val (.long q0), .second, .val (.long zz1), .second, .val (.long zz2), .second, .val (.long zz3), .second, .val (.long zz4), .second, .unset, .unset, .unset, .unset, .unset] [(.long qq)])) _
            refine XS.lstore X0.here hx rfl (hb hby at_97) rfl (l' := #[.val (.int p0), .val (.long q0), .second, .val (.int pg), .val (.int ph), .val (.int po), .val (.int nn), .val (.long q0), .second, .val (.long zz1), .second, .val (.long zz2), .second, .val (.long zz3), .second, .val (.long zz4), .second, .val (.long qq), .second, .unset, .unset, .unset]) rfl ?_
            show Steps p.tables e below (s₁.setTop (mkF m 99 #[.val (.int p0), .val (.long q0), .second, .val (.int pg), .val (.int ph), .val (.int po), .val (.int nn), .val (.long q0), .second, .val (.long zz1), .second, .val (.long zz2), .second, .val (.long zz3), .second, .val (.long zz4), .second, .val (.long qq), .second, .unset, .unset, .unset] [])) _
            refine st25 _ ?_
            show Steps p.tables e below (T25.setTop (mkF m 102 #[.val (.int p0), .val (.long q0), .second, .val (.int pg), .val (.int ph), .val (.int po), .val (.int nn), .val (.long q0), .second, .val (.long zz1), .second, .val (.long zz2), .second, .val (.long zz3), .second, .val (.long zz4), .second, .val (.long qq), .second, .unset, .unset, .unset] [(.ref ol)])) _
            refine XS.dup X25.here hx rfl (hb hby at_102) rfl rfl ?_
            show Steps p.tables e below (T25.setTop (mkF m 103 #[.val (.int p0), .val (.long q0), .second, .val (.int pg), .val (.int ph), .val (.int po), .val (.int nn), .val (.long q0), .second, .val (.long zz1), .second, .val (.long zz2), .second, .val (.long zz3), .second, .val (.long zz4), .second, .val (.long qq), .second, .unset, .unset, .unset] [(.ref ol), (.ref ol)])) _
            refine st27.trans ?_
            show Steps p.tables e below (T27.setTop (mkF m 106 #[.val (.int p0), .val (.long q0), .second, .val (.int pg), .val (.int ph), .val (.int po), .val (.int nn), .val (.long q0), .second, .val (.long zz1), .second, .val (.long zz2), .second, .val (.long zz3), .second, .val (.long zz4), .second, .val (.long qq), .second, .unset, .unset, .unset] [(.ref ol)])) _
            refine XS.astore X27.here hx rfl (hb hby at_106) rfl rfl (l' := #[.val (.int p0), .val (.long q0), .second, .val (.int pg), .val (.int ph), .val (.int po), .val (.int nn), .val (.long q0), .second, .val (.long zz1), .second, .val (.long zz2), .second, .val (.long zz3), .second, .val (.long zz4), .second, .val (.long qq), .second, .val (.ref ol), .unset, .unset]) rfl ?_
            show Steps p.tables e below (T27.setTop (mkF m 108 #[.val (.int p0), .val (.long q0), .second, .val (.int pg), .val (.int ph), .val (.int po), .val (.int nn), .val (.long q0), .second, .val (.long zz1), .second, .val (.long zz2), .second, .val (.long zz3), .second, .val (.long zz4), .second, .val (.long qq), .second, .val (.ref ol), .unset, .unset] [])) _
            refine XS.iload X27.here hx rfl (hb hby at_108) rfl ?_
            exact kt
          by_cases hc110_37 : (0 : Int32) < nn
          · skip
            obtain ⟨cq38, kq38, q38a, q38b, q38c⟩ := isOf hZ rfl p27_E
            obtain ⟨_, _, ⟨T38, L38, k38, n38⟩, -, X38, ⟨Lc38, hQ38, l38, y38, z38⟩, st38⟩ := X27.virtualBack hx (y := (⟨"com/example/quorumvote/quorumvote/simulation/SimulatedLog", "append", "(JJJ)V"⟩ : MethodName)) (z := (⟨"com/example/quorumvote/quorumvote/simulation/SimulatedLog", "append", "(JJJ)V"⟩ : MethodName)) hown (mvT hZ (hw _ (List.mem_of_getElem? (i := 37) rfl))) (mvT hZ (hw _ (List.mem_of_getElem? (i := 38) rfl))) (notFace_of_selects (args := #[]) (mvT hZ (hw _ (List.mem_of_getElem? (i := 40) rfl)))) (mvT hZ (hw _ (List.mem_of_getElem? (i := 40) rfl))) (mvT hZ (hw _ (List.mem_of_getElem? (i := 39) rfl))) (by decide) (backOf (W := 0) (rm6 l Z a0 hw [] ol q0 (1 : Int64) (0 : Int64) bz bw bt (0 : Int32) (fun _ => 0) (fun _ => 0) (fun _ => 0) 0 T27.heap n0 Z35 p27_E p27_z p27_w p27_t p27_s p27_Az p27_Aw p27_At rfl (by decide) g_ol g_bz g_bw g_bt ne_ol_bz ne_ol_bw ne_ol_bt ne_bz_bw ne_bz_bt ne_bw_bt) hZ (hw _ (List.mem_of_getElem? (i := 41) rfl)) (hw _ (List.mem_of_getElem? (i := 5) rfl)) (by decide) (by decide)) q38a q38c (g := (mkF m 119 #[.val (.int p0), .val (.long q0), .second, .val (.int pg), .val (.int ph), .val (.int po), .val (.int nn), .val (.long q0), .second, .val (.long zz1), .second, .val (.long zz2), .second, .val (.long zz3), .second, .val (.long zz4), .second, .val (.long qq), .second, .val (.ref ol), .unset, .unset] [(.long (0 : Int64)), (.long (1 : Int64)), (.long q0), (.ref ol)])) rfl (by rw [hml]; rfl) (Steps.refl _) (argsL := [(.long q0), (.long (1 : Int64)), (.long (0 : Int64))]) (rest := []) (lenOf pd_2 rfl) rfl (by show 2 * 0 + _ ≤ _; exact Nat.le_of_eq rfl) (hb hby at_119) (fun _ _ => ⟨rfl, rfl, (by decide : 4 + 0 ≤ _), (by decide : 57 + 0 ≤ _)⟩)
            dsimp only [Pt.U, Pt.locs, Pt.cells, Pt.slots] at X38 l38 y38 z38 st38 hQ38
            subst l38 y38 z38
            obtain ⟨rfl, N38q, K38, p38_0, p38_1, p38_2, p38_3, p38_4, p38_5, p38_6, p38_7⟩ := hQ38
            have N38 := Fr.app N27 N38q
            have f39 := p27_E.keep K38
            have Z47 := Nat.le_trans Z35 K38.1
            have pre48 : ∀ t, Steps p.tables e below (T38.setTop (mkF m 125 #[.val (.int p0), .val (.long q0), .second, .val (.int pg), .val (.int ph), .val (.int po), .val (.int nn), .val (.long q0), .second, .val (.long zz1), .second, .val (.long zz2), .second, .val (.long zz3), .second, .val (.long zz4), .second, .val (.long qq), .second, .val (.ref ol), .unset, .unset] [(.int (1 : Int32)), (.int nn)])) t → Steps p.tables e below (s₁.setTop (entryFrame m #[(.int p0), (.long q0), (.int pg), (.int ph), (.int po)] maxLocals)) t := by
              intro t kt
              refine pre36 _ ?_
              show Steps p.tables e below (T27.setTop (mkF m 110 #[.val (.int p0), .val (.long q0), .second, .val (.int pg), .val (.int ph), .val (.int po), .val (.int nn), .val (.long q0), .second, .val (.long zz1), .second, .val (.long zz2), .second, .val (.long zz3), .second, .val (.long zz4), .second, .val (.long qq), .second, .val (.ref ol), .unset, .unset] [(.int nn)])) _
              refine XS.ifNo X27.here hx rfl (hb hby at_110) rfl (XT.i0_le_f hc110_37) ?_
              show Steps p.tables e below (T27.setTop (mkF m 113 #[.val (.int p0), .val (.long q0), .second, .val (.int pg), .val (.int ph), .val (.int po), .val (.int nn), .val (.long q0), .second, .val (.long zz1), .second, .val (.long zz2), .second, .val (.long zz3), .second, .val (.long zz4), .second, .val (.long qq), .second, .val (.ref ol), .unset, .unset] [])) _
              refine XS.aload X27.here hx rfl (hb hby at_113) rfl rfl ?_
              show Steps p.tables e below (T27.setTop (mkF m 115 #[.val (.int p0), .val (.long q0), .second, .val (.int pg), .val (.int ph), .val (.int po), .val (.int nn), .val (.long q0), .second, .val (.long zz1), .second, .val (.long zz2), .second, .val (.long zz3), .second, .val (.long zz4), .second, .val (.long qq), .second, .val (.ref ol), .unset, .unset] [(.ref ol)])) _
              refine XS.lload X27.here hx rfl (hb hby at_115) rfl ?_
              show Steps p.tables e below (T27.setTop (mkF m 117 #[.val (.int p0), .val (.long q0), .second, .val (.int pg), .val (.int ph), .val (.int po), .val (.int nn), .val (.long q0), .second, .val (.long zz1), .second, .val (.long zz2), .second, .val (.long zz3), .second, .val (.long zz4), .second, .val (.long qq), .second, .val (.ref ol), .unset, .unset] [(.long q0), (.ref ol)])) _
              refine XS.lconst X27.here hx rfl (hb hby at_117) ?_
              show Steps p.tables e below (T27.setTop (mkF m 118 #[.val (.int p0), .val (.long q0), .second, .val (.int pg), .val (.int ph), .val (.int po), .val (.int nn), .val (.long q0), .second, .val (.long zz1), .second, .val (.long zz2), .second, .val (.long zz3), .second, .val (.long zz4), .second, .val (.long qq), .second, .val (.ref ol), .unset, .unset] [(.long (1 : Int64)), (.long q0), (.ref ol)])) _
              refine XS.lconst X27.here hx rfl (hb hby at_118) ?_
              show Steps p.tables e below (T27.setTop (mkF m 119 #[.val (.int p0), .val (.long q0), .second, .val (.int pg), .val (.int ph), .val (.int po), .val (.int nn), .val (.long q0), .second, .val (.long zz1), .second, .val (.long zz2), .second, .val (.long zz3), .second, .val (.long zz4), .second, .val (.long qq), .second, .val (.ref ol), .unset, .unset] [(.long (0 : Int64)), (.long (1 : Int64)), (.long q0), (.ref ol)])) _
              refine st38.trans ?_
              show Steps p.tables e below (T38.setTop (mkF m 122 #[.val (.int p0), .val (.long q0), .second, .val (.int pg), .val (.int ph), .val (.int po), .val (.int nn), .val (.long q0), .second, .val (.long zz1), .second, .val (.long zz2), .second, .val (.long zz3), .second, .val (.long zz4), .second, .val (.long qq), .second, .val (.ref ol), .unset, .unset] [])) _
              refine XS.iload X38.here hx rfl (hb hby at_122) rfl ?_
              show Steps p.tables e below (T38.setTop (mkF m 124 #[.val (.int p0), .val (.long q0), .second, .val (.int pg), .val (.int ph), .val (.int po), .val (.int nn), .val (.long q0), .second, .val (.long zz1), .second, .val (.long zz2), .second, .val (.long zz3), .second, .val (.long zz4), .second, .val (.long qq), .second, .val (.ref ol), .unset, .unset] [(.int nn)])) _
              refine XS.iconst X38.here hx rfl (hb hby at_124) ?_
              exact kt
            by_cases hc125_49 : (1 : Int32) < nn
            · skip
              obtain ⟨cq50, kq50, q50a, q50b, q50c⟩ := isOf hZ rfl p38_0
              obtain ⟨_, _, ⟨T50, L50, k50, n50⟩, -, X50, ⟨Lc50, hQ50, l50, y50, z50⟩, st50⟩ := X38.virtualBack hx (y := (⟨"com/example/quorumvote/quorumvote/simulation/SimulatedLog", "append", "(JJJ)V"⟩ : MethodName)) (z := (⟨"com/example/quorumvote/quorumvote/simulation/SimulatedLog", "append", "(JJJ)V"⟩ : MethodName)) hown (mvT hZ (hw _ (List.mem_of_getElem? (i := 37) rfl))) (mvT hZ (hw _ (List.mem_of_getElem? (i := 38) rfl))) (notFace_of_selects (args := #[]) (mvT hZ (hw _ (List.mem_of_getElem? (i := 40) rfl)))) (mvT hZ (hw _ (List.mem_of_getElem? (i := 40) rfl))) (mvT hZ (hw _ (List.mem_of_getElem? (i := 39) rfl))) (by decide) (backOf (W := 0) (rm6 l Z a0 hw [] ol zz1 (2 : Int64) (0 : Int64) bz bw bt (1 : Int32) (owUp (fun _ => 0) 0 q0) (owUp (fun _ => 0) 0 (1 : Int64)) (owUp (fun _ => 0) 0 (0 : Int64)) 1 T38.heap n0 Z47 p38_0 p38_1 p38_2 p38_3 p38_4 p38_5 p38_6 p38_7 rfl (by decide) g_ol g_bz g_bw g_bt ne_ol_bz ne_ol_bw ne_ol_bt ne_bz_bw ne_bz_bt ne_bw_bt) hZ (hw _ (List.mem_of_getElem? (i := 41) rfl)) (hw _ (List.mem_of_getElem? (i := 5) rfl)) (by decide) (by decide)) q50a q50c (g := (mkF m 136 #[.val (.int p0), .val (.long q0), .second, .val (.int pg), .val (.int ph), .val (.int po), .val (.int nn), .val (.long q0), .second, .val (.long zz1), .second, .val (.long zz2), .second, .val (.long zz3), .second, .val (.long zz4), .second, .val (.long qq), .second, .val (.ref ol), .unset, .unset] [(.long (0 : Int64)), (.long (2 : Int64)), (.long zz1), (.ref ol)])) rfl (by rw [hml]; rfl) (Steps.refl _) (argsL := [(.long zz1), (.long (2 : Int64)), (.long (0 : Int64))]) (rest := []) (lenOf pd_2 rfl) rfl (by show 2 * 0 + _ ≤ _; exact Nat.le_of_eq rfl) (hb hby at_136) (fun _ _ => ⟨rfl, rfl, (by decide : 4 + 0 ≤ _), (by decide : 57 + 0 ≤ _)⟩)
              dsimp only [Pt.U, Pt.locs, Pt.cells, Pt.slots] at X50 l50 y50 z50 st50 hQ50
              subst l50 y50 z50
              obtain ⟨rfl, N50q, K50, p50_0, p50_1, p50_2, p50_3, p50_4, p50_5, p50_6, p50_7⟩ := hQ50
              have N50 := Fr.app N38 N50q
              have f51 := p38_0.keep K50
              have Z59 := Nat.le_trans Z47 K50.1
              have pre60 : ∀ t, Steps p.tables e below (T50.setTop (mkF m 142 #[.val (.int p0), .val (.long q0), .second, .val (.int pg), .val (.int ph), .val (.int po), .val (.int nn), .val (.long q0), .second, .val (.long zz1), .second, .val (.long zz2), .second, .val (.long zz3), .second, .val (.long zz4), .second, .val (.long qq), .second, .val (.ref ol), .unset, .unset] [(.int (2 : Int32)), (.int nn)])) t → Steps p.tables e below (s₁.setTop (entryFrame m #[(.int p0), (.long q0), (.int pg), (.int ph), (.int po)] maxLocals)) t := by
                intro t kt
                refine pre48 _ ?_
                show Steps p.tables e below (T38.setTop (mkF m 125 #[.val (.int p0), .val (.long q0), .second, .val (.int pg), .val (.int ph), .val (.int po), .val (.int nn), .val (.long q0), .second, .val (.long zz1), .second, .val (.long zz2), .second, .val (.long zz3), .second, .val (.long zz4), .second, .val (.long qq), .second, .val (.ref ol), .unset, .unset] [(.int (1 : Int32)), (.int nn)])) _
                refine XS.icmpNo X38.here hx rfl (hb hby at_125) rfl (XT.ii_le_f hc125_49) ?_
                show Steps p.tables e below (T38.setTop (mkF m 128 #[.val (.int p0), .val (.long q0), .second, .val (.int pg), .val (.int ph), .val (.int po), .val (.int nn), .val (.long q0), .second, .val (.long zz1), .second, .val (.long zz2), .second, .val (.long zz3), .second, .val (.long zz4), .second, .val (.long qq), .second, .val (.ref ol), .unset, .unset] [])) _
                refine XS.aload X38.here hx rfl (hb hby at_128) rfl rfl ?_
                show Steps p.tables e below (T38.setTop (mkF m 130 #[.val (.int p0), .val (.long q0), .second, .val (.int pg), .val (.int ph), .val (.int po), .val (.int nn), .val (.long q0), .second, .val (.long zz1), .second, .val (.long zz2), .second, .val (.long zz3), .second, .val (.long zz4), .second, .val (.long qq), .second, .val (.ref ol), .unset, .unset] [(.ref ol)])) _
                refine XS.lload X38.here hx rfl (hb hby at_130) rfl ?_
                show Steps p.tables e below (T38.setTop (mkF m 132 #[.val (.int p0), .val (.long q0), .second, .val (.int pg), .val (.int ph), .val (.int po), .val (.int nn), .val (.long q0), .second, .val (.long zz1), .second, .val (.long zz2), .second, .val (.long zz3), .second, .val (.long zz4), .second, .val (.long qq), .second, .val (.ref ol), .unset, .unset] [(.long zz1), (.ref ol)])) _
                refine Stand.ldc2J (g := (mkF m 132 #[.val (.int p0), .val (.long q0), .second, .val (.int pg), .val (.int ph), .val (.int po), .val (.int nn), .val (.long q0), .second, .val (.long zz1), .second, .val (.long zz2), .second, .val (.long zz3), .second, .val (.long zz4), .second, .val (.long qq), .second, .val (.ref ol), .unset, .unset] [(.long zz1), (.ref ol)])) X38 hx hown (mvT hZ (hw _ (List.mem_of_getElem? (i := 42) rfl))) rfl (hb hby at_132) ?_
                show Steps p.tables e below (T38.setTop (mkF m 135 #[.val (.int p0), .val (.long q0), .second, .val (.int pg), .val (.int ph), .val (.int po), .val (.int nn), .val (.long q0), .second, .val (.long zz1), .second, .val (.long zz2), .second, .val (.long zz3), .second, .val (.long zz4), .second, .val (.long qq), .second, .val (.ref ol), .unset, .unset] [(.long (2 : Int64)), (.long zz1), (.ref ol)])) _
                refine XS.lconst X38.here hx rfl (hb hby at_135) ?_
                show Steps p.tables e below (T38.setTop (mkF m 136 #[.val (.int p0), .val (.long q0), .second, .val (.int pg), .val (.int ph), .val (.int po), .val (.int nn), .val (.long q0), .second, .val (.long zz1), .second, .val (.long zz2), .second, .val (.long zz3), .second, .val (.long zz4), .second, .val (.long qq), .second, .val (.ref ol), .unset, .unset] [(.long (0 : Int64)), (.long (2 : Int64)), (.long zz1), (.ref ol)])) _
                refine st50.trans ?_
                show Steps p.tables e below (T50.setTop (mkF m 139 #[.val (.int p0), .val (.long q0), .second, .val (.int pg), .val (.int ph), .val (.int po), .val (.int nn), .val (.long q0), .second, .val (.long zz1), .second, .val (.long zz2), .second, .val (.long zz3), .second, .val (.long zz4), .second, .val (.long qq), .second, .val (.ref ol), .unset, .unset] [])) _
                refine XS.iload X50.here hx rfl (hb hby at_139) rfl ?_
                show Steps p.tables e below (T50.setTop (mkF m 141 #[.val (.int p0), .val (.long q0), .second, .val (.int pg), .val (.int ph), .val (.int po), .val (.int nn), .val (.long q0), .second, .val (.long zz1), .second, .val (.long zz2), .second, .val (.long zz3), .second, .val (.long zz4), .second, .val (.long qq), .second, .val (.ref ol), .unset, .unset] [(.int nn)])) _
                refine XS.iconst X50.here hx rfl (hb hby at_141) ?_
                exact kt
              by_cases hc142_61 : (2 : Int32) < nn
              · skip
                obtain ⟨cq62, kq62, q62a, q62b, q62c⟩ := isOf hZ rfl p50_0
                obtain ⟨_, _, ⟨T62, L62, k62, n62⟩, -, X62, ⟨Lc62, hQ62, l62, y62, z62⟩, st62⟩ := X50.virtualBack hx (y := (⟨"com/example/quorumvote/quorumvote/simulation/SimulatedLog", "append", "(JJJ)V"⟩ : MethodName)) (z := (⟨"com/example/quorumvote/quorumvote/simulation/SimulatedLog", "append", "(JJJ)V"⟩ : MethodName)) hown (mvT hZ (hw _ (List.mem_of_getElem? (i := 37) rfl))) (mvT hZ (hw _ (List.mem_of_getElem? (i := 38) rfl))) (notFace_of_selects (args := #[]) (mvT hZ (hw _ (List.mem_of_getElem? (i := 40) rfl)))) (mvT hZ (hw _ (List.mem_of_getElem? (i := 40) rfl))) (mvT hZ (hw _ (List.mem_of_getElem? (i := 39) rfl))) (by decide) (backOf (W := 0) (rm6 l Z a0 hw [] ol zz2 (3 : Int64) (0 : Int64) bz bw bt (2 : Int32) (owUp (owUp (fun _ => 0) 0 q0) 1 zz1) (owUp (owUp (fun _ => 0) 0 (1 : Int64)) 1 (2 : Int64)) (owUp (owUp (fun _ => 0) 0 (0 : Int64)) 1 (0 : Int64)) 2 T50.heap n0 Z59 p50_0 p50_1 p50_2 p50_3 p50_4 p50_5 p50_6 p50_7 rfl (by decide) g_ol g_bz g_bw g_bt ne_ol_bz ne_ol_bw ne_ol_bt ne_bz_bw ne_bz_bt ne_bw_bt) hZ (hw _ (List.mem_of_getElem? (i := 41) rfl)) (hw _ (List.mem_of_getElem? (i := 5) rfl)) (by decide) (by decide)) q62a q62c (g := (mkF m 153 #[.val (.int p0), .val (.long q0), .second, .val (.int pg), .val (.int ph), .val (.int po), .val (.int nn), .val (.long q0), .second, .val (.long zz1), .second, .val (.long zz2), .second, .val (.long zz3), .second, .val (.long zz4), .second, .val (.long qq), .second, .val (.ref ol), .unset, .unset] [(.long (0 : Int64)), (.long (3 : Int64)), (.long zz2), (.ref ol)])) rfl (by rw [hml]; rfl) (Steps.refl _) (argsL := [(.long zz2), (.long (3 : Int64)), (.long (0 : Int64))]) (rest := []) (lenOf pd_2 rfl) rfl (by show 2 * 0 + _ ≤ _; exact Nat.le_of_eq rfl) (hb hby at_153) (fun _ _ => ⟨rfl, rfl, (by decide : 4 + 0 ≤ _), (by decide : 57 + 0 ≤ _)⟩)
                dsimp only [Pt.U, Pt.locs, Pt.cells, Pt.slots] at X62 l62 y62 z62 st62 hQ62
                subst l62 y62 z62
                obtain ⟨rfl, N62q, K62, p62_0, p62_1, p62_2, p62_3, p62_4, p62_5, p62_6, p62_7⟩ := hQ62
                have N62 := Fr.app N50 N62q
                have f63 := p50_0.keep K62
                have Z71 := Nat.le_trans Z59 K62.1
                have pre72 : ∀ t, Steps p.tables e below (T62.setTop (mkF m 159 #[.val (.int p0), .val (.long q0), .second, .val (.int pg), .val (.int ph), .val (.int po), .val (.int nn), .val (.long q0), .second, .val (.long zz1), .second, .val (.long zz2), .second, .val (.long zz3), .second, .val (.long zz4), .second, .val (.long qq), .second, .val (.ref ol), .unset, .unset] [(.int (3 : Int32)), (.int nn)])) t → Steps p.tables e below (s₁.setTop (entryFrame m #[(.int p0), (.long q0), (.int pg), (.int ph), (.int po)] maxLocals)) t := by
                  intro t kt
                  refine pre60 _ ?_
                  show Steps p.tables e below (T50.setTop (mkF m 142 #[.val (.int p0), .val (.long q0), .second, .val (.int pg), .val (.int ph), .val (.int po), .val (.int nn), .val (.long q0), .second, .val (.long zz1), .second, .val (.long zz2), .second, .val (.long zz3), .second, .val (.long zz4), .second, .val (.long qq), .second, .val (.ref ol), .unset, .unset] [(.int (2 : Int32)), (.int nn)])) _
                  refine XS.icmpNo X50.here hx rfl (hb hby at_142) rfl (XT.ii_le_f hc142_61) ?_
                  show Steps p.tables e below (T50.setTop (mkF m 145 #[.val (.int p0), .val (.long q0), .second, .val (.int pg), .val (.int ph), .val (.int po), .val (.int nn), .val (.long q0), .second, .val (.long zz1), .second, .val (.long zz2), .second, .val (.long zz3), .second, .val (.long zz4), .second, .val (.long qq), .second, .val (.ref ol), .unset, .unset] [])) _
                  refine XS.aload X50.here hx rfl (hb hby at_145) rfl rfl ?_
                  show Steps p.tables e below (T50.setTop (mkF m 147 #[.val (.int p0), .val (.long q0), .second, .val (.int pg), .val (.int ph), .val (.int po), .val (.int nn), .val (.long q0), .second, .val (.long zz1), .second, .val (.long zz2), .second, .val (.long zz3), .second, .val (.long zz4), .second, .val (.long qq), .second, .val (.ref ol), .unset, .unset] [(.ref ol)])) _
                  refine XS.lload X50.here hx rfl (hb hby at_147) rfl ?_
                  show Steps p.tables e below (T50.setTop (mkF m 149 #[.val (.int p0), .val (.long q0), .second, .val (.int pg), .val (.int ph), .val (.int po), .val (.int nn), .val (.long q0), .second, .val (.long zz1), .second, .val (.long zz2), .second, .val (.long zz3), .second, .val (.long zz4), .second, .val (.long qq), .second, .val (.ref ol), .unset, .unset] [(.long zz2), (.ref ol)])) _
                  refine Stand.ldc2J (g := (mkF m 149 #[.val (.int p0), .val (.long q0), .second, .val (.int pg), .val (.int ph), .val (.int po), .val (.int nn), .val (.long q0), .second, .val (.long zz1), .second, .val (.long zz2), .second, .val (.long zz3), .second, .val (.long zz4), .second, .val (.long qq), .second, .val (.ref ol), .unset, .unset] [(.long zz2), (.ref ol)])) X50 hx hown (mvT hZ (hw _ (List.mem_of_getElem? (i := 43) rfl))) rfl (hb hby at_149) ?_
                  show Steps p.tables e below (T50.setTop (mkF m 152 #[.val (.int p0), .val (.long q0), .second, .val (.int pg), .val (.int ph), .val (.int po), .val (.int nn), .val (.long q0), .second, .val (.long zz1), .second, .val (.long zz2), .second, .val (.long zz3), .second, .val (.long zz4), .second, .val (.long qq), .second, .val (.ref ol), .unset, .unset] [(.long (3 : Int64)), (.long zz2), (.ref ol)])) _
                  refine XS.lconst X50.here hx rfl (hb hby at_152) ?_
                  show Steps p.tables e below (T50.setTop (mkF m 153 #[.val (.int p0), .val (.long q0), .second, .val (.int pg), .val (.int ph), .val (.int po), .val (.int nn), .val (.long q0), .second, .val (.long zz1), .second, .val (.long zz2), .second, .val (.long zz3), .second, .val (.long zz4), .second, .val (.long qq), .second, .val (.ref ol), .unset, .unset] [(.long (0 : Int64)), (.long (3 : Int64)), (.long zz2), (.ref ol)])) _
                  refine st62.trans ?_
                  show Steps p.tables e below (T62.setTop (mkF m 156 #[.val (.int p0), .val (.long q0), .second, .val (.int pg), .val (.int ph), .val (.int po), .val (.int nn), .val (.long q0), .second, .val (.long zz1), .second, .val (.long zz2), .second, .val (.long zz3), .second, .val (.long zz4), .second, .val (.long qq), .second, .val (.ref ol), .unset, .unset] [])) _
                  refine XS.iload X62.here hx rfl (hb hby at_156) rfl ?_
                  show Steps p.tables e below (T62.setTop (mkF m 158 #[.val (.int p0), .val (.long q0), .second, .val (.int pg), .val (.int ph), .val (.int po), .val (.int nn), .val (.long q0), .second, .val (.long zz1), .second, .val (.long zz2), .second, .val (.long zz3), .second, .val (.long zz4), .second, .val (.long qq), .second, .val (.ref ol), .unset, .unset] [(.int nn)])) _
                  refine XS.iconst X62.here hx rfl (hb hby at_158) ?_
                  exact kt
                by_cases hc159_73 : (3 : Int32) < nn
                · skip
                  obtain ⟨cq74, kq74, q74a, q74b, q74c⟩ := isOf hZ rfl p62_0
                  obtain ⟨_, _, ⟨T74, L74, k74, n74⟩, -, X74, ⟨Lc74, hQ74, l74, y74, z74⟩, st74⟩ := X62.virtualBack hx (y := (⟨"com/example/quorumvote/quorumvote/simulation/SimulatedLog", "append", "(JJJ)V"⟩ : MethodName)) (z := (⟨"com/example/quorumvote/quorumvote/simulation/SimulatedLog", "append", "(JJJ)V"⟩ : MethodName)) hown (mvT hZ (hw _ (List.mem_of_getElem? (i := 37) rfl))) (mvT hZ (hw _ (List.mem_of_getElem? (i := 38) rfl))) (notFace_of_selects (args := #[]) (mvT hZ (hw _ (List.mem_of_getElem? (i := 40) rfl)))) (mvT hZ (hw _ (List.mem_of_getElem? (i := 40) rfl))) (mvT hZ (hw _ (List.mem_of_getElem? (i := 39) rfl))) (by decide) (backOf (W := 0) (rm6 l Z a0 hw [] ol zz3 (4 : Int64) (0 : Int64) bz bw bt (3 : Int32) (owUp (owUp (owUp (fun _ => 0) 0 q0) 1 zz1) 2 zz2) (owUp (owUp (owUp (fun _ => 0) 0 (1 : Int64)) 1 (2 : Int64)) 2 (3 : Int64)) (owUp (owUp (owUp (fun _ => 0) 0 (0 : Int64)) 1 (0 : Int64)) 2 (0 : Int64)) 3 T62.heap n0 Z71 p62_0 p62_1 p62_2 p62_3 p62_4 p62_5 p62_6 p62_7 rfl (by decide) g_ol g_bz g_bw g_bt ne_ol_bz ne_ol_bw ne_ol_bt ne_bz_bw ne_bz_bt ne_bw_bt) hZ (hw _ (List.mem_of_getElem? (i := 41) rfl)) (hw _ (List.mem_of_getElem? (i := 5) rfl)) (by decide) (by decide)) q74a q74c (g := (mkF m 170 #[.val (.int p0), .val (.long q0), .second, .val (.int pg), .val (.int ph), .val (.int po), .val (.int nn), .val (.long q0), .second, .val (.long zz1), .second, .val (.long zz2), .second, .val (.long zz3), .second, .val (.long zz4), .second, .val (.long qq), .second, .val (.ref ol), .unset, .unset] [(.long (0 : Int64)), (.long (4 : Int64)), (.long zz3), (.ref ol)])) rfl (by rw [hml]; rfl) (Steps.refl _) (argsL := [(.long zz3), (.long (4 : Int64)), (.long (0 : Int64))]) (rest := []) (lenOf pd_2 rfl) rfl (by show 2 * 0 + _ ≤ _; exact Nat.le_of_eq rfl) (hb hby at_170) (fun _ _ => ⟨rfl, rfl, (by decide : 4 + 0 ≤ _), (by decide : 57 + 0 ≤ _)⟩)
                  dsimp only [Pt.U, Pt.locs, Pt.cells, Pt.slots] at X74 l74 y74 z74 st74 hQ74
                  subst l74 y74 z74
                  obtain ⟨rfl, N74q, K74, p74_0, p74_1, p74_2, p74_3, p74_4, p74_5, p74_6, p74_7⟩ := hQ74
                  have N74 := Fr.app N62 N74q
                  have f75 := p62_0.keep K74
                  have Z83 := Nat.le_trans Z71 K74.1
                  have pre84 : ∀ t, Steps p.tables e below (T74.setTop (mkF m 176 #[.val (.int p0), .val (.long q0), .second, .val (.int pg), .val (.int ph), .val (.int po), .val (.int nn), .val (.long q0), .second, .val (.long zz1), .second, .val (.long zz2), .second, .val (.long zz3), .second, .val (.long zz4), .second, .val (.long qq), .second, .val (.ref ol), .unset, .unset] [(.int (4 : Int32)), (.int nn)])) t → Steps p.tables e below (s₁.setTop (entryFrame m #[(.int p0), (.long q0), (.int pg), (.int ph), (.int po)] maxLocals)) t := by
                    intro t kt
                    refine pre72 _ ?_
                    show Steps p.tables e below (T62.setTop (mkF m 159 #[.val (.int p0), .val (.long q0), .second, .val (.int pg), .val (.int ph), .val (.int po), .val (.int nn), .val (.long q0), .second, .val (.long zz1), .second, .val (.long zz2), .second, .val (.long zz3), .second, .val (.long zz4), .second, .val (.long qq), .second, .val (.ref ol), .unset, .unset] [(.int (3 : Int32)), (.int nn)])) _
                    refine XS.icmpNo X62.here hx rfl (hb hby at_159) rfl (XT.ii_le_f hc159_73) ?_
                    show Steps p.tables e below (T62.setTop (mkF m 162 #[.val (.int p0), .val (.long q0), .second, .val (.int pg), .val (.int ph), .val (.int po), .val (.int nn), .val (.long q0), .second, .val (.long zz1), .second, .val (.long zz2), .second, .val (.long zz3), .second, .val (.long zz4), .second, .val (.long qq), .second, .val (.ref ol), .unset, .unset] [])) _
                    refine XS.aload X62.here hx rfl (hb hby at_162) rfl rfl ?_
                    show Steps p.tables e below (T62.setTop (mkF m 164 #[.val (.int p0), .val (.long q0), .second, .val (.int pg), .val (.int ph), .val (.int po), .val (.int nn), .val (.long q0), .second, .val (.long zz1), .second, .val (.long zz2), .second, .val (.long zz3), .second, .val (.long zz4), .second, .val (.long qq), .second, .val (.ref ol), .unset, .unset] [(.ref ol)])) _
                    refine XS.lload X62.here hx rfl (hb hby at_164) rfl ?_
                    show Steps p.tables e below (T62.setTop (mkF m 166 #[.val (.int p0), .val (.long q0), .second, .val (.int pg), .val (.int ph), .val (.int po), .val (.int nn), .val (.long q0), .second, .val (.long zz1), .second, .val (.long zz2), .second, .val (.long zz3), .second, .val (.long zz4), .second, .val (.long qq), .second, .val (.ref ol), .unset, .unset] [(.long zz3), (.ref ol)])) _
                    refine Stand.ldc2J (g := (mkF m 166 #[.val (.int p0), .val (.long q0), .second, .val (.int pg), .val (.int ph), .val (.int po), .val (.int nn), .val (.long q0), .second, .val (.long zz1), .second, .val (.long zz2), .second, .val (.long zz3), .second, .val (.long zz4), .second, .val (.long qq), .second, .val (.ref ol), .unset, .unset] [(.long zz3), (.ref ol)])) X62 hx hown (mvT hZ (hw _ (List.mem_of_getElem? (i := 44) rfl))) rfl (hb hby at_166) ?_
                    show Steps p.tables e below (T62.setTop (mkF m 169 #[.val (.int p0), .val (.long q0), .second, .val (.int pg), .val (.int ph), .val (.int po), .val (.int nn), .val (.long q0), .second, .val (.long zz1), .second, .val (.long zz2), .second, .val (.long zz3), .second, .val (.long zz4), .second, .val (.long qq), .second, .val (.ref ol), .unset, .unset] [(.long (4 : Int64)), (.long zz3), (.ref ol)])) _
                    refine XS.lconst X62.here hx rfl (hb hby at_169) ?_
                    show Steps p.tables e below (T62.setTop (mkF m 170 #[.val (.int p0), .val (.long q0), .second, .val (.int pg), .val (.int ph), .val (.int po), .val (.int nn), .val (.long q0), .second, .val (.long zz1), .second, .val (.long zz2), .second, .val (.long zz3), .second, .val (.long zz4), .second, .val (.long qq), .second, .val (.ref ol), .unset, .unset] [(.long (0 : Int64)), (.long (4 : Int64)), (.long zz3), (.ref ol)])) _
                    refine st74.trans ?_
                    show Steps p.tables e below (T74.setTop (mkF m 173 #[.val (.int p0), .val (.long q0), .second, .val (.int pg), .val (.int ph), .val (.int po), .val (.int nn), .val (.long q0), .second, .val (.long zz1), .second, .val (.long zz2), .second, .val (.long zz3), .second, .val (.long zz4), .second, .val (.long qq), .second, .val (.ref ol), .unset, .unset] [])) _
                    refine XS.iload X74.here hx rfl (hb hby at_173) rfl ?_
                    show Steps p.tables e below (T74.setTop (mkF m 175 #[.val (.int p0), .val (.long q0), .second, .val (.int pg), .val (.int ph), .val (.int po), .val (.int nn), .val (.long q0), .second, .val (.long zz1), .second, .val (.long zz2), .second, .val (.long zz3), .second, .val (.long zz4), .second, .val (.long qq), .second, .val (.ref ol), .unset, .unset] [(.int nn)])) _
                    refine XS.iconst X74.here hx rfl (hb hby at_175) ?_
                    exact kt
                  by_cases hc176_85 : (4 : Int32) < nn
                  · skip
                    obtain ⟨cq86, kq86, q86a, q86b, q86c⟩ := isOf hZ rfl p74_0
                    obtain ⟨_, _, ⟨T86, L86, k86, n86⟩, -, X86, ⟨Lc86, hQ86, l86, y86, z86⟩, st86⟩ := X74.virtualBack hx (y := (⟨"com/example/quorumvote/quorumvote/simulation/SimulatedLog", "append", "(JJJ)V"⟩ : MethodName)) (z := (⟨"com/example/quorumvote/quorumvote/simulation/SimulatedLog", "append", "(JJJ)V"⟩ : MethodName)) hown (mvT hZ (hw _ (List.mem_of_getElem? (i := 37) rfl))) (mvT hZ (hw _ (List.mem_of_getElem? (i := 38) rfl))) (notFace_of_selects (args := #[]) (mvT hZ (hw _ (List.mem_of_getElem? (i := 40) rfl)))) (mvT hZ (hw _ (List.mem_of_getElem? (i := 40) rfl))) (mvT hZ (hw _ (List.mem_of_getElem? (i := 39) rfl))) (by decide) (backOf (W := 0) (rm6 l Z a0 hw [] ol zz4 (5 : Int64) (0 : Int64) bz bw bt (4 : Int32) (owUp (owUp (owUp (owUp (fun _ => 0) 0 q0) 1 zz1) 2 zz2) 3 zz3) (owUp (owUp (owUp (owUp (fun _ => 0) 0 (1 : Int64)) 1 (2 : Int64)) 2 (3 : Int64)) 3 (4 : Int64)) (owUp (owUp (owUp (owUp (fun _ => 0) 0 (0 : Int64)) 1 (0 : Int64)) 2 (0 : Int64)) 3 (0 : Int64)) 4 T74.heap n0 Z83 p74_0 p74_1 p74_2 p74_3 p74_4 p74_5 p74_6 p74_7 rfl (by decide) g_ol g_bz g_bw g_bt ne_ol_bz ne_ol_bw ne_ol_bt ne_bz_bw ne_bz_bt ne_bw_bt) hZ (hw _ (List.mem_of_getElem? (i := 41) rfl)) (hw _ (List.mem_of_getElem? (i := 5) rfl)) (by decide) (by decide)) q86a q86c (g := (mkF m 187 #[.val (.int p0), .val (.long q0), .second, .val (.int pg), .val (.int ph), .val (.int po), .val (.int nn), .val (.long q0), .second, .val (.long zz1), .second, .val (.long zz2), .second, .val (.long zz3), .second, .val (.long zz4), .second, .val (.long qq), .second, .val (.ref ol), .unset, .unset] [(.long (0 : Int64)), (.long (5 : Int64)), (.long zz4), (.ref ol)])) rfl (by rw [hml]; rfl) (Steps.refl _) (argsL := [(.long zz4), (.long (5 : Int64)), (.long (0 : Int64))]) (rest := []) (lenOf pd_2 rfl) rfl (by show 2 * 0 + _ ≤ _; exact Nat.le_of_eq rfl) (hb hby at_187) (fun _ _ => ⟨rfl, rfl, (by decide : 4 + 0 ≤ _), (by decide : 57 + 0 ≤ _)⟩)
                    dsimp only [Pt.U, Pt.locs, Pt.cells, Pt.slots] at X86 l86 y86 z86 st86 hQ86
                    subst l86 y86 z86
                    obtain ⟨rfl, N86q, K86, p86_0, p86_1, p86_2, p86_3, p86_4, p86_5, p86_6, p86_7⟩ := hQ86
                    have N86 := Fr.app N74 N86q
                    have f87 := p74_0.keep K86
                    have Z95 := Nat.le_trans Z83 K86.1
                    obtain ⟨fz, h_fz⟩ : ∃ g : Nat → Int64, g = (owUp (owUp (owUp (owUp (owUp (fun _ => 0) 0 q0) 1 zz1) 2 zz2) 3 zz3) 4 zz4) := ⟨_, rfl⟩
                    have Vz := p86_5
                    rw [← h_fz] at Vz
                    obtain ⟨cq96, kq96, q96a, q96b, q96c⟩ := isOf hZ rfl p86_0
                    obtain ⟨_, _, ⟨T96, L96, k96, n96⟩, -, X96, ⟨Lc96, hQ96, l96, y96, z96⟩, st96⟩ := X86.virtualBack hx (y := (⟨"com/example/quorumvote/quorumvote/simulation/SimulatedLog", "placeAtOrBelow", "(J)I"⟩ : MethodName)) (z := (⟨"com/example/quorumvote/quorumvote/simulation/SimulatedLog", "placeAtOrBelow", "(J)I"⟩ : MethodName)) hown (mvT hZ (hw _ (List.mem_of_getElem? (i := 28) rfl))) (mvT hZ (hw _ (List.mem_of_getElem? (i := 29) rfl))) (notFace_of_selects (args := #[]) (mvT hZ (hw _ (List.mem_of_getElem? (i := 31) rfl)))) (mvT hZ (hw _ (List.mem_of_getElem? (i := 31) rfl))) (mvT hZ (hw _ (List.mem_of_getElem? (i := 30) rfl))) (by decide) (backOf (W := 0) (rm4 l Z a0 hw [] ol qq bz (5 : Int32) fz 5 T86.heap n0 Z95 p86_1 p86_4 Vz rfl (by decide) (own_so5 _ _ _ _ _ fz h_fz z1 z2 z3 z4)) hZ (hw _ (List.mem_of_getElem? (i := 32) rfl)) (hw _ (List.mem_of_getElem? (i := 5) rfl)) (by decide) (by decide)) q96a q96c (g := (mkF m 194 #[.val (.int p0), .val (.long q0), .second, .val (.int pg), .val (.int ph), .val (.int po), .val (.int nn), .val (.long q0), .second, .val (.long zz1), .second, .val (.long zz2), .second, .val (.long zz3), .second, .val (.long zz4), .second, .val (.long qq), .second, .val (.ref ol), .unset, .unset] [(.long qq), (.ref ol)])) rfl (by rw [hml]; rfl) (Steps.refl _) (argsL := [(.long qq)]) (rest := []) (lenOf pd_3 rfl) rfl (by show 2 * 0 + _ ≤ _; exact Nat.le_of_eq rfl) (hb hby at_194) (fun _ _ => ⟨rfl, rfl, (by decide : 4 + 0 ≤ _), (by decide : 57 + 0 ≤ _)⟩)
                    dsimp only [Pt.U, Pt.locs, Pt.cells, Pt.slots] at X96 l96 y96 z96 st96 hQ96
                    subst l96 y96 z96
                    obtain ⟨rr, rfl, N96q, hE96, sp⟩ := hQ96
                    have N96 := Fr.app N86 N96q
                    obtain ⟨_, _, ⟨T97, L97, k97, n97⟩, -, X97, ⟨Lc97, hQ97, l97, y97, z97⟩, st97⟩ := Jvm.LawKit.callS X96 hx (y := (⟨"com/example/quorumvote/quorumvote/simulation/SimulatedLogPlaceAtOrBelowPinLaw", "at", "(IIJJ)I"⟩ : MethodName)) hown (mvT hZ (hw _ (List.mem_of_getElem? (i := 33) rfl))) (mvT hZ (hw _ (List.mem_of_getElem? (i := 34) rfl))) (mvT hZ (hw _ (List.mem_of_getElem? (i := 35) rfl))) (mvT hZ (hw _ (List.mem_of_getElem? (i := 36) rfl))) (by decide) (backOf (W := 0) (rm5 l Z a0 hw [] nn (0 : Int32) q0 qq T86.heap n0 Z95) hZ (hw _ (List.mem_of_getElem? (i := 36) rfl)) (hw _ (List.mem_of_getElem? (i := 35) rfl)) (by decide) (by decide)) (g := (mkF m 206 #[.val (.int p0), .val (.long q0), .second, .val (.int pg), .val (.int ph), .val (.int po), .val (.int nn), .val (.long q0), .second, .val (.long zz1), .second, .val (.long zz2), .second, .val (.long zz3), .second, .val (.long zz4), .second, .val (.long qq), .second, .val (.ref ol), .val (.int rr), .unset] [(.long qq), (.long q0), (.int (0 : Int32)), (.int nn)])) rfl (by rw [hml]; rfl) (argsL := [(.int nn), (.int (0 : Int32)), (.long q0), (.long qq)]) (rest := []) (lenOf pd_4 rfl) rfl (by show 2 * 0 + _ ≤ _; exact Nat.le_of_eq rfl) (hb hby at_206) (fun _ _ => ⟨rfl, hE96, (by decide : 4 + 0 ≤ _), (by decide : 57 + 0 ≤ _)⟩)
                    dsimp only [Pt.U, Pt.locs, Pt.cells, Pt.slots] at X97 l97 y97 z97 st97 hQ97
                    subst l97 y97 z97
                    obtain ⟨rfl, N97q, hE97⟩ := hQ97
                    have N97 := Fr.app N96 N97q
                    obtain ⟨_, _, ⟨T98, L98, k98, n98⟩, -, X98, ⟨Lc98, hQ98, l98, y98, z98⟩, st98⟩ := Jvm.LawKit.callS X97 hx (y := (⟨"com/example/quorumvote/quorumvote/simulation/SimulatedLogPlaceAtOrBelowPinLaw", "at", "(IIJJ)I"⟩ : MethodName)) hown (mvT hZ (hw _ (List.mem_of_getElem? (i := 33) rfl))) (mvT hZ (hw _ (List.mem_of_getElem? (i := 34) rfl))) (mvT hZ (hw _ (List.mem_of_getElem? (i := 35) rfl))) (mvT hZ (hw _ (List.mem_of_getElem? (i := 36) rfl))) (by decide) (backOf (W := 1) (rm5 l Z a0 hw [] nn (1 : Int32) zz1 qq T86.heap n0 Z95) hZ (hw _ (List.mem_of_getElem? (i := 36) rfl)) (hw _ (List.mem_of_getElem? (i := 35) rfl)) (by decide) (by decide)) (g := (mkF m 216 #[.val (.int p0), .val (.long q0), .second, .val (.int pg), .val (.int ph), .val (.int po), .val (.int nn), .val (.long q0), .second, .val (.long zz1), .second, .val (.long zz2), .second, .val (.long zz3), .second, .val (.long zz4), .second, .val (.long qq), .second, .val (.ref ol), .val (.int rr), .unset] [(.long qq), (.long zz1), (.int (1 : Int32)), (.int nn), (.int (fn5 nn (0 : Int32) q0 qq))])) rfl (by rw [hml]; rfl) (argsL := [(.int nn), (.int (1 : Int32)), (.long zz1), (.long qq)]) (rest := [(.int (fn5 nn (0 : Int32) q0 qq))]) (lenOf pd_4 rfl) rfl (by show 2 * 0 + _ ≤ _; exact Nat.le_of_eq rfl) (hb hby at_216) (fun _ _ => ⟨rfl, hE97, (by decide : 4 + 0 ≤ _), (by decide : 57 + 0 ≤ _)⟩)
                    dsimp only [Pt.U, Pt.locs, Pt.cells, Pt.slots] at X98 l98 y98 z98 st98 hQ98
                    subst l98 y98 z98
                    obtain ⟨rfl, N98q, hE98⟩ := hQ98
                    have N98 := Fr.app N97 N98q
                    obtain ⟨_, _, ⟨T99, L99, k99, n99⟩, -, X99, ⟨Lc99, hQ99, l99, y99, z99⟩, st99⟩ := Jvm.LawKit.callS X98 hx (y := (⟨"com/example/quorumvote/quorumvote/simulation/SimulatedLogPlaceAtOrBelowPinLaw", "at", "(IIJJ)I"⟩ : MethodName)) hown (mvT hZ (hw _ (List.mem_of_getElem? (i := 33) rfl))) (mvT hZ (hw _ (List.mem_of_getElem? (i := 34) rfl))) (mvT hZ (hw _ (List.mem_of_getElem? (i := 35) rfl))) (mvT hZ (hw _ (List.mem_of_getElem? (i := 36) rfl))) (by decide) (backOf (W := 1) (rm5 l Z a0 hw [] nn (2 : Int32) zz2 qq T86.heap n0 Z95) hZ (hw _ (List.mem_of_getElem? (i := 36) rfl)) (hw _ (List.mem_of_getElem? (i := 35) rfl)) (by decide) (by decide)) (g := (mkF m 227 #[.val (.int p0), .val (.long q0), .second, .val (.int pg), .val (.int ph), .val (.int po), .val (.int nn), .val (.long q0), .second, .val (.long zz1), .second, .val (.long zz2), .second, .val (.long zz3), .second, .val (.long zz4), .second, .val (.long qq), .second, .val (.ref ol), .val (.int rr), .unset] [(.long qq), (.long zz2), (.int (2 : Int32)), (.int nn), (.int ((fn5 nn (0 : Int32) q0 qq) + (fn5 nn (1 : Int32) zz1 qq)))])) rfl (by rw [hml]; rfl) (argsL := [(.int nn), (.int (2 : Int32)), (.long zz2), (.long qq)]) (rest := [(.int ((fn5 nn (0 : Int32) q0 qq) + (fn5 nn (1 : Int32) zz1 qq)))]) (lenOf pd_4 rfl) rfl (by show 2 * 0 + _ ≤ _; exact Nat.le_of_eq rfl) (hb hby at_227) (fun _ _ => ⟨rfl, hE98, (by decide : 4 + 0 ≤ _), (by decide : 57 + 0 ≤ _)⟩)
                    dsimp only [Pt.U, Pt.locs, Pt.cells, Pt.slots] at X99 l99 y99 z99 st99 hQ99
                    subst l99 y99 z99
                    obtain ⟨rfl, N99q, hE99⟩ := hQ99
                    have N99 := Fr.app N98 N99q
                    obtain ⟨_, _, ⟨T100, L100, k100, n100⟩, -, X100, ⟨Lc100, hQ100, l100, y100, z100⟩, st100⟩ := Jvm.LawKit.callS X99 hx (y := (⟨"com/example/quorumvote/quorumvote/simulation/SimulatedLogPlaceAtOrBelowPinLaw", "at", "(IIJJ)I"⟩ : MethodName)) hown (mvT hZ (hw _ (List.mem_of_getElem? (i := 33) rfl))) (mvT hZ (hw _ (List.mem_of_getElem? (i := 34) rfl))) (mvT hZ (hw _ (List.mem_of_getElem? (i := 35) rfl))) (mvT hZ (hw _ (List.mem_of_getElem? (i := 36) rfl))) (by decide) (backOf (W := 1) (rm5 l Z a0 hw [] nn (3 : Int32) zz3 qq T86.heap n0 Z95) hZ (hw _ (List.mem_of_getElem? (i := 36) rfl)) (hw _ (List.mem_of_getElem? (i := 35) rfl)) (by decide) (by decide)) (g := (mkF m 238 #[.val (.int p0), .val (.long q0), .second, .val (.int pg), .val (.int ph), .val (.int po), .val (.int nn), .val (.long q0), .second, .val (.long zz1), .second, .val (.long zz2), .second, .val (.long zz3), .second, .val (.long zz4), .second, .val (.long qq), .second, .val (.ref ol), .val (.int rr), .unset] [(.long qq), (.long zz3), (.int (3 : Int32)), (.int nn), (.int (((fn5 nn (0 : Int32) q0 qq) + (fn5 nn (1 : Int32) zz1 qq)) + (fn5 nn (2 : Int32) zz2 qq)))])) rfl (by rw [hml]; rfl) (argsL := [(.int nn), (.int (3 : Int32)), (.long zz3), (.long qq)]) (rest := [(.int (((fn5 nn (0 : Int32) q0 qq) + (fn5 nn (1 : Int32) zz1 qq)) + (fn5 nn (2 : Int32) zz2 qq)))]) (lenOf pd_4 rfl) rfl (by show 2 * 0 + _ ≤ _; exact Nat.le_of_eq rfl) (hb hby at_238) (fun _ _ => ⟨rfl, hE99, (by decide : 4 + 0 ≤ _), (by decide : 57 + 0 ≤ _)⟩)
                    dsimp only [Pt.U, Pt.locs, Pt.cells, Pt.slots] at X100 l100 y100 z100 st100 hQ100
                    subst l100 y100 z100
                    obtain ⟨rfl, N100q, hE100⟩ := hQ100
                    have N100 := Fr.app N99 N100q
                    obtain ⟨_, _, ⟨T101, L101, k101, n101⟩, -, X101, ⟨Lc101, hQ101, l101, y101, z101⟩, st101⟩ := Jvm.LawKit.callS X100 hx (y := (⟨"com/example/quorumvote/quorumvote/simulation/SimulatedLogPlaceAtOrBelowPinLaw", "at", "(IIJJ)I"⟩ : MethodName)) hown (mvT hZ (hw _ (List.mem_of_getElem? (i := 33) rfl))) (mvT hZ (hw _ (List.mem_of_getElem? (i := 34) rfl))) (mvT hZ (hw _ (List.mem_of_getElem? (i := 35) rfl))) (mvT hZ (hw _ (List.mem_of_getElem? (i := 36) rfl))) (by decide) (backOf (W := 1) (rm5 l Z a0 hw [] nn (4 : Int32) zz4 qq T86.heap n0 Z95) hZ (hw _ (List.mem_of_getElem? (i := 36) rfl)) (hw _ (List.mem_of_getElem? (i := 35) rfl)) (by decide) (by decide)) (g := (mkF m 249 #[.val (.int p0), .val (.long q0), .second, .val (.int pg), .val (.int ph), .val (.int po), .val (.int nn), .val (.long q0), .second, .val (.long zz1), .second, .val (.long zz2), .second, .val (.long zz3), .second, .val (.long zz4), .second, .val (.long qq), .second, .val (.ref ol), .val (.int rr), .unset] [(.long qq), (.long zz4), (.int (4 : Int32)), (.int nn), (.int ((((fn5 nn (0 : Int32) q0 qq) + (fn5 nn (1 : Int32) zz1 qq)) + (fn5 nn (2 : Int32) zz2 qq)) + (fn5 nn (3 : Int32) zz3 qq)))])) rfl (by rw [hml]; rfl) (argsL := [(.int nn), (.int (4 : Int32)), (.long zz4), (.long qq)]) (rest := [(.int ((((fn5 nn (0 : Int32) q0 qq) + (fn5 nn (1 : Int32) zz1 qq)) + (fn5 nn (2 : Int32) zz2 qq)) + (fn5 nn (3 : Int32) zz3 qq)))]) (lenOf pd_4 rfl) rfl (by show 2 * 0 + _ ≤ _; exact Nat.le_of_eq rfl) (hb hby at_249) (fun _ _ => ⟨rfl, hE100, (by decide : 4 + 0 ≤ _), (by decide : 57 + 0 ≤ _)⟩)
                    dsimp only [Pt.U, Pt.locs, Pt.cells, Pt.slots] at X101 l101 y101 z101 st101 hQ101
                    subst l101 y101 z101
                    obtain ⟨rfl, N101q, hE101⟩ := hQ101
                    have N101 := Fr.app N100 N101q
                    have pre102 : ∀ t, Steps p.tables e below (T101.setTop (mkF m 255 #[.val (.int p0), .val (.long q0), .second, .val (.int pg), .val (.int ph), .val (.int po), .val (.int nn), .val (.long q0), .second, .val (.long zz1), .second, .val (.long zz2), .second, .val (.long zz3), .second, .val (.long zz4), .second, .val (.long qq), .second, .val (.ref ol), .val (.int rr), .unset] [(.int ((((((fn5 nn (0 : Int32) q0 qq) + (fn5 nn (1 : Int32) zz1 qq)) + (fn5 nn (2 : Int32) zz2 qq)) + (fn5 nn (3 : Int32) zz3 qq)) + (fn5 nn (4 : Int32) zz4 qq)) - (1 : Int32)))])) t → Steps p.tables e below (s₁.setTop (entryFrame m #[(.int p0), (.long q0), (.int pg), (.int ph), (.int po)] maxLocals)) t := by
                      intro t kt
                      refine pre84 _ ?_
                      show Steps p.tables e below (T74.setTop (mkF m 176 #[.val (.int p0), .val (.long q0), .second, .val (.int pg), .val (.int ph), .val (.int po), .val (.int nn), .val (.long q0), .second, .val (.long zz1), .second, .val (.long zz2), .second, .val (.long zz3), .second, .val (.long zz4), .second, .val (.long qq), .second, .val (.ref ol), .unset, .unset] [(.int (4 : Int32)), (.int nn)])) _
                      refine XS.icmpNo X74.here hx rfl (hb hby at_176) rfl (XT.ii_le_f hc176_85) ?_
                      show Steps p.tables e below (T74.setTop (mkF m 179 #[.val (.int p0), .val (.long q0), .second, .val (.int pg), .val (.int ph), .val (.int po), .val (.int nn), .val (.long q0), .second, .val (.long zz1), .second, .val (.long zz2), .second, .val (.long zz3), .second, .val (.long zz4), .second, .val (.long qq), .second, .val (.ref ol), .unset, .unset] [])) _
                      refine XS.aload X74.here hx rfl (hb hby at_179) rfl rfl ?_
                      show Steps p.tables e below (T74.setTop (mkF m 181 #[.val (.int p0), .val (.long q0), .second, .val (.int pg), .val (.int ph), .val (.int po), .val (.int nn), .val (.long q0), .second, .val (.long zz1), .second, .val (.long zz2), .second, .val (.long zz3), .second, .val (.long zz4), .second, .val (.long qq), .second, .val (.ref ol), .unset, .unset] [(.ref ol)])) _
                      refine XS.lload X74.here hx rfl (hb hby at_181) rfl ?_
                      show Steps p.tables e below (T74.setTop (mkF m 183 #[.val (.int p0), .val (.long q0), .second, .val (.int pg), .val (.int ph), .val (.int po), .val (.int nn), .val (.long q0), .second, .val (.long zz1), .second, .val (.long zz2), .second, .val (.long zz3), .second, .val (.long zz4), .second, .val (.long qq), .second, .val (.ref ol), .unset, .unset] [(.long zz4), (.ref ol)])) _
                      refine Stand.ldc2J (g := (mkF m 183 #[.val (.int p0), .val (.long q0), .second, .val (.int pg), .val (.int ph), .val (.int po), .val (.int nn), .val (.long q0), .second, .val (.long zz1), .second, .val (.long zz2), .second, .val (.long zz3), .second, .val (.long zz4), .second, .val (.long qq), .second, .val (.ref ol), .unset, .unset] [(.long zz4), (.ref ol)])) X74 hx hown (mvT hZ (hw _ (List.mem_of_getElem? (i := 45) rfl))) rfl (hb hby at_183) ?_
                      show Steps p.tables e below (T74.setTop (mkF m 186 #[.val (.int p0), .val (.long q0), .second, .val (.int pg), .val (.int ph), .val (.int po), .val (.int nn), .val (.long q0), .second, .val (.long zz1), .second, .val (.long zz2), .second, .val (.long zz3), .second, .val (.long zz4), .second, .val (.long qq), .second, .val (.ref ol), .unset, .unset] [(.long (5 : Int64)), (.long zz4), (.ref ol)])) _
                      refine XS.lconst X74.here hx rfl (hb hby at_186) ?_
                      show Steps p.tables e below (T74.setTop (mkF m 187 #[.val (.int p0), .val (.long q0), .second, .val (.int pg), .val (.int ph), .val (.int po), .val (.int nn), .val (.long q0), .second, .val (.long zz1), .second, .val (.long zz2), .second, .val (.long zz3), .second, .val (.long zz4), .second, .val (.long qq), .second, .val (.ref ol), .unset, .unset] [(.long (0 : Int64)), (.long (5 : Int64)), (.long zz4), (.ref ol)])) _
                      refine st86.trans ?_
                      show Steps p.tables e below (T86.setTop (mkF m 190 #[.val (.int p0), .val (.long q0), .second, .val (.int pg), .val (.int ph), .val (.int po), .val (.int nn), .val (.long q0), .second, .val (.long zz1), .second, .val (.long zz2), .second, .val (.long zz3), .second, .val (.long zz4), .second, .val (.long qq), .second, .val (.ref ol), .unset, .unset] [])) _
                      refine XS.aload X86.here hx rfl (hb hby at_190) rfl rfl ?_
                      show Steps p.tables e below (T86.setTop (mkF m 192 #[.val (.int p0), .val (.long q0), .second, .val (.int pg), .val (.int ph), .val (.int po), .val (.int nn), .val (.long q0), .second, .val (.long zz1), .second, .val (.long zz2), .second, .val (.long zz3), .second, .val (.long zz4), .second, .val (.long qq), .second, .val (.ref ol), .unset, .unset] [(.ref ol)])) _
                      refine XS.lload X86.here hx rfl (hb hby at_192) rfl ?_
                      show Steps p.tables e below (T86.setTop (mkF m 194 #[.val (.int p0), .val (.long q0), .second, .val (.int pg), .val (.int ph), .val (.int po), .val (.int nn), .val (.long q0), .second, .val (.long zz1), .second, .val (.long zz2), .second, .val (.long zz3), .second, .val (.long zz4), .second, .val (.long qq), .second, .val (.ref ol), .unset, .unset] [(.long qq), (.ref ol)])) _
                      refine st96.trans ?_
                      show Steps p.tables e below (T96.setTop (mkF m 197 #[.val (.int p0), .val (.long q0), .second, .val (.int pg), .val (.int ph), .val (.int po), .val (.int nn), .val (.long q0), .second, .val (.long zz1), .second, .val (.long zz2), .second, .val (.long zz3), .second, .val (.long zz4), .second, .val (.long qq), .second, .val (.ref ol), .unset, .unset] [(.int rr)])) _
                      refine XS.istore X96.here hx rfl (hb hby at_197) rfl (l' := #[.val (.int p0), .val (.long q0), .second, .val (.int pg), .val (.int ph), .val (.int po), .val (.int nn), .val (.long q0), .second, .val (.long zz1), .second, .val (.long zz2), .second, .val (.long zz3), .second, .val (.long zz4), .second, .val (.long qq), .second, .val (.ref ol), .val (.int rr), .unset]) rfl ?_
                      show Steps p.tables e below (T96.setTop (mkF m 199 #[.val (.int p0), .val (.long q0), .second, .val (.int pg), .val (.int ph), .val (.int po), .val (.int nn), .val (.long q0), .second, .val (.long zz1), .second, .val (.long zz2), .second, .val (.long zz3), .second, .val (.long zz4), .second, .val (.long qq), .second, .val (.ref ol), .val (.int rr), .unset] [])) _
                      refine XS.iload X96.here hx rfl (hb hby at_199) rfl ?_
                      show Steps p.tables e below (T96.setTop (mkF m 201 #[.val (.int p0), .val (.long q0), .second, .val (.int pg), .val (.int ph), .val (.int po), .val (.int nn), .val (.long q0), .second, .val (.long zz1), .second, .val (.long zz2), .second, .val (.long zz3), .second, .val (.long zz4), .second, .val (.long qq), .second, .val (.ref ol), .val (.int rr), .unset] [(.int nn)])) _
                      refine XS.iconst X96.here hx rfl (hb hby at_201) ?_
                      show Steps p.tables e below (T96.setTop (mkF m 202 #[.val (.int p0), .val (.long q0), .second, .val (.int pg), .val (.int ph), .val (.int po), .val (.int nn), .val (.long q0), .second, .val (.long zz1), .second, .val (.long zz2), .second, .val (.long zz3), .second, .val (.long zz4), .second, .val (.long qq), .second, .val (.ref ol), .val (.int rr), .unset] [(.int (0 : Int32)), (.int nn)])) _
                      refine XS.lload X96.here hx rfl (hb hby at_202) rfl ?_
                      show Steps p.tables e below (T96.setTop (mkF m 204 #[.val (.int p0), .val (.long q0), .second, .val (.int pg), .val (.int ph), .val (.int po), .val (.int nn), .val (.long q0), .second, .val (.long zz1), .second, .val (.long zz2), .second, .val (.long zz3), .second, .val (.long zz4), .second, .val (.long qq), .second, .val (.ref ol), .val (.int rr), .unset] [(.long q0), (.int (0 : Int32)), (.int nn)])) _
                      refine XS.lload X96.here hx rfl (hb hby at_204) rfl ?_
                      show Steps p.tables e below (T96.setTop (mkF m 206 #[.val (.int p0), .val (.long q0), .second, .val (.int pg), .val (.int ph), .val (.int po), .val (.int nn), .val (.long q0), .second, .val (.long zz1), .second, .val (.long zz2), .second, .val (.long zz3), .second, .val (.long zz4), .second, .val (.long qq), .second, .val (.ref ol), .val (.int rr), .unset] [(.long qq), (.long q0), (.int (0 : Int32)), (.int nn)])) _
                      refine st97 _ ?_
                      show Steps p.tables e below (T97.setTop (mkF m 209 #[.val (.int p0), .val (.long q0), .second, .val (.int pg), .val (.int ph), .val (.int po), .val (.int nn), .val (.long q0), .second, .val (.long zz1), .second, .val (.long zz2), .second, .val (.long zz3), .second, .val (.long zz4), .second, .val (.long qq), .second, .val (.ref ol), .val (.int rr), .unset] [(.int (fn5 nn (0 : Int32) q0 qq))])) _
                      refine XS.iload X97.here hx rfl (hb hby at_209) rfl ?_
                      show Steps p.tables e below (T97.setTop (mkF m 211 #[.val (.int p0), .val (.long q0), .second, .val (.int pg), .val (.int ph), .val (.int po), .val (.int nn), .val (.long q0), .second, .val (.long zz1), .second, .val (.long zz2), .second, .val (.long zz3), .second, .val (.long zz4), .second, .val (.long qq), .second, .val (.ref ol), .val (.int rr), .unset] [(.int nn), (.int (fn5 nn (0 : Int32) q0 qq))])) _
                      refine XS.iconst X97.here hx rfl (hb hby at_211) ?_
                      show Steps p.tables e below (T97.setTop (mkF m 212 #[.val (.int p0), .val (.long q0), .second, .val (.int pg), .val (.int ph), .val (.int po), .val (.int nn), .val (.long q0), .second, .val (.long zz1), .second, .val (.long zz2), .second, .val (.long zz3), .second, .val (.long zz4), .second, .val (.long qq), .second, .val (.ref ol), .val (.int rr), .unset] [(.int (1 : Int32)), (.int nn), (.int (fn5 nn (0 : Int32) q0 qq))])) _
                      refine XS.lload X97.here hx rfl (hb hby at_212) rfl ?_
                      show Steps p.tables e below (T97.setTop (mkF m 214 #[.val (.int p0), .val (.long q0), .second, .val (.int pg), .val (.int ph), .val (.int po), .val (.int nn), .val (.long q0), .second, .val (.long zz1), .second, .val (.long zz2), .second, .val (.long zz3), .second, .val (.long zz4), .second, .val (.long qq), .second, .val (.ref ol), .val (.int rr), .unset] [(.long zz1), (.int (1 : Int32)), (.int nn), (.int (fn5 nn (0 : Int32) q0 qq))])) _
                      refine XS.lload X97.here hx rfl (hb hby at_214) rfl ?_
                      show Steps p.tables e below (T97.setTop (mkF m 216 #[.val (.int p0), .val (.long q0), .second, .val (.int pg), .val (.int ph), .val (.int po), .val (.int nn), .val (.long q0), .second, .val (.long zz1), .second, .val (.long zz2), .second, .val (.long zz3), .second, .val (.long zz4), .second, .val (.long qq), .second, .val (.ref ol), .val (.int rr), .unset] [(.long qq), (.long zz1), (.int (1 : Int32)), (.int nn), (.int (fn5 nn (0 : Int32) q0 qq))])) _
                      refine st98 _ ?_
                      show Steps p.tables e below (T98.setTop (mkF m 219 #[.val (.int p0), .val (.long q0), .second, .val (.int pg), .val (.int ph), .val (.int po), .val (.int nn), .val (.long q0), .second, .val (.long zz1), .second, .val (.long zz2), .second, .val (.long zz3), .second, .val (.long zz4), .second, .val (.long qq), .second, .val (.ref ol), .val (.int rr), .unset] [(.int (fn5 nn (1 : Int32) zz1 qq)), (.int (fn5 nn (0 : Int32) q0 qq))])) _
                      refine XS.iadd X98.here hx rfl (hb hby at_219) rfl ?_
                      show Steps p.tables e below (T98.setTop (mkF m 220 #[.val (.int p0), .val (.long q0), .second, .val (.int pg), .val (.int ph), .val (.int po), .val (.int nn), .val (.long q0), .second, .val (.long zz1), .second, .val (.long zz2), .second, .val (.long zz3), .second, .val (.long zz4), .second, .val (.long qq), .second, .val (.ref ol), .val (.int rr), .unset] [(.int ((fn5 nn (0 : Int32) q0 qq) + (fn5 nn (1 : Int32) zz1 qq)))])) _
                      refine XS.iload X98.here hx rfl (hb hby at_220) rfl ?_
                      show Steps p.tables e below (T98.setTop (mkF m 222 #[.val (.int p0), .val (.long q0), .second, .val (.int pg), .val (.int ph), .val (.int po), .val (.int nn), .val (.long q0), .second, .val (.long zz1), .second, .val (.long zz2), .second, .val (.long zz3), .second, .val (.long zz4), .second, .val (.long qq), .second, .val (.ref ol), .val (.int rr), .unset] [(.int nn), (.int ((fn5 nn (0 : Int32) q0 qq) + (fn5 nn (1 : Int32) zz1 qq)))])) _
                      refine XS.iconst X98.here hx rfl (hb hby at_222) ?_
                      show Steps p.tables e below (T98.setTop (mkF m 223 #[.val (.int p0), .val (.long q0), .second, .val (.int pg), .val (.int ph), .val (.int po), .val (.int nn), .val (.long q0), .second, .val (.long zz1), .second, .val (.long zz2), .second, .val (.long zz3), .second, .val (.long zz4), .second, .val (.long qq), .second, .val (.ref ol), .val (.int rr), .unset] [(.int (2 : Int32)), (.int nn), (.int ((fn5 nn (0 : Int32) q0 qq) + (fn5 nn (1 : Int32) zz1 qq)))])) _
                      refine XS.lload X98.here hx rfl (hb hby at_223) rfl ?_
                      show Steps p.tables e below (T98.setTop (mkF m 225 #[.val (.int p0), .val (.long q0), .second, .val (.int pg), .val (.int ph), .val (.int po), .val (.int nn), .val (.long q0), .second, .val (.long zz1), .second, .val (.long zz2), .second, .val (.long zz3), .second, .val (.long zz4), .second, .val (.long qq), .second, .val (.ref ol), .val (.int rr), .unset] [(.long zz2), (.int (2 : Int32)), (.int nn), (.int ((fn5 nn (0 : Int32) q0 qq) + (fn5 nn (1 : Int32) zz1 qq)))])) _
                      refine XS.lload X98.here hx rfl (hb hby at_225) rfl ?_
                      show Steps p.tables e below (T98.setTop (mkF m 227 #[.val (.int p0), .val (.long q0), .second, .val (.int pg), .val (.int ph), .val (.int po), .val (.int nn), .val (.long q0), .second, .val (.long zz1), .second, .val (.long zz2), .second, .val (.long zz3), .second, .val (.long zz4), .second, .val (.long qq), .second, .val (.ref ol), .val (.int rr), .unset] [(.long qq), (.long zz2), (.int (2 : Int32)), (.int nn), (.int ((fn5 nn (0 : Int32) q0 qq) + (fn5 nn (1 : Int32) zz1 qq)))])) _
                      refine st99 _ ?_
                      show Steps p.tables e below (T99.setTop (mkF m 230 #[.val (.int p0), .val (.long q0), .second, .val (.int pg), .val (.int ph), .val (.int po), .val (.int nn), .val (.long q0), .second, .val (.long zz1), .second, .val (.long zz2), .second, .val (.long zz3), .second, .val (.long zz4), .second, .val (.long qq), .second, .val (.ref ol), .val (.int rr), .unset] [(.int (fn5 nn (2 : Int32) zz2 qq)), (.int ((fn5 nn (0 : Int32) q0 qq) + (fn5 nn (1 : Int32) zz1 qq)))])) _
                      refine XS.iadd X99.here hx rfl (hb hby at_230) rfl ?_
                      show Steps p.tables e below (T99.setTop (mkF m 231 #[.val (.int p0), .val (.long q0), .second, .val (.int pg), .val (.int ph), .val (.int po), .val (.int nn), .val (.long q0), .second, .val (.long zz1), .second, .val (.long zz2), .second, .val (.long zz3), .second, .val (.long zz4), .second, .val (.long qq), .second, .val (.ref ol), .val (.int rr), .unset] [(.int (((fn5 nn (0 : Int32) q0 qq) + (fn5 nn (1 : Int32) zz1 qq)) + (fn5 nn (2 : Int32) zz2 qq)))])) _
                      refine XS.iload X99.here hx rfl (hb hby at_231) rfl ?_
                      show Steps p.tables e below (T99.setTop (mkF m 233 #[.val (.int p0), .val (.long q0), .second, .val (.int pg), .val (.int ph), .val (.int po), .val (.int nn), .val (.long q0), .second, .val (.long zz1), .second, .val (.long zz2), .second, .val (.long zz3), .second, .val (.long zz4), .second, .val (.long qq), .second, .val (.ref ol), .val (.int rr), .unset] [(.int nn), (.int (((fn5 nn (0 : Int32) q0 qq) + (fn5 nn (1 : Int32) zz1 qq)) + (fn5 nn (2 : Int32) zz2 qq)))])) _
                      refine XS.iconst X99.here hx rfl (hb hby at_233) ?_
                      show Steps p.tables e below (T99.setTop (mkF m 234 #[.val (.int p0), .val (.long q0), .second, .val (.int pg), .val (.int ph), .val (.int po), .val (.int nn), .val (.long q0), .second, .val (.long zz1), .second, .val (.long zz2), .second, .val (.long zz3), .second, .val (.long zz4), .second, .val (.long qq), .second, .val (.ref ol), .val (.int rr), .unset] [(.int (3 : Int32)), (.int nn), (.int (((fn5 nn (0 : Int32) q0 qq) + (fn5 nn (1 : Int32) zz1 qq)) + (fn5 nn (2 : Int32) zz2 qq)))])) _
                      refine XS.lload X99.here hx rfl (hb hby at_234) rfl ?_
                      show Steps p.tables e below (T99.setTop (mkF m 236 #[.val (.int p0), .val (.long q0), .second, .val (.int pg), .val (.int ph), .val (.int po), .val (.int nn), .val (.long q0), .second, .val (.long zz1), .second, .val (.long zz2), .second, .val (.long zz3), .second, .val (.long zz4), .second, .val (.long qq), .second, .val (.ref ol), .val (.int rr), .unset] [(.long zz3), (.int (3 : Int32)), (.int nn), (.int (((fn5 nn (0 : Int32) q0 qq) + (fn5 nn (1 : Int32) zz1 qq)) + (fn5 nn (2 : Int32) zz2 qq)))])) _
                      refine XS.lload X99.here hx rfl (hb hby at_236) rfl ?_
                      show Steps p.tables e below (T99.setTop (mkF m 238 #[.val (.int p0), .val (.long q0), .second, .val (.int pg), .val (.int ph), .val (.int po), .val (.int nn), .val (.long q0), .second, .val (.long zz1), .second, .val (.long zz2), .second, .val (.long zz3), .second, .val (.long zz4), .second, .val (.long qq), .second, .val (.ref ol), .val (.int rr), .unset] [(.long qq), (.long zz3), (.int (3 : Int32)), (.int nn), (.int (((fn5 nn (0 : Int32) q0 qq) + (fn5 nn (1 : Int32) zz1 qq)) + (fn5 nn (2 : Int32) zz2 qq)))])) _
                      refine st100 _ ?_
                      show Steps p.tables e below (T100.setTop (mkF m 241 #[.val (.int p0), .val (.long q0), .second, .val (.int pg), .val (.int ph), .val (.int po), .val (.int nn), .val (.long q0), .second, .val (.long zz1), .second, .val (.long zz2), .second, .val (.long zz3), .second, .val (.long zz4), .second, .val (.long qq), .second, .val (.ref ol), .val (.int rr), .unset] [(.int (fn5 nn (3 : Int32) zz3 qq)), (.int (((fn5 nn (0 : Int32) q0 qq) + (fn5 nn (1 : Int32) zz1 qq)) + (fn5 nn (2 : Int32) zz2 qq)))])) _
                      refine XS.iadd X100.here hx rfl (hb hby at_241) rfl ?_
                      show Steps p.tables e below (T100.setTop (mkF m 242 #[.val (.int p0), .val (.long q0), .second, .val (.int pg), .val (.int ph), .val (.int po), .val (.int nn), .val (.long q0), .second, .val (.long zz1), .second, .val (.long zz2), .second, .val (.long zz3), .second, .val (.long zz4), .second, .val (.long qq), .second, .val (.ref ol), .val (.int rr), .unset] [(.int ((((fn5 nn (0 : Int32) q0 qq) + (fn5 nn (1 : Int32) zz1 qq)) + (fn5 nn (2 : Int32) zz2 qq)) + (fn5 nn (3 : Int32) zz3 qq)))])) _
                      refine XS.iload X100.here hx rfl (hb hby at_242) rfl ?_
                      show Steps p.tables e below (T100.setTop (mkF m 244 #[.val (.int p0), .val (.long q0), .second, .val (.int pg), .val (.int ph), .val (.int po), .val (.int nn), .val (.long q0), .second, .val (.long zz1), .second, .val (.long zz2), .second, .val (.long zz3), .second, .val (.long zz4), .second, .val (.long qq), .second, .val (.ref ol), .val (.int rr), .unset] [(.int nn), (.int ((((fn5 nn (0 : Int32) q0 qq) + (fn5 nn (1 : Int32) zz1 qq)) + (fn5 nn (2 : Int32) zz2 qq)) + (fn5 nn (3 : Int32) zz3 qq)))])) _
                      refine XS.iconst X100.here hx rfl (hb hby at_244) ?_
                      show Steps p.tables e below (T100.setTop (mkF m 245 #[.val (.int p0), .val (.long q0), .second, .val (.int pg), .val (.int ph), .val (.int po), .val (.int nn), .val (.long q0), .second, .val (.long zz1), .second, .val (.long zz2), .second, .val (.long zz3), .second, .val (.long zz4), .second, .val (.long qq), .second, .val (.ref ol), .val (.int rr), .unset] [(.int (4 : Int32)), (.int nn), (.int ((((fn5 nn (0 : Int32) q0 qq) + (fn5 nn (1 : Int32) zz1 qq)) + (fn5 nn (2 : Int32) zz2 qq)) + (fn5 nn (3 : Int32) zz3 qq)))])) _
                      refine XS.lload X100.here hx rfl (hb hby at_245) rfl ?_
                      show Steps p.tables e below (T100.setTop (mkF m 247 #[.val (.int p0), .val (.long q0), .second, .val (.int pg), .val (.int ph), .val (.int po), .val (.int nn), .val (.long q0), .second, .val (.long zz1), .second, .val (.long zz2), .second, .val (.long zz3), .second, .val (.long zz4), .second, .val (.long qq), .second, .val (.ref ol), .val (.int rr), .unset] [(.long zz4), (.int (4 : Int32)), (.int nn), (.int ((((fn5 nn (0 : Int32) q0 qq) + (fn5 nn (1 : Int32) zz1 qq)) + (fn5 nn (2 : Int32) zz2 qq)) + (fn5 nn (3 : Int32) zz3 qq)))])) _
                      refine XS.lload X100.here hx rfl (hb hby at_247) rfl ?_
                      show Steps p.tables e below (T100.setTop (mkF m 249 #[.val (.int p0), .val (.long q0), .second, .val (.int pg), .val (.int ph), .val (.int po), .val (.int nn), .val (.long q0), .second, .val (.long zz1), .second, .val (.long zz2), .second, .val (.long zz3), .second, .val (.long zz4), .second, .val (.long qq), .second, .val (.ref ol), .val (.int rr), .unset] [(.long qq), (.long zz4), (.int (4 : Int32)), (.int nn), (.int ((((fn5 nn (0 : Int32) q0 qq) + (fn5 nn (1 : Int32) zz1 qq)) + (fn5 nn (2 : Int32) zz2 qq)) + (fn5 nn (3 : Int32) zz3 qq)))])) _
                      refine st101 _ ?_
                      show Steps p.tables e below (T101.setTop (mkF m 252 #[.val (.int p0), .val (.long q0), .second, .val (.int pg), .val (.int ph), .val (.int po), .val (.int nn), .val (.long q0), .second, .val (.long zz1), .second, .val (.long zz2), .second, .val (.long zz3), .second, .val (.long zz4), .second, .val (.long qq), .second, .val (.ref ol), .val (.int rr), .unset] [(.int (fn5 nn (4 : Int32) zz4 qq)), (.int ((((fn5 nn (0 : Int32) q0 qq) + (fn5 nn (1 : Int32) zz1 qq)) + (fn5 nn (2 : Int32) zz2 qq)) + (fn5 nn (3 : Int32) zz3 qq)))])) _
                      refine XS.iadd X101.here hx rfl (hb hby at_252) rfl ?_
                      show Steps p.tables e below (T101.setTop (mkF m 253 #[.val (.int p0), .val (.long q0), .second, .val (.int pg), .val (.int ph), .val (.int po), .val (.int nn), .val (.long q0), .second, .val (.long zz1), .second, .val (.long zz2), .second, .val (.long zz3), .second, .val (.long zz4), .second, .val (.long qq), .second, .val (.ref ol), .val (.int rr), .unset] [(.int (((((fn5 nn (0 : Int32) q0 qq) + (fn5 nn (1 : Int32) zz1 qq)) + (fn5 nn (2 : Int32) zz2 qq)) + (fn5 nn (3 : Int32) zz3 qq)) + (fn5 nn (4 : Int32) zz4 qq)))])) _
                      refine XS.iconst X101.here hx rfl (hb hby at_253) ?_
                      show Steps p.tables e below (T101.setTop (mkF m 254 #[.val (.int p0), .val (.long q0), .second, .val (.int pg), .val (.int ph), .val (.int po), .val (.int nn), .val (.long q0), .second, .val (.long zz1), .second, .val (.long zz2), .second, .val (.long zz3), .second, .val (.long zz4), .second, .val (.long qq), .second, .val (.ref ol), .val (.int rr), .unset] [(.int (1 : Int32)), (.int (((((fn5 nn (0 : Int32) q0 qq) + (fn5 nn (1 : Int32) zz1 qq)) + (fn5 nn (2 : Int32) zz2 qq)) + (fn5 nn (3 : Int32) zz3 qq)) + (fn5 nn (4 : Int32) zz4 qq)))])) _
                      refine XS.isub X101.here hx rfl (hb hby at_254) rfl ?_
                      exact kt
                    obtain ⟨ex, h_ex⟩ : ∃ z : Int32, z = ((((((fn5 nn (0 : Int32) q0 qq) + (fn5 nn (1 : Int32) zz1 qq)) + (fn5 nn (2 : Int32) zz2 qq)) + (fn5 nn (3 : Int32) zz3 qq)) + (fn5 nn (4 : Int32) zz4 qq)) - (1 : Int32)) := ⟨_, rfl⟩
                    have pre103 : ∀ t, Steps p.tables e below (T101.setTop (mkF m 255 #[.val (.int p0), .val (.long q0), .second, .val (.int pg), .val (.int ph), .val (.int po), .val (.int nn), .val (.long q0), .second, .val (.long zz1), .second, .val (.long zz2), .second, .val (.long zz3), .second, .val (.long zz4), .second, .val (.long qq), .second, .val (.ref ol), .val (.int rr), .unset] [(.int ex)])) t → Steps p.tables e below (s₁.setTop (entryFrame m #[(.int p0), (.long q0), (.int pg), (.int ph), (.int po)] maxLocals)) t := by
                      intro t kt
                      rw [h_ex] at kt
                      exact pre102 _ kt
                    have pre104 : ∀ t, Steps p.tables e below (T101.setTop (mkF m 261 #[.val (.int p0), .val (.long q0), .second, .val (.int pg), .val (.int ph), .val (.int po), .val (.int nn), .val (.long q0), .second, .val (.long zz1), .second, .val (.long zz2), .second, .val (.long zz3), .second, .val (.long zz4), .second, .val (.long qq), .second, .val (.ref ol), .val (.int rr), .val (.int ex)] [(.int ex), (.int rr)])) t → Steps p.tables e below (s₁.setTop (entryFrame m #[(.int p0), (.long q0), (.int pg), (.int ph), (.int po)] maxLocals)) t := by
                      intro t kt
                      refine pre103 _ ?_
                      show Steps p.tables e below (T101.setTop (mkF m 255 #[.val (.int p0), .val (.long q0), .second, .val (.int pg), .val (.int ph), .val (.int po), .val (.int nn), .val (.long q0), .second, .val (.long zz1), .second, .val (.long zz2), .second, .val (.long zz3), .second, .val (.long zz4), .second, .val (.long qq), .second, .val (.ref ol), .val (.int rr), .unset] [(.int ex)])) _
                      refine XS.istore X101.here hx rfl (hb hby at_255) rfl (l' := #[.val (.int p0), .val (.long q0), .second, .val (.int pg), .val (.int ph), .val (.int po), .val (.int nn), .val (.long q0), .second, .val (.long zz1), .second, .val (.long zz2), .second, .val (.long zz3), .second, .val (.long zz4), .second, .val (.long qq), .second, .val (.ref ol), .val (.int rr), .val (.int ex)]) rfl ?_
                      show Steps p.tables e below (T101.setTop (mkF m 257 #[.val (.int p0), .val (.long q0), .second, .val (.int pg), .val (.int ph), .val (.int po), .val (.int nn), .val (.long q0), .second, .val (.long zz1), .second, .val (.long zz2), .second, .val (.long zz3), .second, .val (.long zz4), .second, .val (.long qq), .second, .val (.ref ol), .val (.int rr), .val (.int ex)] [])) _
                      refine XS.iload X101.here hx rfl (hb hby at_257) rfl ?_
                      show Steps p.tables e below (T101.setTop (mkF m 259 #[.val (.int p0), .val (.long q0), .second, .val (.int pg), .val (.int ph), .val (.int po), .val (.int nn), .val (.long q0), .second, .val (.long zz1), .second, .val (.long zz2), .second, .val (.long zz3), .second, .val (.long zz4), .second, .val (.long qq), .second, .val (.ref ol), .val (.int rr), .val (.int ex)] [(.int rr)])) _
                      refine XS.iload X101.here hx rfl (hb hby at_259) rfl ?_
                      exact kt
                    by_cases hc261_105 : rr = ex
                    · skip
                      have pre106 : ∀ t, Steps p.tables e below (T101.setTop (mkF m 269 #[.val (.int p0), .val (.long q0), .second, .val (.int pg), .val (.int ph), .val (.int po), .val (.int nn), .val (.long q0), .second, .val (.long zz1), .second, .val (.long zz2), .second, .val (.long zz3), .second, .val (.long zz4), .second, .val (.long qq), .second, .val (.ref ol), .val (.int rr), .val (.int ex)] [(.int (1 : Int32))])) t → Steps p.tables e below (s₁.setTop (entryFrame m #[(.int p0), (.long q0), (.int pg), (.int ph), (.int po)] maxLocals)) t := by
                        intro t kt
                        refine pre104 _ ?_
                        show Steps p.tables e below (T101.setTop (mkF m 261 #[.val (.int p0), .val (.long q0), .second, .val (.int pg), .val (.int ph), .val (.int po), .val (.int nn), .val (.long q0), .second, .val (.long zz1), .second, .val (.long zz2), .second, .val (.long zz3), .second, .val (.long zz4), .second, .val (.long qq), .second, .val (.ref ol), .val (.int rr), .val (.int ex)] [(.int ex), (.int rr)])) _
                        refine XS.icmpNo X101.here hx rfl (hb hby at_261) rfl (XT.ii_ne_f hc261_105) ?_
                        show Steps p.tables e below (T101.setTop (mkF m 264 #[.val (.int p0), .val (.long q0), .second, .val (.int pg), .val (.int ph), .val (.int po), .val (.int nn), .val (.long q0), .second, .val (.long zz1), .second, .val (.long zz2), .second, .val (.long zz3), .second, .val (.long zz4), .second, .val (.long qq), .second, .val (.ref ol), .val (.int rr), .val (.int ex)] [])) _
                        refine XS.iconst X101.here hx rfl (hb hby at_264) ?_
                        show Steps p.tables e below (T101.setTop (mkF m 265 #[.val (.int p0), .val (.long q0), .second, .val (.int pg), .val (.int ph), .val (.int po), .val (.int nn), .val (.long q0), .second, .val (.long zz1), .second, .val (.long zz2), .second, .val (.long zz3), .second, .val (.long zz4), .second, .val (.long qq), .second, .val (.ref ol), .val (.int rr), .val (.int ex)] [(.int (1 : Int32))])) _
                        refine XS.goto X101.here hx rfl (pc0 := 265) (pc' := 269) rfl (hb hby at_265) (by decide) (by decide) ?_
                        exact kt
                      obtain ⟨fs, hr, hrun, hended, hW, hsame⟩ := X101.leave (v := some (.int (1 : Int32))) (fun h => by rw [Bd.returns] at h; cases h)
                      refine ⟨_, _, pre106 _ ?_, hrun, hended, _, _, rfl, ?_, ⟨_, rfl⟩, hW, hsame.mono (by decide) (by decide)⟩
                      · show Steps p.tables e below (T101.setTop (mkF m 269 #[.val (.int p0), .val (.long q0), .second, .val (.int pg), .val (.int ph), .val (.int po), .val (.int nn), .val (.long q0), .second, .val (.long zz1), .second, .val (.long zz2), .second, .val (.long zz3), .second, .val (.long zz4), .second, .val (.long qq), .second, .val (.ref ol), .val (.int rr), .val (.int ex)] [(.int (1 : Int32))])) _
                        exact retN X101 hx (t := .boolean) Bd.returns (by simp) (hb hby at_269) hr
                      · show Q0 Z p0 q0 pg ph po h0 n0 _ T101.heap _
                        rw [hE101]
                        exact ⟨rfl, N101⟩
                    · skip
                      exact absurd (own_law5 nn q0 zz1 zz2 zz3 zz4 qq fz h_fz rr sp ex h_ex (by have r := own_nn _ _ h_nn; have a0 := hc110_37; rw [Int32.lt_iff_toInt_lt] at a0; have a1 := hc125_49; rw [Int32.lt_iff_toInt_lt] at a1; have a2 := hc142_61; rw [Int32.lt_iff_toInt_lt] at a2; have a3 := hc159_73; rw [Int32.lt_iff_toInt_lt] at a3; have a4 := hc176_85; rw [Int32.lt_iff_toInt_lt] at a4; have l0 : (0 : Int32).toInt = 0 := rfl; have l1 : (1 : Int32).toInt = 1 := rfl; have l2 : (2 : Int32).toInt = 2 := rfl; have l3 : (3 : Int32).toInt = 3 := rfl; have l4 : (4 : Int32).toInt = 4 := rfl; omega)) hc261_105
                  · skip
                    obtain ⟨fz, h_fz⟩ : ∃ g : Nat → Int64, g = (owUp (owUp (owUp (owUp (fun _ => 0) 0 q0) 1 zz1) 2 zz2) 3 zz3) := ⟨_, rfl⟩
                    have Vz := p74_5
                    rw [← h_fz] at Vz
                    obtain ⟨cq107, kq107, q107a, q107b, q107c⟩ := isOf hZ rfl p74_0
                    obtain ⟨_, _, ⟨T107, L107, k107, n107⟩, -, X107, ⟨Lc107, hQ107, l107, y107, z107⟩, st107⟩ := X74.virtualBack hx (y := (⟨"com/example/quorumvote/quorumvote/simulation/SimulatedLog", "placeAtOrBelow", "(J)I"⟩ : MethodName)) (z := (⟨"com/example/quorumvote/quorumvote/simulation/SimulatedLog", "placeAtOrBelow", "(J)I"⟩ : MethodName)) hown (mvT hZ (hw _ (List.mem_of_getElem? (i := 28) rfl))) (mvT hZ (hw _ (List.mem_of_getElem? (i := 29) rfl))) (notFace_of_selects (args := #[]) (mvT hZ (hw _ (List.mem_of_getElem? (i := 31) rfl)))) (mvT hZ (hw _ (List.mem_of_getElem? (i := 31) rfl))) (mvT hZ (hw _ (List.mem_of_getElem? (i := 30) rfl))) (by decide) (backOf (W := 0) (rm4 l Z a0 hw [] ol qq bz (4 : Int32) fz 4 T74.heap n0 Z83 p74_1 p74_4 Vz rfl (by decide) (own_so4 _ _ _ _ _ fz h_fz z1 z2 z3 z4)) hZ (hw _ (List.mem_of_getElem? (i := 32) rfl)) (hw _ (List.mem_of_getElem? (i := 5) rfl)) (by decide) (by decide)) q107a q107c (g := (mkF m 194 #[.val (.int p0), .val (.long q0), .second, .val (.int pg), .val (.int ph), .val (.int po), .val (.int nn), .val (.long q0), .second, .val (.long zz1), .second, .val (.long zz2), .second, .val (.long zz3), .second, .val (.long zz4), .second, .val (.long qq), .second, .val (.ref ol), .unset, .unset] [(.long qq), (.ref ol)])) rfl (by rw [hml]; rfl) (Steps.refl _) (argsL := [(.long qq)]) (rest := []) (lenOf pd_3 rfl) rfl (by show 2 * 0 + _ ≤ _; exact Nat.le_of_eq rfl) (hb hby at_194) (fun _ _ => ⟨rfl, rfl, (by decide : 4 + 0 ≤ _), (by decide : 57 + 0 ≤ _)⟩)
                    dsimp only [Pt.U, Pt.locs, Pt.cells, Pt.slots] at X107 l107 y107 z107 st107 hQ107
                    subst l107 y107 z107
                    obtain ⟨rr, rfl, N107q, hE107, sp⟩ := hQ107
                    have N107 := Fr.app N74 N107q
                    obtain ⟨_, _, ⟨T108, L108, k108, n108⟩, -, X108, ⟨Lc108, hQ108, l108, y108, z108⟩, st108⟩ := Jvm.LawKit.callS X107 hx (y := (⟨"com/example/quorumvote/quorumvote/simulation/SimulatedLogPlaceAtOrBelowPinLaw", "at", "(IIJJ)I"⟩ : MethodName)) hown (mvT hZ (hw _ (List.mem_of_getElem? (i := 33) rfl))) (mvT hZ (hw _ (List.mem_of_getElem? (i := 34) rfl))) (mvT hZ (hw _ (List.mem_of_getElem? (i := 35) rfl))) (mvT hZ (hw _ (List.mem_of_getElem? (i := 36) rfl))) (by decide) (backOf (W := 0) (rm5 l Z a0 hw [] nn (0 : Int32) q0 qq T74.heap n0 Z83) hZ (hw _ (List.mem_of_getElem? (i := 36) rfl)) (hw _ (List.mem_of_getElem? (i := 35) rfl)) (by decide) (by decide)) (g := (mkF m 206 #[.val (.int p0), .val (.long q0), .second, .val (.int pg), .val (.int ph), .val (.int po), .val (.int nn), .val (.long q0), .second, .val (.long zz1), .second, .val (.long zz2), .second, .val (.long zz3), .second, .val (.long zz4), .second, .val (.long qq), .second, .val (.ref ol), .val (.int rr), .unset] [(.long qq), (.long q0), (.int (0 : Int32)), (.int nn)])) rfl (by rw [hml]; rfl) (argsL := [(.int nn), (.int (0 : Int32)), (.long q0), (.long qq)]) (rest := []) (lenOf pd_4 rfl) rfl (by show 2 * 0 + _ ≤ _; exact Nat.le_of_eq rfl) (hb hby at_206) (fun _ _ => ⟨rfl, hE107, (by decide : 4 + 0 ≤ _), (by decide : 57 + 0 ≤ _)⟩)
                    dsimp only [Pt.U, Pt.locs, Pt.cells, Pt.slots] at X108 l108 y108 z108 st108 hQ108
                    subst l108 y108 z108
                    obtain ⟨rfl, N108q, hE108⟩ := hQ108
                    have N108 := Fr.app N107 N108q
                    obtain ⟨_, _, ⟨T109, L109, k109, n109⟩, -, X109, ⟨Lc109, hQ109, l109, y109, z109⟩, st109⟩ := Jvm.LawKit.callS X108 hx (y := (⟨"com/example/quorumvote/quorumvote/simulation/SimulatedLogPlaceAtOrBelowPinLaw", "at", "(IIJJ)I"⟩ : MethodName)) hown (mvT hZ (hw _ (List.mem_of_getElem? (i := 33) rfl))) (mvT hZ (hw _ (List.mem_of_getElem? (i := 34) rfl))) (mvT hZ (hw _ (List.mem_of_getElem? (i := 35) rfl))) (mvT hZ (hw _ (List.mem_of_getElem? (i := 36) rfl))) (by decide) (backOf (W := 1) (rm5 l Z a0 hw [] nn (1 : Int32) zz1 qq T74.heap n0 Z83) hZ (hw _ (List.mem_of_getElem? (i := 36) rfl)) (hw _ (List.mem_of_getElem? (i := 35) rfl)) (by decide) (by decide)) (g := (mkF m 216 #[.val (.int p0), .val (.long q0), .second, .val (.int pg), .val (.int ph), .val (.int po), .val (.int nn), .val (.long q0), .second, .val (.long zz1), .second, .val (.long zz2), .second, .val (.long zz3), .second, .val (.long zz4), .second, .val (.long qq), .second, .val (.ref ol), .val (.int rr), .unset] [(.long qq), (.long zz1), (.int (1 : Int32)), (.int nn), (.int (fn5 nn (0 : Int32) q0 qq))])) rfl (by rw [hml]; rfl) (argsL := [(.int nn), (.int (1 : Int32)), (.long zz1), (.long qq)]) (rest := [(.int (fn5 nn (0 : Int32) q0 qq))]) (lenOf pd_4 rfl) rfl (by show 2 * 0 + _ ≤ _; exact Nat.le_of_eq rfl) (hb hby at_216) (fun _ _ => ⟨rfl, hE108, (by decide : 4 + 0 ≤ _), (by decide : 57 + 0 ≤ _)⟩)
                    dsimp only [Pt.U, Pt.locs, Pt.cells, Pt.slots] at X109 l109 y109 z109 st109 hQ109
                    subst l109 y109 z109
                    obtain ⟨rfl, N109q, hE109⟩ := hQ109
                    have N109 := Fr.app N108 N109q
                    obtain ⟨_, _, ⟨T110, L110, k110, n110⟩, -, X110, ⟨Lc110, hQ110, l110, y110, z110⟩, st110⟩ := Jvm.LawKit.callS X109 hx (y := (⟨"com/example/quorumvote/quorumvote/simulation/SimulatedLogPlaceAtOrBelowPinLaw", "at", "(IIJJ)I"⟩ : MethodName)) hown (mvT hZ (hw _ (List.mem_of_getElem? (i := 33) rfl))) (mvT hZ (hw _ (List.mem_of_getElem? (i := 34) rfl))) (mvT hZ (hw _ (List.mem_of_getElem? (i := 35) rfl))) (mvT hZ (hw _ (List.mem_of_getElem? (i := 36) rfl))) (by decide) (backOf (W := 1) (rm5 l Z a0 hw [] nn (2 : Int32) zz2 qq T74.heap n0 Z83) hZ (hw _ (List.mem_of_getElem? (i := 36) rfl)) (hw _ (List.mem_of_getElem? (i := 35) rfl)) (by decide) (by decide)) (g := (mkF m 227 #[.val (.int p0), .val (.long q0), .second, .val (.int pg), .val (.int ph), .val (.int po), .val (.int nn), .val (.long q0), .second, .val (.long zz1), .second, .val (.long zz2), .second, .val (.long zz3), .second, .val (.long zz4), .second, .val (.long qq), .second, .val (.ref ol), .val (.int rr), .unset] [(.long qq), (.long zz2), (.int (2 : Int32)), (.int nn), (.int ((fn5 nn (0 : Int32) q0 qq) + (fn5 nn (1 : Int32) zz1 qq)))])) rfl (by rw [hml]; rfl) (argsL := [(.int nn), (.int (2 : Int32)), (.long zz2), (.long qq)]) (rest := [(.int ((fn5 nn (0 : Int32) q0 qq) + (fn5 nn (1 : Int32) zz1 qq)))]) (lenOf pd_4 rfl) rfl (by show 2 * 0 + _ ≤ _; exact Nat.le_of_eq rfl) (hb hby at_227) (fun _ _ => ⟨rfl, hE109, (by decide : 4 + 0 ≤ _), (by decide : 57 + 0 ≤ _)⟩)
                    dsimp only [Pt.U, Pt.locs, Pt.cells, Pt.slots] at X110 l110 y110 z110 st110 hQ110
                    subst l110 y110 z110
                    obtain ⟨rfl, N110q, hE110⟩ := hQ110
                    have N110 := Fr.app N109 N110q
                    obtain ⟨_, _, ⟨T111, L111, k111, n111⟩, -, X111, ⟨Lc111, hQ111, l111, y111, z111⟩, st111⟩ := Jvm.LawKit.callS X110 hx (y := (⟨"com/example/quorumvote/quorumvote/simulation/SimulatedLogPlaceAtOrBelowPinLaw", "at", "(IIJJ)I"⟩ : MethodName)) hown (mvT hZ (hw _ (List.mem_of_getElem? (i := 33) rfl))) (mvT hZ (hw _ (List.mem_of_getElem? (i := 34) rfl))) (mvT hZ (hw _ (List.mem_of_getElem? (i := 35) rfl))) (mvT hZ (hw _ (List.mem_of_getElem? (i := 36) rfl))) (by decide) (backOf (W := 1) (rm5 l Z a0 hw [] nn (3 : Int32) zz3 qq T74.heap n0 Z83) hZ (hw _ (List.mem_of_getElem? (i := 36) rfl)) (hw _ (List.mem_of_getElem? (i := 35) rfl)) (by decide) (by decide)) (g := (mkF m 238 #[.val (.int p0), .val (.long q0), .second, .val (.int pg), .val (.int ph), .val (.int po), .val (.int nn), .val (.long q0), .second, .val (.long zz1), .second, .val (.long zz2), .second, .val (.long zz3), .second, .val (.long zz4), .second, .val (.long qq), .second, .val (.ref ol), .val (.int rr), .unset] [(.long qq), (.long zz3), (.int (3 : Int32)), (.int nn), (.int (((fn5 nn (0 : Int32) q0 qq) + (fn5 nn (1 : Int32) zz1 qq)) + (fn5 nn (2 : Int32) zz2 qq)))])) rfl (by rw [hml]; rfl) (argsL := [(.int nn), (.int (3 : Int32)), (.long zz3), (.long qq)]) (rest := [(.int (((fn5 nn (0 : Int32) q0 qq) + (fn5 nn (1 : Int32) zz1 qq)) + (fn5 nn (2 : Int32) zz2 qq)))]) (lenOf pd_4 rfl) rfl (by show 2 * 0 + _ ≤ _; exact Nat.le_of_eq rfl) (hb hby at_238) (fun _ _ => ⟨rfl, hE110, (by decide : 4 + 0 ≤ _), (by decide : 57 + 0 ≤ _)⟩)
                    dsimp only [Pt.U, Pt.locs, Pt.cells, Pt.slots] at X111 l111 y111 z111 st111 hQ111
                    subst l111 y111 z111
                    obtain ⟨rfl, N111q, hE111⟩ := hQ111
                    have N111 := Fr.app N110 N111q
                    obtain ⟨_, _, ⟨T112, L112, k112, n112⟩, -, X112, ⟨Lc112, hQ112, l112, y112, z112⟩, st112⟩ := Jvm.LawKit.callS X111 hx (y := (⟨"com/example/quorumvote/quorumvote/simulation/SimulatedLogPlaceAtOrBelowPinLaw", "at", "(IIJJ)I"⟩ : MethodName)) hown (mvT hZ (hw _ (List.mem_of_getElem? (i := 33) rfl))) (mvT hZ (hw _ (List.mem_of_getElem? (i := 34) rfl))) (mvT hZ (hw _ (List.mem_of_getElem? (i := 35) rfl))) (mvT hZ (hw _ (List.mem_of_getElem? (i := 36) rfl))) (by decide) (backOf (W := 1) (rm5 l Z a0 hw [] nn (4 : Int32) zz4 qq T74.heap n0 Z83) hZ (hw _ (List.mem_of_getElem? (i := 36) rfl)) (hw _ (List.mem_of_getElem? (i := 35) rfl)) (by decide) (by decide)) (g := (mkF m 249 #[.val (.int p0), .val (.long q0), .second, .val (.int pg), .val (.int ph), .val (.int po), .val (.int nn), .val (.long q0), .second, .val (.long zz1), .second, .val (.long zz2), .second, .val (.long zz3), .second, .val (.long zz4), .second, .val (.long qq), .second, .val (.ref ol), .val (.int rr), .unset] [(.long qq), (.long zz4), (.int (4 : Int32)), (.int nn), (.int ((((fn5 nn (0 : Int32) q0 qq) + (fn5 nn (1 : Int32) zz1 qq)) + (fn5 nn (2 : Int32) zz2 qq)) + (fn5 nn (3 : Int32) zz3 qq)))])) rfl (by rw [hml]; rfl) (argsL := [(.int nn), (.int (4 : Int32)), (.long zz4), (.long qq)]) (rest := [(.int ((((fn5 nn (0 : Int32) q0 qq) + (fn5 nn (1 : Int32) zz1 qq)) + (fn5 nn (2 : Int32) zz2 qq)) + (fn5 nn (3 : Int32) zz3 qq)))]) (lenOf pd_4 rfl) rfl (by show 2 * 0 + _ ≤ _; exact Nat.le_of_eq rfl) (hb hby at_249) (fun _ _ => ⟨rfl, hE111, (by decide : 4 + 0 ≤ _), (by decide : 57 + 0 ≤ _)⟩)
                    dsimp only [Pt.U, Pt.locs, Pt.cells, Pt.slots] at X112 l112 y112 z112 st112 hQ112
                    subst l112 y112 z112
                    obtain ⟨rfl, N112q, hE112⟩ := hQ112
                    have N112 := Fr.app N111 N112q
                    have pre113 : ∀ t, Steps p.tables e below (T112.setTop (mkF m 255 #[.val (.int p0), .val (.long q0), .second, .val (.int pg), .val (.int ph), .val (.int po), .val (.int nn), .val (.long q0), .second, .val (.long zz1), .second, .val (.long zz2), .second, .val (.long zz3), .second, .val (.long zz4), .second, .val (.long qq), .second, .val (.ref ol), .val (.int rr), .unset] [(.int ((((((fn5 nn (0 : Int32) q0 qq) + (fn5 nn (1 : Int32) zz1 qq)) + (fn5 nn (2 : Int32) zz2 qq)) + (fn5 nn (3 : Int32) zz3 qq)) + (fn5 nn (4 : Int32) zz4 qq)) - (1 : Int32)))])) t → Steps p.tables e below (s₁.setTop (entryFrame m #[(.int p0), (.long q0), (.int pg), (.int ph), (.int po)] maxLocals)) t := by
                      intro t kt
                      refine pre84 _ ?_
                      show Steps p.tables e below (T74.setTop (mkF m 176 #[.val (.int p0), .val (.long q0), .second, .val (.int pg), .val (.int ph), .val (.int po), .val (.int nn), .val (.long q0), .second, .val (.long zz1), .second, .val (.long zz2), .second, .val (.long zz3), .second, .val (.long zz4), .second, .val (.long qq), .second, .val (.ref ol), .unset, .unset] [(.int (4 : Int32)), (.int nn)])) _
                      refine XS.icmpYes X74.here hx rfl (pc0 := 176) (pc' := 190) rfl (hb hby at_176) rfl (XT.ii_le_t hc176_85) (by decide) (by decide) ?_
                      show Steps p.tables e below (T74.setTop (mkF m 190 #[.val (.int p0), .val (.long q0), .second, .val (.int pg), .val (.int ph), .val (.int po), .val (.int nn), .val (.long q0), .second, .val (.long zz1), .second, .val (.long zz2), .second, .val (.long zz3), .second, .val (.long zz4), .second, .val (.long qq), .second, .val (.ref ol), .unset, .unset] [])) _
                      refine XS.aload X74.here hx rfl (hb hby at_190) rfl rfl ?_
                      show Steps p.tables e below (T74.setTop (mkF m 192 #[.val (.int p0), .val (.long q0), .second, .val (.int pg), .val (.int ph), .val (.int po), .val (.int nn), .val (.long q0), .second, .val (.long zz1), .second, .val (.long zz2), .second, .val (.long zz3), .second, .val (.long zz4), .second, .val (.long qq), .second, .val (.ref ol), .unset, .unset] [(.ref ol)])) _
                      refine XS.lload X74.here hx rfl (hb hby at_192) rfl ?_
                      show Steps p.tables e below (T74.setTop (mkF m 194 #[.val (.int p0), .val (.long q0), .second, .val (.int pg), .val (.int ph), .val (.int po), .val (.int nn), .val (.long q0), .second, .val (.long zz1), .second, .val (.long zz2), .second, .val (.long zz3), .second, .val (.long zz4), .second, .val (.long qq), .second, .val (.ref ol), .unset, .unset] [(.long qq), (.ref ol)])) _
                      refine st107.trans ?_
                      show Steps p.tables e below (T107.setTop (mkF m 197 #[.val (.int p0), .val (.long q0), .second, .val (.int pg), .val (.int ph), .val (.int po), .val (.int nn), .val (.long q0), .second, .val (.long zz1), .second, .val (.long zz2), .second, .val (.long zz3), .second, .val (.long zz4), .second, .val (.long qq), .second, .val (.ref ol), .unset, .unset] [(.int rr)])) _
                      refine XS.istore X107.here hx rfl (hb hby at_197) rfl (l' := #[.val (.int p0), .val (.long q0), .second, .val (.int pg), .val (.int ph), .val (.int po), .val (.int nn), .val (.long q0), .second, .val (.long zz1), .second, .val (.long zz2), .second, .val (.long zz3), .second, .val (.long zz4), .second, .val (.long qq), .second, .val (.ref ol), .val (.int rr), .unset]) rfl ?_
                      show Steps p.tables e below (T107.setTop (mkF m 199 #[.val (.int p0), .val (.long q0), .second, .val (.int pg), .val (.int ph), .val (.int po), .val (.int nn), .val (.long q0), .second, .val (.long zz1), .second, .val (.long zz2), .second, .val (.long zz3), .second, .val (.long zz4), .second, .val (.long qq), .second, .val (.ref ol), .val (.int rr), .unset] [])) _
                      refine XS.iload X107.here hx rfl (hb hby at_199) rfl ?_
                      show Steps p.tables e below (T107.setTop (mkF m 201 #[.val (.int p0), .val (.long q0), .second, .val (.int pg), .val (.int ph), .val (.int po), .val (.int nn), .val (.long q0), .second, .val (.long zz1), .second, .val (.long zz2), .second, .val (.long zz3), .second, .val (.long zz4), .second, .val (.long qq), .second, .val (.ref ol), .val (.int rr), .unset] [(.int nn)])) _
                      refine XS.iconst X107.here hx rfl (hb hby at_201) ?_
                      show Steps p.tables e below (T107.setTop (mkF m 202 #[.val (.int p0), .val (.long q0), .second, .val (.int pg), .val (.int ph), .val (.int po), .val (.int nn), .val (.long q0), .second, .val (.long zz1), .second, .val (.long zz2), .second, .val (.long zz3), .second, .val (.long zz4), .second, .val (.long qq), .second, .val (.ref ol), .val (.int rr), .unset] [(.int (0 : Int32)), (.int nn)])) _
                      refine XS.lload X107.here hx rfl (hb hby at_202) rfl ?_
                      show Steps p.tables e below (T107.setTop (mkF m 204 #[.val (.int p0), .val (.long q0), .second, .val (.int pg), .val (.int ph), .val (.int po), .val (.int nn), .val (.long q0), .second, .val (.long zz1), .second, .val (.long zz2), .second, .val (.long zz3), .second, .val (.long zz4), .second, .val (.long qq), .second, .val (.ref ol), .val (.int rr), .unset] [(.long q0), (.int (0 : Int32)), (.int nn)])) _
                      refine XS.lload X107.here hx rfl (hb hby at_204) rfl ?_
                      show Steps p.tables e below (T107.setTop (mkF m 206 #[.val (.int p0), .val (.long q0), .second, .val (.int pg), .val (.int ph), .val (.int po), .val (.int nn), .val (.long q0), .second, .val (.long zz1), .second, .val (.long zz2), .second, .val (.long zz3), .second, .val (.long zz4), .second, .val (.long qq), .second, .val (.ref ol), .val (.int rr), .unset] [(.long qq), (.long q0), (.int (0 : Int32)), (.int nn)])) _
                      refine st108 _ ?_
                      show Steps p.tables e below (T108.setTop (mkF m 209 #[.val (.int p0), .val (.long q0), .second, .val (.int pg), .val (.int ph), .val (.int po), .val (.int nn), .val (.long q0), .second, .val (.long zz1), .second, .val (.long zz2), .second, .val (.long zz3), .second, .val (.long zz4), .second, .val (.long qq), .second, .val (.ref ol), .val (.int rr), .unset] [(.int (fn5 nn (0 : Int32) q0 qq))])) _
                      refine XS.iload X108.here hx rfl (hb hby at_209) rfl ?_
                      show Steps p.tables e below (T108.setTop (mkF m 211 #[.val (.int p0), .val (.long q0), .second, .val (.int pg), .val (.int ph), .val (.int po), .val (.int nn), .val (.long q0), .second, .val (.long zz1), .second, .val (.long zz2), .second, .val (.long zz3), .second, .val (.long zz4), .second, .val (.long qq), .second, .val (.ref ol), .val (.int rr), .unset] [(.int nn), (.int (fn5 nn (0 : Int32) q0 qq))])) _
                      refine XS.iconst X108.here hx rfl (hb hby at_211) ?_
                      show Steps p.tables e below (T108.setTop (mkF m 212 #[.val (.int p0), .val (.long q0), .second, .val (.int pg), .val (.int ph), .val (.int po), .val (.int nn), .val (.long q0), .second, .val (.long zz1), .second, .val (.long zz2), .second, .val (.long zz3), .second, .val (.long zz4), .second, .val (.long qq), .second, .val (.ref ol), .val (.int rr), .unset] [(.int (1 : Int32)), (.int nn), (.int (fn5 nn (0 : Int32) q0 qq))])) _
                      refine XS.lload X108.here hx rfl (hb hby at_212) rfl ?_
                      show Steps p.tables e below (T108.setTop (mkF m 214 #[.val (.int p0), .val (.long q0), .second, .val (.int pg), .val (.int ph), .val (.int po), .val (.int nn), .val (.long q0), .second, .val (.long zz1), .second, .val (.long zz2), .second, .val (.long zz3), .second, .val (.long zz4), .second, .val (.long qq), .second, .val (.ref ol), .val (.int rr), .unset] [(.long zz1), (.int (1 : Int32)), (.int nn), (.int (fn5 nn (0 : Int32) q0 qq))])) _
                      refine XS.lload X108.here hx rfl (hb hby at_214) rfl ?_
                      show Steps p.tables e below (T108.setTop (mkF m 216 #[.val (.int p0), .val (.long q0), .second, .val (.int pg), .val (.int ph), .val (.int po), .val (.int nn), .val (.long q0), .second, .val (.long zz1), .second, .val (.long zz2), .second, .val (.long zz3), .second, .val (.long zz4), .second, .val (.long qq), .second, .val (.ref ol), .val (.int rr), .unset] [(.long qq), (.long zz1), (.int (1 : Int32)), (.int nn), (.int (fn5 nn (0 : Int32) q0 qq))])) _
                      refine st109 _ ?_
                      show Steps p.tables e below (T109.setTop (mkF m 219 #[.val (.int p0), .val (.long q0), .second, .val (.int pg), .val (.int ph), .val (.int po), .val (.int nn), .val (.long q0), .second, .val (.long zz1), .second, .val (.long zz2), .second, .val (.long zz3), .second, .val (.long zz4), .second, .val (.long qq), .second, .val (.ref ol), .val (.int rr), .unset] [(.int (fn5 nn (1 : Int32) zz1 qq)), (.int (fn5 nn (0 : Int32) q0 qq))])) _
                      refine XS.iadd X109.here hx rfl (hb hby at_219) rfl ?_
                      show Steps p.tables e below (T109.setTop (mkF m 220 #[.val (.int p0), .val (.long q0), .second, .val (.int pg), .val (.int ph), .val (.int po), .val (.int nn), .val (.long q0), .second, .val (.long zz1), .second, .val (.long zz2), .second, .val (.long zz3), .second, .val (.long zz4), .second, .val (.long qq), .second, .val (.ref ol), .val (.int rr), .unset] [(.int ((fn5 nn (0 : Int32) q0 qq) + (fn5 nn (1 : Int32) zz1 qq)))])) _
                      refine XS.iload X109.here hx rfl (hb hby at_220) rfl ?_
                      show Steps p.tables e below (T109.setTop (mkF m 222 #[.val (.int p0), .val (.long q0), .second, .val (.int pg), .val (.int ph), .val (.int po), .val (.int nn), .val (.long q0), .second, .val (.long zz1), .second, .val (.long zz2), .second, .val (.long zz3), .second, .val (.long zz4), .second, .val (.long qq), .second, .val (.ref ol), .val (.int rr), .unset] [(.int nn), (.int ((fn5 nn (0 : Int32) q0 qq) + (fn5 nn (1 : Int32) zz1 qq)))])) _
                      refine XS.iconst X109.here hx rfl (hb hby at_222) ?_
                      show Steps p.tables e below (T109.setTop (mkF m 223 #[.val (.int p0), .val (.long q0), .second, .val (.int pg), .val (.int ph), .val (.int po), .val (.int nn), .val (.long q0), .second, .val (.long zz1), .second, .val (.long zz2), .second, .val (.long zz3), .second, .val (.long zz4), .second, .val (.long qq), .second, .val (.ref ol), .val (.int rr), .unset] [(.int (2 : Int32)), (.int nn), (.int ((fn5 nn (0 : Int32) q0 qq) + (fn5 nn (1 : Int32) zz1 qq)))])) _
                      refine XS.lload X109.here hx rfl (hb hby at_223) rfl ?_
                      show Steps p.tables e below (T109.setTop (mkF m 225 #[.val (.int p0), .val (.long q0), .second, .val (.int pg), .val (.int ph), .val (.int po), .val (.int nn), .val (.long q0), .second, .val (.long zz1), .second, .val (.long zz2), .second, .val (.long zz3), .second, .val (.long zz4), .second, .val (.long qq), .second, .val (.ref ol), .val (.int rr), .unset] [(.long zz2), (.int (2 : Int32)), (.int nn), (.int ((fn5 nn (0 : Int32) q0 qq) + (fn5 nn (1 : Int32) zz1 qq)))])) _
                      refine XS.lload X109.here hx rfl (hb hby at_225) rfl ?_
                      show Steps p.tables e below (T109.setTop (mkF m 227 #[.val (.int p0), .val (.long q0), .second, .val (.int pg), .val (.int ph), .val (.int po), .val (.int nn), .val (.long q0), .second, .val (.long zz1), .second, .val (.long zz2), .second, .val (.long zz3), .second, .val (.long zz4), .second, .val (.long qq), .second, .val (.ref ol), .val (.int rr), .unset] [(.long qq), (.long zz2), (.int (2 : Int32)), (.int nn), (.int ((fn5 nn (0 : Int32) q0 qq) + (fn5 nn (1 : Int32) zz1 qq)))])) _
                      refine st110 _ ?_
                      show Steps p.tables e below (T110.setTop (mkF m 230 #[.val (.int p0), .val (.long q0), .second, .val (.int pg), .val (.int ph), .val (.int po), .val (.int nn), .val (.long q0), .second, .val (.long zz1), .second, .val (.long zz2), .second, .val (.long zz3), .second, .val (.long zz4), .second, .val (.long qq), .second, .val (.ref ol), .val (.int rr), .unset] [(.int (fn5 nn (2 : Int32) zz2 qq)), (.int ((fn5 nn (0 : Int32) q0 qq) + (fn5 nn (1 : Int32) zz1 qq)))])) _
                      refine XS.iadd X110.here hx rfl (hb hby at_230) rfl ?_
                      show Steps p.tables e below (T110.setTop (mkF m 231 #[.val (.int p0), .val (.long q0), .second, .val (.int pg), .val (.int ph), .val (.int po), .val (.int nn), .val (.long q0), .second, .val (.long zz1), .second, .val (.long zz2), .second, .val (.long zz3), .second, .val (.long zz4), .second, .val (.long qq), .second, .val (.ref ol), .val (.int rr), .unset] [(.int (((fn5 nn (0 : Int32) q0 qq) + (fn5 nn (1 : Int32) zz1 qq)) + (fn5 nn (2 : Int32) zz2 qq)))])) _
                      refine XS.iload X110.here hx rfl (hb hby at_231) rfl ?_
                      show Steps p.tables e below (T110.setTop (mkF m 233 #[.val (.int p0), .val (.long q0), .second, .val (.int pg), .val (.int ph), .val (.int po), .val (.int nn), .val (.long q0), .second, .val (.long zz1), .second, .val (.long zz2), .second, .val (.long zz3), .second, .val (.long zz4), .second, .val (.long qq), .second, .val (.ref ol), .val (.int rr), .unset] [(.int nn), (.int (((fn5 nn (0 : Int32) q0 qq) + (fn5 nn (1 : Int32) zz1 qq)) + (fn5 nn (2 : Int32) zz2 qq)))])) _
                      refine XS.iconst X110.here hx rfl (hb hby at_233) ?_
                      show Steps p.tables e below (T110.setTop (mkF m 234 #[.val (.int p0), .val (.long q0), .second, .val (.int pg), .val (.int ph), .val (.int po), .val (.int nn), .val (.long q0), .second, .val (.long zz1), .second, .val (.long zz2), .second, .val (.long zz3), .second, .val (.long zz4), .second, .val (.long qq), .second, .val (.ref ol), .val (.int rr), .unset] [(.int (3 : Int32)), (.int nn), (.int (((fn5 nn (0 : Int32) q0 qq) + (fn5 nn (1 : Int32) zz1 qq)) + (fn5 nn (2 : Int32) zz2 qq)))])) _
                      refine XS.lload X110.here hx rfl (hb hby at_234) rfl ?_
                      show Steps p.tables e below (T110.setTop (mkF m 236 #[.val (.int p0), .val (.long q0), .second, .val (.int pg), .val (.int ph), .val (.int po), .val (.int nn), .val (.long q0), .second, .val (.long zz1), .second, .val (.long zz2), .second, .val (.long zz3), .second, .val (.long zz4), .second, .val (.long qq), .second, .val (.ref ol), .val (.int rr), .unset] [(.long zz3), (.int (3 : Int32)), (.int nn), (.int (((fn5 nn (0 : Int32) q0 qq) + (fn5 nn (1 : Int32) zz1 qq)) + (fn5 nn (2 : Int32) zz2 qq)))])) _
                      refine XS.lload X110.here hx rfl (hb hby at_236) rfl ?_
                      show Steps p.tables e below (T110.setTop (mkF m 238 #[.val (.int p0), .val (.long q0), .second, .val (.int pg), .val (.int ph), .val (.int po), .val (.int nn), .val (.long q0), .second, .val (.long zz1), .second, .val (.long zz2), .second, .val (.long zz3), .second, .val (.long zz4), .second, .val (.long qq), .second, .val (.ref ol), .val (.int rr), .unset] [(.long qq), (.long zz3), (.int (3 : Int32)), (.int nn), (.int (((fn5 nn (0 : Int32) q0 qq) + (fn5 nn (1 : Int32) zz1 qq)) + (fn5 nn (2 : Int32) zz2 qq)))])) _
                      refine st111 _ ?_
                      show Steps p.tables e below (T111.setTop (mkF m 241 #[.val (.int p0), .val (.long q0), .second, .val (.int pg), .val (.int ph), .val (.int po), .val (.int nn), .val (.long q0), .second, .val (.long zz1), .second, .val (.long zz2), .second, .val (.long zz3), .second, .val (.long zz4), .second, .val (.long qq), .second, .val (.ref ol), .val (.int rr), .unset] [(.int (fn5 nn (3 : Int32) zz3 qq)), (.int (((fn5 nn (0 : Int32) q0 qq) + (fn5 nn (1 : Int32) zz1 qq)) + (fn5 nn (2 : Int32) zz2 qq)))])) _
                      refine XS.iadd X111.here hx rfl (hb hby at_241) rfl ?_
                      show Steps p.tables e below (T111.setTop (mkF m 242 #[.val (.int p0), .val (.long q0), .second, .val (.int pg), .val (.int ph), .val (.int po), .val (.int nn), .val (.long q0), .second, .val (.long zz1), .second, .val (.long zz2), .second, .val (.long zz3), .second, .val (.long zz4), .second, .val (.long qq), .second, .val (.ref ol), .val (.int rr), .unset] [(.int ((((fn5 nn (0 : Int32) q0 qq) + (fn5 nn (1 : Int32) zz1 qq)) + (fn5 nn (2 : Int32) zz2 qq)) + (fn5 nn (3 : Int32) zz3 qq)))])) _
                      refine XS.iload X111.here hx rfl (hb hby at_242) rfl ?_
                      show Steps p.tables e below (T111.setTop (mkF m 244 #[.val (.int p0), .val (.long q0), .second, .val (.int pg), .val (.int ph), .val (.int po), .val (.int nn), .val (.long q0), .second, .val (.long zz1), .second, .val (.long zz2), .second, .val (.long zz3), .second, .val (.long zz4), .second, .val (.long qq), .second, .val (.ref ol), .val (.int rr), .unset] [(.int nn), (.int ((((fn5 nn (0 : Int32) q0 qq) + (fn5 nn (1 : Int32) zz1 qq)) + (fn5 nn (2 : Int32) zz2 qq)) + (fn5 nn (3 : Int32) zz3 qq)))])) _
                      refine XS.iconst X111.here hx rfl (hb hby at_244) ?_
                      show Steps p.tables e below (T111.setTop (mkF m 245 #[.val (.int p0), .val (.long q0), .second, .val (.int pg), .val (.int ph), .val (.int po), .val (.int nn), .val (.long q0), .second, .val (.long zz1), .second, .val (.long zz2), .second, .val (.long zz3), .second, .val (.long zz4), .second, .val (.long qq), .second, .val (.ref ol), .val (.int rr), .unset] [(.int (4 : Int32)), (.int nn), (.int ((((fn5 nn (0 : Int32) q0 qq) + (fn5 nn (1 : Int32) zz1 qq)) + (fn5 nn (2 : Int32) zz2 qq)) + (fn5 nn (3 : Int32) zz3 qq)))])) _
                      refine XS.lload X111.here hx rfl (hb hby at_245) rfl ?_
                      show Steps p.tables e below (T111.setTop (mkF m 247 #[.val (.int p0), .val (.long q0), .second, .val (.int pg), .val (.int ph), .val (.int po), .val (.int nn), .val (.long q0), .second, .val (.long zz1), .second, .val (.long zz2), .second, .val (.long zz3), .second, .val (.long zz4), .second, .val (.long qq), .second, .val (.ref ol), .val (.int rr), .unset] [(.long zz4), (.int (4 : Int32)), (.int nn), (.int ((((fn5 nn (0 : Int32) q0 qq) + (fn5 nn (1 : Int32) zz1 qq)) + (fn5 nn (2 : Int32) zz2 qq)) + (fn5 nn (3 : Int32) zz3 qq)))])) _
                      refine XS.lload X111.here hx rfl (hb hby at_247) rfl ?_
                      show Steps p.tables e below (T111.setTop (mkF m 249 #[.val (.int p0), .val (.long q0), .second, .val (.int pg), .val (.int ph), .val (.int po), .val (.int nn), .val (.long q0), .second, .val (.long zz1), .second, .val (.long zz2), .second, .val (.long zz3), .second, .val (.long zz4), .second, .val (.long qq), .second, .val (.ref ol), .val (.int rr), .unset] [(.long qq), (.long zz4), (.int (4 : Int32)), (.int nn), (.int ((((fn5 nn (0 : Int32) q0 qq) + (fn5 nn (1 : Int32) zz1 qq)) + (fn5 nn (2 : Int32) zz2 qq)) + (fn5 nn (3 : Int32) zz3 qq)))])) _
                      refine st112 _ ?_
                      show Steps p.tables e below (T112.setTop (mkF m 252 #[.val (.int p0), .val (.long q0), .second, .val (.int pg), .val (.int ph), .val (.int po), .val (.int nn), .val (.long q0), .second, .val (.long zz1), .second, .val (.long zz2), .second, .val (.long zz3), .second, .val (.long zz4), .second, .val (.long qq), .second, .val (.ref ol), .val (.int rr), .unset] [(.int (fn5 nn (4 : Int32) zz4 qq)), (.int ((((fn5 nn (0 : Int32) q0 qq) + (fn5 nn (1 : Int32) zz1 qq)) + (fn5 nn (2 : Int32) zz2 qq)) + (fn5 nn (3 : Int32) zz3 qq)))])) _
                      refine XS.iadd X112.here hx rfl (hb hby at_252) rfl ?_
                      show Steps p.tables e below (T112.setTop (mkF m 253 #[.val (.int p0), .val (.long q0), .second, .val (.int pg), .val (.int ph), .val (.int po), .val (.int nn), .val (.long q0), .second, .val (.long zz1), .second, .val (.long zz2), .second, .val (.long zz3), .second, .val (.long zz4), .second, .val (.long qq), .second, .val (.ref ol), .val (.int rr), .unset] [(.int (((((fn5 nn (0 : Int32) q0 qq) + (fn5 nn (1 : Int32) zz1 qq)) + (fn5 nn (2 : Int32) zz2 qq)) + (fn5 nn (3 : Int32) zz3 qq)) + (fn5 nn (4 : Int32) zz4 qq)))])) _
                      refine XS.iconst X112.here hx rfl (hb hby at_253) ?_
                      show Steps p.tables e below (T112.setTop (mkF m 254 #[.val (.int p0), .val (.long q0), .second, .val (.int pg), .val (.int ph), .val (.int po), .val (.int nn), .val (.long q0), .second, .val (.long zz1), .second, .val (.long zz2), .second, .val (.long zz3), .second, .val (.long zz4), .second, .val (.long qq), .second, .val (.ref ol), .val (.int rr), .unset] [(.int (1 : Int32)), (.int (((((fn5 nn (0 : Int32) q0 qq) + (fn5 nn (1 : Int32) zz1 qq)) + (fn5 nn (2 : Int32) zz2 qq)) + (fn5 nn (3 : Int32) zz3 qq)) + (fn5 nn (4 : Int32) zz4 qq)))])) _
                      refine XS.isub X112.here hx rfl (hb hby at_254) rfl ?_
                      exact kt
                    obtain ⟨ex, h_ex⟩ : ∃ z : Int32, z = ((((((fn5 nn (0 : Int32) q0 qq) + (fn5 nn (1 : Int32) zz1 qq)) + (fn5 nn (2 : Int32) zz2 qq)) + (fn5 nn (3 : Int32) zz3 qq)) + (fn5 nn (4 : Int32) zz4 qq)) - (1 : Int32)) := ⟨_, rfl⟩
                    have pre114 : ∀ t, Steps p.tables e below (T112.setTop (mkF m 255 #[.val (.int p0), .val (.long q0), .second, .val (.int pg), .val (.int ph), .val (.int po), .val (.int nn), .val (.long q0), .second, .val (.long zz1), .second, .val (.long zz2), .second, .val (.long zz3), .second, .val (.long zz4), .second, .val (.long qq), .second, .val (.ref ol), .val (.int rr), .unset] [(.int ex)])) t → Steps p.tables e below (s₁.setTop (entryFrame m #[(.int p0), (.long q0), (.int pg), (.int ph), (.int po)] maxLocals)) t := by
                      intro t kt
                      rw [h_ex] at kt
                      exact pre113 _ kt
                    have pre115 : ∀ t, Steps p.tables e below (T112.setTop (mkF m 261 #[.val (.int p0), .val (.long q0), .second, .val (.int pg), .val (.int ph), .val (.int po), .val (.int nn), .val (.long q0), .second, .val (.long zz1), .second, .val (.long zz2), .second, .val (.long zz3), .second, .val (.long zz4), .second, .val (.long qq), .second, .val (.ref ol), .val (.int rr), .val (.int ex)] [(.int ex), (.int rr)])) t → Steps p.tables e below (s₁.setTop (entryFrame m #[(.int p0), (.long q0), (.int pg), (.int ph), (.int po)] maxLocals)) t := by
                      intro t kt
                      refine pre114 _ ?_
                      show Steps p.tables e below (T112.setTop (mkF m 255 #[.val (.int p0), .val (.long q0), .second, .val (.int pg), .val (.int ph), .val (.int po), .val (.int nn), .val (.long q0), .second, .val (.long zz1), .second, .val (.long zz2), .second, .val (.long zz3), .second, .val (.long zz4), .second, .val (.long qq), .second, .val (.ref ol), .val (.int rr), .unset] [(.int ex)])) _
                      refine XS.istore X112.here hx rfl (hb hby at_255) rfl (l' := #[.val (.int p0), .val (.long q0), .second, .val (.int pg), .val (.int ph), .val (.int po), .val (.int nn), .val (.long q0), .second, .val (.long zz1), .second, .val (.long zz2), .second, .val (.long zz3), .second, .val (.long zz4), .second, .val (.long qq), .second, .val (.ref ol), .val (.int rr), .val (.int ex)]) rfl ?_
                      show Steps p.tables e below (T112.setTop (mkF m 257 #[.val (.int p0), .val (.long q0), .second, .val (.int pg), .val (.int ph), .val (.int po), .val (.int nn), .val (.long q0), .second, .val (.long zz1), .second, .val (.long zz2), .second, .val (.long zz3), .second, .val (.long zz4), .second, .val (.long qq), .second, .val (.ref ol), .val (.int rr), .val (.int ex)] [])) _
                      refine XS.iload X112.here hx rfl (hb hby at_257) rfl ?_
                      show Steps p.tables e below (T112.setTop (mkF m 259 #[.val (.int p0), .val (.long q0), .second, .val (.int pg), .val (.int ph), .val (.int po), .val (.int nn), .val (.long q0), .second, .val (.long zz1), .second, .val (.long zz2), .second, .val (.long zz3), .second, .val (.long zz4), .second, .val (.long qq), .second, .val (.ref ol), .val (.int rr), .val (.int ex)] [(.int rr)])) _
                      refine XS.iload X112.here hx rfl (hb hby at_259) rfl ?_
                      exact kt
                    by_cases hc261_116 : rr = ex
                    · skip
                      have pre117 : ∀ t, Steps p.tables e below (T112.setTop (mkF m 269 #[.val (.int p0), .val (.long q0), .second, .val (.int pg), .val (.int ph), .val (.int po), .val (.int nn), .val (.long q0), .second, .val (.long zz1), .second, .val (.long zz2), .second, .val (.long zz3), .second, .val (.long zz4), .second, .val (.long qq), .second, .val (.ref ol), .val (.int rr), .val (.int ex)] [(.int (1 : Int32))])) t → Steps p.tables e below (s₁.setTop (entryFrame m #[(.int p0), (.long q0), (.int pg), (.int ph), (.int po)] maxLocals)) t := by
                        intro t kt
                        refine pre115 _ ?_
                        show Steps p.tables e below (T112.setTop (mkF m 261 #[.val (.int p0), .val (.long q0), .second, .val (.int pg), .val (.int ph), .val (.int po), .val (.int nn), .val (.long q0), .second, .val (.long zz1), .second, .val (.long zz2), .second, .val (.long zz3), .second, .val (.long zz4), .second, .val (.long qq), .second, .val (.ref ol), .val (.int rr), .val (.int ex)] [(.int ex), (.int rr)])) _
                        refine XS.icmpNo X112.here hx rfl (hb hby at_261) rfl (XT.ii_ne_f hc261_116) ?_
                        show Steps p.tables e below (T112.setTop (mkF m 264 #[.val (.int p0), .val (.long q0), .second, .val (.int pg), .val (.int ph), .val (.int po), .val (.int nn), .val (.long q0), .second, .val (.long zz1), .second, .val (.long zz2), .second, .val (.long zz3), .second, .val (.long zz4), .second, .val (.long qq), .second, .val (.ref ol), .val (.int rr), .val (.int ex)] [])) _
                        refine XS.iconst X112.here hx rfl (hb hby at_264) ?_
                        show Steps p.tables e below (T112.setTop (mkF m 265 #[.val (.int p0), .val (.long q0), .second, .val (.int pg), .val (.int ph), .val (.int po), .val (.int nn), .val (.long q0), .second, .val (.long zz1), .second, .val (.long zz2), .second, .val (.long zz3), .second, .val (.long zz4), .second, .val (.long qq), .second, .val (.ref ol), .val (.int rr), .val (.int ex)] [(.int (1 : Int32))])) _
                        refine XS.goto X112.here hx rfl (pc0 := 265) (pc' := 269) rfl (hb hby at_265) (by decide) (by decide) ?_
                        exact kt
                      obtain ⟨fs, hr, hrun, hended, hW, hsame⟩ := X112.leave (v := some (.int (1 : Int32))) (fun h => by rw [Bd.returns] at h; cases h)
                      refine ⟨_, _, pre117 _ ?_, hrun, hended, _, _, rfl, ?_, ⟨_, rfl⟩, hW, hsame.mono (by decide) (by decide)⟩
                      · show Steps p.tables e below (T112.setTop (mkF m 269 #[.val (.int p0), .val (.long q0), .second, .val (.int pg), .val (.int ph), .val (.int po), .val (.int nn), .val (.long q0), .second, .val (.long zz1), .second, .val (.long zz2), .second, .val (.long zz3), .second, .val (.long zz4), .second, .val (.long qq), .second, .val (.ref ol), .val (.int rr), .val (.int ex)] [(.int (1 : Int32))])) _
                        exact retN X112 hx (t := .boolean) Bd.returns (by simp) (hb hby at_269) hr
                      · show Q0 Z p0 q0 pg ph po h0 n0 _ T112.heap _
                        rw [hE112]
                        exact ⟨rfl, N112⟩
                    · skip
                      exact absurd (own_law4 nn q0 zz1 zz2 zz3 zz4 qq fz h_fz rr sp ex h_ex (by have r := own_nn _ _ h_nn; have a0 := hc110_37; rw [Int32.lt_iff_toInt_lt] at a0; have a1 := hc125_49; rw [Int32.lt_iff_toInt_lt] at a1; have a2 := hc142_61; rw [Int32.lt_iff_toInt_lt] at a2; have a3 := hc159_73; rw [Int32.lt_iff_toInt_lt] at a3; have a4 := hc176_85; rw [Int32.lt_iff_toInt_lt] at a4; have l0 : (0 : Int32).toInt = 0 := rfl; have l1 : (1 : Int32).toInt = 1 := rfl; have l2 : (2 : Int32).toInt = 2 := rfl; have l3 : (3 : Int32).toInt = 3 := rfl; have l4 : (4 : Int32).toInt = 4 := rfl; omega)) hc261_116
                · skip
                  obtain ⟨fz, h_fz⟩ : ∃ g : Nat → Int64, g = (owUp (owUp (owUp (fun _ => 0) 0 q0) 1 zz1) 2 zz2) := ⟨_, rfl⟩
                  have Vz := p62_5
                  rw [← h_fz] at Vz
                  obtain ⟨cq118, kq118, q118a, q118b, q118c⟩ := isOf hZ rfl p62_0
                  obtain ⟨_, _, ⟨T118, L118, k118, n118⟩, -, X118, ⟨Lc118, hQ118, l118, y118, z118⟩, st118⟩ := X62.virtualBack hx (y := (⟨"com/example/quorumvote/quorumvote/simulation/SimulatedLog", "placeAtOrBelow", "(J)I"⟩ : MethodName)) (z := (⟨"com/example/quorumvote/quorumvote/simulation/SimulatedLog", "placeAtOrBelow", "(J)I"⟩ : MethodName)) hown (mvT hZ (hw _ (List.mem_of_getElem? (i := 28) rfl))) (mvT hZ (hw _ (List.mem_of_getElem? (i := 29) rfl))) (notFace_of_selects (args := #[]) (mvT hZ (hw _ (List.mem_of_getElem? (i := 31) rfl)))) (mvT hZ (hw _ (List.mem_of_getElem? (i := 31) rfl))) (mvT hZ (hw _ (List.mem_of_getElem? (i := 30) rfl))) (by decide) (backOf (W := 0) (rm4 l Z a0 hw [] ol qq bz (3 : Int32) fz 3 T62.heap n0 Z71 p62_1 p62_4 Vz rfl (by decide) (own_so3 _ _ _ _ _ fz h_fz z1 z2 z3 z4)) hZ (hw _ (List.mem_of_getElem? (i := 32) rfl)) (hw _ (List.mem_of_getElem? (i := 5) rfl)) (by decide) (by decide)) q118a q118c (g := (mkF m 194 #[.val (.int p0), .val (.long q0), .second, .val (.int pg), .val (.int ph), .val (.int po), .val (.int nn), .val (.long q0), .second, .val (.long zz1), .second, .val (.long zz2), .second, .val (.long zz3), .second, .val (.long zz4), .second, .val (.long qq), .second, .val (.ref ol), .unset, .unset] [(.long qq), (.ref ol)])) rfl (by rw [hml]; rfl) (Steps.refl _) (argsL := [(.long qq)]) (rest := []) (lenOf pd_3 rfl) rfl (by show 2 * 0 + _ ≤ _; exact Nat.le_of_eq rfl) (hb hby at_194) (fun _ _ => ⟨rfl, rfl, (by decide : 4 + 0 ≤ _), (by decide : 57 + 0 ≤ _)⟩)
                  dsimp only [Pt.U, Pt.locs, Pt.cells, Pt.slots] at X118 l118 y118 z118 st118 hQ118
                  subst l118 y118 z118
                  obtain ⟨rr, rfl, N118q, hE118, sp⟩ := hQ118
                  have N118 := Fr.app N62 N118q
                  obtain ⟨_, _, ⟨T119, L119, k119, n119⟩, -, X119, ⟨Lc119, hQ119, l119, y119, z119⟩, st119⟩ := Jvm.LawKit.callS X118 hx (y := (⟨"com/example/quorumvote/quorumvote/simulation/SimulatedLogPlaceAtOrBelowPinLaw", "at", "(IIJJ)I"⟩ : MethodName)) hown (mvT hZ (hw _ (List.mem_of_getElem? (i := 33) rfl))) (mvT hZ (hw _ (List.mem_of_getElem? (i := 34) rfl))) (mvT hZ (hw _ (List.mem_of_getElem? (i := 35) rfl))) (mvT hZ (hw _ (List.mem_of_getElem? (i := 36) rfl))) (by decide) (backOf (W := 0) (rm5 l Z a0 hw [] nn (0 : Int32) q0 qq T62.heap n0 Z71) hZ (hw _ (List.mem_of_getElem? (i := 36) rfl)) (hw _ (List.mem_of_getElem? (i := 35) rfl)) (by decide) (by decide)) (g := (mkF m 206 #[.val (.int p0), .val (.long q0), .second, .val (.int pg), .val (.int ph), .val (.int po), .val (.int nn), .val (.long q0), .second, .val (.long zz1), .second, .val (.long zz2), .second, .val (.long zz3), .second, .val (.long zz4), .second, .val (.long qq), .second, .val (.ref ol), .val (.int rr), .unset] [(.long qq), (.long q0), (.int (0 : Int32)), (.int nn)])) rfl (by rw [hml]; rfl) (argsL := [(.int nn), (.int (0 : Int32)), (.long q0), (.long qq)]) (rest := []) (lenOf pd_4 rfl) rfl (by show 2 * 0 + _ ≤ _; exact Nat.le_of_eq rfl) (hb hby at_206) (fun _ _ => ⟨rfl, hE118, (by decide : 4 + 0 ≤ _), (by decide : 57 + 0 ≤ _)⟩)
                  dsimp only [Pt.U, Pt.locs, Pt.cells, Pt.slots] at X119 l119 y119 z119 st119 hQ119
                  subst l119 y119 z119
                  obtain ⟨rfl, N119q, hE119⟩ := hQ119
                  have N119 := Fr.app N118 N119q
                  obtain ⟨_, _, ⟨T120, L120, k120, n120⟩, -, X120, ⟨Lc120, hQ120, l120, y120, z120⟩, st120⟩ := Jvm.LawKit.callS X119 hx (y := (⟨"com/example/quorumvote/quorumvote/simulation/SimulatedLogPlaceAtOrBelowPinLaw", "at", "(IIJJ)I"⟩ : MethodName)) hown (mvT hZ (hw _ (List.mem_of_getElem? (i := 33) rfl))) (mvT hZ (hw _ (List.mem_of_getElem? (i := 34) rfl))) (mvT hZ (hw _ (List.mem_of_getElem? (i := 35) rfl))) (mvT hZ (hw _ (List.mem_of_getElem? (i := 36) rfl))) (by decide) (backOf (W := 1) (rm5 l Z a0 hw [] nn (1 : Int32) zz1 qq T62.heap n0 Z71) hZ (hw _ (List.mem_of_getElem? (i := 36) rfl)) (hw _ (List.mem_of_getElem? (i := 35) rfl)) (by decide) (by decide)) (g := (mkF m 216 #[.val (.int p0), .val (.long q0), .second, .val (.int pg), .val (.int ph), .val (.int po), .val (.int nn), .val (.long q0), .second, .val (.long zz1), .second, .val (.long zz2), .second, .val (.long zz3), .second, .val (.long zz4), .second, .val (.long qq), .second, .val (.ref ol), .val (.int rr), .unset] [(.long qq), (.long zz1), (.int (1 : Int32)), (.int nn), (.int (fn5 nn (0 : Int32) q0 qq))])) rfl (by rw [hml]; rfl) (argsL := [(.int nn), (.int (1 : Int32)), (.long zz1), (.long qq)]) (rest := [(.int (fn5 nn (0 : Int32) q0 qq))]) (lenOf pd_4 rfl) rfl (by show 2 * 0 + _ ≤ _; exact Nat.le_of_eq rfl) (hb hby at_216) (fun _ _ => ⟨rfl, hE119, (by decide : 4 + 0 ≤ _), (by decide : 57 + 0 ≤ _)⟩)
                  dsimp only [Pt.U, Pt.locs, Pt.cells, Pt.slots] at X120 l120 y120 z120 st120 hQ120
                  subst l120 y120 z120
                  obtain ⟨rfl, N120q, hE120⟩ := hQ120
                  have N120 := Fr.app N119 N120q
                  obtain ⟨_, _, ⟨T121, L121, k121, n121⟩, -, X121, ⟨Lc121, hQ121, l121, y121, z121⟩, st121⟩ := Jvm.LawKit.callS X120 hx (y := (⟨"com/example/quorumvote/quorumvote/simulation/SimulatedLogPlaceAtOrBelowPinLaw", "at", "(IIJJ)I"⟩ : MethodName)) hown (mvT hZ (hw _ (List.mem_of_getElem? (i := 33) rfl))) (mvT hZ (hw _ (List.mem_of_getElem? (i := 34) rfl))) (mvT hZ (hw _ (List.mem_of_getElem? (i := 35) rfl))) (mvT hZ (hw _ (List.mem_of_getElem? (i := 36) rfl))) (by decide) (backOf (W := 1) (rm5 l Z a0 hw [] nn (2 : Int32) zz2 qq T62.heap n0 Z71) hZ (hw _ (List.mem_of_getElem? (i := 36) rfl)) (hw _ (List.mem_of_getElem? (i := 35) rfl)) (by decide) (by decide)) (g := (mkF m 227 #[.val (.int p0), .val (.long q0), .second, .val (.int pg), .val (.int ph), .val (.int po), .val (.int nn), .val (.long q0), .second, .val (.long zz1), .second, .val (.long zz2), .second, .val (.long zz3), .second, .val (.long zz4), .second, .val (.long qq), .second, .val (.ref ol), .val (.int rr), .unset] [(.long qq), (.long zz2), (.int (2 : Int32)), (.int nn), (.int ((fn5 nn (0 : Int32) q0 qq) + (fn5 nn (1 : Int32) zz1 qq)))])) rfl (by rw [hml]; rfl) (argsL := [(.int nn), (.int (2 : Int32)), (.long zz2), (.long qq)]) (rest := [(.int ((fn5 nn (0 : Int32) q0 qq) + (fn5 nn (1 : Int32) zz1 qq)))]) (lenOf pd_4 rfl) rfl (by show 2 * 0 + _ ≤ _; exact Nat.le_of_eq rfl) (hb hby at_227) (fun _ _ => ⟨rfl, hE120, (by decide : 4 + 0 ≤ _), (by decide : 57 + 0 ≤ _)⟩)
                  dsimp only [Pt.U, Pt.locs, Pt.cells, Pt.slots] at X121 l121 y121 z121 st121 hQ121
                  subst l121 y121 z121
                  obtain ⟨rfl, N121q, hE121⟩ := hQ121
                  have N121 := Fr.app N120 N121q
                  obtain ⟨_, _, ⟨T122, L122, k122, n122⟩, -, X122, ⟨Lc122, hQ122, l122, y122, z122⟩, st122⟩ := Jvm.LawKit.callS X121 hx (y := (⟨"com/example/quorumvote/quorumvote/simulation/SimulatedLogPlaceAtOrBelowPinLaw", "at", "(IIJJ)I"⟩ : MethodName)) hown (mvT hZ (hw _ (List.mem_of_getElem? (i := 33) rfl))) (mvT hZ (hw _ (List.mem_of_getElem? (i := 34) rfl))) (mvT hZ (hw _ (List.mem_of_getElem? (i := 35) rfl))) (mvT hZ (hw _ (List.mem_of_getElem? (i := 36) rfl))) (by decide) (backOf (W := 1) (rm5 l Z a0 hw [] nn (3 : Int32) zz3 qq T62.heap n0 Z71) hZ (hw _ (List.mem_of_getElem? (i := 36) rfl)) (hw _ (List.mem_of_getElem? (i := 35) rfl)) (by decide) (by decide)) (g := (mkF m 238 #[.val (.int p0), .val (.long q0), .second, .val (.int pg), .val (.int ph), .val (.int po), .val (.int nn), .val (.long q0), .second, .val (.long zz1), .second, .val (.long zz2), .second, .val (.long zz3), .second, .val (.long zz4), .second, .val (.long qq), .second, .val (.ref ol), .val (.int rr), .unset] [(.long qq), (.long zz3), (.int (3 : Int32)), (.int nn), (.int (((fn5 nn (0 : Int32) q0 qq) + (fn5 nn (1 : Int32) zz1 qq)) + (fn5 nn (2 : Int32) zz2 qq)))])) rfl (by rw [hml]; rfl) (argsL := [(.int nn), (.int (3 : Int32)), (.long zz3), (.long qq)]) (rest := [(.int (((fn5 nn (0 : Int32) q0 qq) + (fn5 nn (1 : Int32) zz1 qq)) + (fn5 nn (2 : Int32) zz2 qq)))]) (lenOf pd_4 rfl) rfl (by show 2 * 0 + _ ≤ _; exact Nat.le_of_eq rfl) (hb hby at_238) (fun _ _ => ⟨rfl, hE121, (by decide : 4 + 0 ≤ _), (by decide : 57 + 0 ≤ _)⟩)
                  dsimp only [Pt.U, Pt.locs, Pt.cells, Pt.slots] at X122 l122 y122 z122 st122 hQ122
                  subst l122 y122 z122
                  obtain ⟨rfl, N122q, hE122⟩ := hQ122
                  have N122 := Fr.app N121 N122q
                  obtain ⟨_, _, ⟨T123, L123, k123, n123⟩, -, X123, ⟨Lc123, hQ123, l123, y123, z123⟩, st123⟩ := Jvm.LawKit.callS X122 hx (y := (⟨"com/example/quorumvote/quorumvote/simulation/SimulatedLogPlaceAtOrBelowPinLaw", "at", "(IIJJ)I"⟩ : MethodName)) hown (mvT hZ (hw _ (List.mem_of_getElem? (i := 33) rfl))) (mvT hZ (hw _ (List.mem_of_getElem? (i := 34) rfl))) (mvT hZ (hw _ (List.mem_of_getElem? (i := 35) rfl))) (mvT hZ (hw _ (List.mem_of_getElem? (i := 36) rfl))) (by decide) (backOf (W := 1) (rm5 l Z a0 hw [] nn (4 : Int32) zz4 qq T62.heap n0 Z71) hZ (hw _ (List.mem_of_getElem? (i := 36) rfl)) (hw _ (List.mem_of_getElem? (i := 35) rfl)) (by decide) (by decide)) (g := (mkF m 249 #[.val (.int p0), .val (.long q0), .second, .val (.int pg), .val (.int ph), .val (.int po), .val (.int nn), .val (.long q0), .second, .val (.long zz1), .second, .val (.long zz2), .second, .val (.long zz3), .second, .val (.long zz4), .second, .val (.long qq), .second, .val (.ref ol), .val (.int rr), .unset] [(.long qq), (.long zz4), (.int (4 : Int32)), (.int nn), (.int ((((fn5 nn (0 : Int32) q0 qq) + (fn5 nn (1 : Int32) zz1 qq)) + (fn5 nn (2 : Int32) zz2 qq)) + (fn5 nn (3 : Int32) zz3 qq)))])) rfl (by rw [hml]; rfl) (argsL := [(.int nn), (.int (4 : Int32)), (.long zz4), (.long qq)]) (rest := [(.int ((((fn5 nn (0 : Int32) q0 qq) + (fn5 nn (1 : Int32) zz1 qq)) + (fn5 nn (2 : Int32) zz2 qq)) + (fn5 nn (3 : Int32) zz3 qq)))]) (lenOf pd_4 rfl) rfl (by show 2 * 0 + _ ≤ _; exact Nat.le_of_eq rfl) (hb hby at_249) (fun _ _ => ⟨rfl, hE122, (by decide : 4 + 0 ≤ _), (by decide : 57 + 0 ≤ _)⟩)
                  dsimp only [Pt.U, Pt.locs, Pt.cells, Pt.slots] at X123 l123 y123 z123 st123 hQ123
                  subst l123 y123 z123
                  obtain ⟨rfl, N123q, hE123⟩ := hQ123
                  have N123 := Fr.app N122 N123q
                  have pre124 : ∀ t, Steps p.tables e below (T123.setTop (mkF m 255 #[.val (.int p0), .val (.long q0), .second, .val (.int pg), .val (.int ph), .val (.int po), .val (.int nn), .val (.long q0), .second, .val (.long zz1), .second, .val (.long zz2), .second, .val (.long zz3), .second, .val (.long zz4), .second, .val (.long qq), .second, .val (.ref ol), .val (.int rr), .unset] [(.int ((((((fn5 nn (0 : Int32) q0 qq) + (fn5 nn (1 : Int32) zz1 qq)) + (fn5 nn (2 : Int32) zz2 qq)) + (fn5 nn (3 : Int32) zz3 qq)) + (fn5 nn (4 : Int32) zz4 qq)) - (1 : Int32)))])) t → Steps p.tables e below (s₁.setTop (entryFrame m #[(.int p0), (.long q0), (.int pg), (.int ph), (.int po)] maxLocals)) t := by
                    intro t kt
                    refine pre72 _ ?_
                    show Steps p.tables e below (T62.setTop (mkF m 159 #[.val (.int p0), .val (.long q0), .second, .val (.int pg), .val (.int ph), .val (.int po), .val (.int nn), .val (.long q0), .second, .val (.long zz1), .second, .val (.long zz2), .second, .val (.long zz3), .second, .val (.long zz4), .second, .val (.long qq), .second, .val (.ref ol), .unset, .unset] [(.int (3 : Int32)), (.int nn)])) _
                    refine XS.icmpYes X62.here hx rfl (pc0 := 159) (pc' := 173) rfl (hb hby at_159) rfl (XT.ii_le_t hc159_73) (by decide) (by decide) ?_
                    show Steps p.tables e below (T62.setTop (mkF m 173 #[.val (.int p0), .val (.long q0), .second, .val (.int pg), .val (.int ph), .val (.int po), .val (.int nn), .val (.long q0), .second, .val (.long zz1), .second, .val (.long zz2), .second, .val (.long zz3), .second, .val (.long zz4), .second, .val (.long qq), .second, .val (.ref ol), .unset, .unset] [])) _
                    refine XS.iload X62.here hx rfl (hb hby at_173) rfl ?_
                    show Steps p.tables e below (T62.setTop (mkF m 175 #[.val (.int p0), .val (.long q0), .second, .val (.int pg), .val (.int ph), .val (.int po), .val (.int nn), .val (.long q0), .second, .val (.long zz1), .second, .val (.long zz2), .second, .val (.long zz3), .second, .val (.long zz4), .second, .val (.long qq), .second, .val (.ref ol), .unset, .unset] [(.int nn)])) _
                    refine XS.iconst X62.here hx rfl (hb hby at_175) ?_
                    show Steps p.tables e below (T62.setTop (mkF m 176 #[.val (.int p0), .val (.long q0), .second, .val (.int pg), .val (.int ph), .val (.int po), .val (.int nn), .val (.long q0), .second, .val (.long zz1), .second, .val (.long zz2), .second, .val (.long zz3), .second, .val (.long zz4), .second, .val (.long qq), .second, .val (.ref ol), .unset, .unset] [(.int (4 : Int32)), (.int nn)])) _
                    refine XS.icmpYes X62.here hx rfl (pc0 := 176) (pc' := 190) rfl (hb hby at_176) rfl (XT.ii_le_t (by have q0 := hc110_37; have q1 := hc125_49; have q2 := hc142_61; have q3 := hc159_73; have l0 : (0 : Int32).toInt = 0 := rfl; have l1 : (1 : Int32).toInt = 1 := rfl; have l2 : (2 : Int32).toInt = 2 := rfl; have l3 : (3 : Int32).toInt = 3 := rfl; have l4 : (4 : Int32).toInt = 4 := rfl; simp only [Int32.lt_iff_toInt_lt, ← Int32.toInt_inj] at q0 q1 q2 q3 ⊢; omega)) (by decide) (by decide) ?_
                    show Steps p.tables e below (T62.setTop (mkF m 190 #[.val (.int p0), .val (.long q0), .second, .val (.int pg), .val (.int ph), .val (.int po), .val (.int nn), .val (.long q0), .second, .val (.long zz1), .second, .val (.long zz2), .second, .val (.long zz3), .second, .val (.long zz4), .second, .val (.long qq), .second, .val (.ref ol), .unset, .unset] [])) _
                    refine XS.aload X62.here hx rfl (hb hby at_190) rfl rfl ?_
                    show Steps p.tables e below (T62.setTop (mkF m 192 #[.val (.int p0), .val (.long q0), .second, .val (.int pg), .val (.int ph), .val (.int po), .val (.int nn), .val (.long q0), .second, .val (.long zz1), .second, .val (.long zz2), .second, .val (.long zz3), .second, .val (.long zz4), .second, .val (.long qq), .second, .val (.ref ol), .unset, .unset] [(.ref ol)])) _
                    refine XS.lload X62.here hx rfl (hb hby at_192) rfl ?_
                    show Steps p.tables e below (T62.setTop (mkF m 194 #[.val (.int p0), .val (.long q0), .second, .val (.int pg), .val (.int ph), .val (.int po), .val (.int nn), .val (.long q0), .second, .val (.long zz1), .second, .val (.long zz2), .second, .val (.long zz3), .second, .val (.long zz4), .second, .val (.long qq), .second, .val (.ref ol), .unset, .unset] [(.long qq), (.ref ol)])) _
                    refine st118.trans ?_
                    show Steps p.tables e below (T118.setTop (mkF m 197 #[.val (.int p0), .val (.long q0), .second, .val (.int pg), .val (.int ph), .val (.int po), .val (.int nn), .val (.long q0), .second, .val (.long zz1), .second, .val (.long zz2), .second, .val (.long zz3), .second, .val (.long zz4), .second, .val (.long qq), .second, .val (.ref ol), .unset, .unset] [(.int rr)])) _
                    refine XS.istore X118.here hx rfl (hb hby at_197) rfl (l' := #[.val (.int p0), .val (.long q0), .second, .val (.int pg), .val (.int ph), .val (.int po), .val (.int nn), .val (.long q0), .second, .val (.long zz1), .second, .val (.long zz2), .second, .val (.long zz3), .second, .val (.long zz4), .second, .val (.long qq), .second, .val (.ref ol), .val (.int rr), .unset]) rfl ?_
                    show Steps p.tables e below (T118.setTop (mkF m 199 #[.val (.int p0), .val (.long q0), .second, .val (.int pg), .val (.int ph), .val (.int po), .val (.int nn), .val (.long q0), .second, .val (.long zz1), .second, .val (.long zz2), .second, .val (.long zz3), .second, .val (.long zz4), .second, .val (.long qq), .second, .val (.ref ol), .val (.int rr), .unset] [])) _
                    refine XS.iload X118.here hx rfl (hb hby at_199) rfl ?_
                    show Steps p.tables e below (T118.setTop (mkF m 201 #[.val (.int p0), .val (.long q0), .second, .val (.int pg), .val (.int ph), .val (.int po), .val (.int nn), .val (.long q0), .second, .val (.long zz1), .second, .val (.long zz2), .second, .val (.long zz3), .second, .val (.long zz4), .second, .val (.long qq), .second, .val (.ref ol), .val (.int rr), .unset] [(.int nn)])) _
                    refine XS.iconst X118.here hx rfl (hb hby at_201) ?_
                    show Steps p.tables e below (T118.setTop (mkF m 202 #[.val (.int p0), .val (.long q0), .second, .val (.int pg), .val (.int ph), .val (.int po), .val (.int nn), .val (.long q0), .second, .val (.long zz1), .second, .val (.long zz2), .second, .val (.long zz3), .second, .val (.long zz4), .second, .val (.long qq), .second, .val (.ref ol), .val (.int rr), .unset] [(.int (0 : Int32)), (.int nn)])) _
                    refine XS.lload X118.here hx rfl (hb hby at_202) rfl ?_
                    show Steps p.tables e below (T118.setTop (mkF m 204 #[.val (.int p0), .val (.long q0), .second, .val (.int pg), .val (.int ph), .val (.int po), .val (.int nn), .val (.long q0), .second, .val (.long zz1), .second, .val (.long zz2), .second, .val (.long zz3), .second, .val (.long zz4), .second, .val (.long qq), .second, .val (.ref ol), .val (.int rr), .unset] [(.long q0), (.int (0 : Int32)), (.int nn)])) _
                    refine XS.lload X118.here hx rfl (hb hby at_204) rfl ?_
                    show Steps p.tables e below (T118.setTop (mkF m 206 #[.val (.int p0), .val (.long q0), .second, .val (.int pg), .val (.int ph), .val (.int po), .val (.int nn), .val (.long q0), .second, .val (.long zz1), .second, .val (.long zz2), .second, .val (.long zz3), .second, .val (.long zz4), .second, .val (.long qq), .second, .val (.ref ol), .val (.int rr), .unset] [(.long qq), (.long q0), (.int (0 : Int32)), (.int nn)])) _
                    refine st119 _ ?_
                    show Steps p.tables e below (T119.setTop (mkF m 209 #[.val (.int p0), .val (.long q0), .second, .val (.int pg), .val (.int ph), .val (.int po), .val (.int nn), .val (.long q0), .second, .val (.long zz1), .second, .val (.long zz2), .second, .val (.long zz3), .second, .val (.long zz4), .second, .val (.long qq), .second, .val (.ref ol), .val (.int rr), .unset] [(.int (fn5 nn (0 : Int32) q0 qq))])) _
                    refine XS.iload X119.here hx rfl (hb hby at_209) rfl ?_
                    show Steps p.tables e below (T119.setTop (mkF m 211 #[.val (.int p0), .val (.long q0), .second, .val (.int pg), .val (.int ph), .val (.int po), .val (.int nn), .val (.long q0), .second, .val (.long zz1), .second, .val (.long zz2), .second, .val (.long zz3), .second, .val (.long zz4), .second, .val (.long qq), .second, .val (.ref ol), .val (.int rr), .unset] [(.int nn), (.int (fn5 nn (0 : Int32) q0 qq))])) _
                    refine XS.iconst X119.here hx rfl (hb hby at_211) ?_
                    show Steps p.tables e below (T119.setTop (mkF m 212 #[.val (.int p0), .val (.long q0), .second, .val (.int pg), .val (.int ph), .val (.int po), .val (.int nn), .val (.long q0), .second, .val (.long zz1), .second, .val (.long zz2), .second, .val (.long zz3), .second, .val (.long zz4), .second, .val (.long qq), .second, .val (.ref ol), .val (.int rr), .unset] [(.int (1 : Int32)), (.int nn), (.int (fn5 nn (0 : Int32) q0 qq))])) _
                    refine XS.lload X119.here hx rfl (hb hby at_212) rfl ?_
                    show Steps p.tables e below (T119.setTop (mkF m 214 #[.val (.int p0), .val (.long q0), .second, .val (.int pg), .val (.int ph), .val (.int po), .val (.int nn), .val (.long q0), .second, .val (.long zz1), .second, .val (.long zz2), .second, .val (.long zz3), .second, .val (.long zz4), .second, .val (.long qq), .second, .val (.ref ol), .val (.int rr), .unset] [(.long zz1), (.int (1 : Int32)), (.int nn), (.int (fn5 nn (0 : Int32) q0 qq))])) _
                    refine XS.lload X119.here hx rfl (hb hby at_214) rfl ?_
                    show Steps p.tables e below (T119.setTop (mkF m 216 #[.val (.int p0), .val (.long q0), .second, .val (.int pg), .val (.int ph), .val (.int po), .val (.int nn), .val (.long q0), .second, .val (.long zz1), .second, .val (.long zz2), .second, .val (.long zz3), .second, .val (.long zz4), .second, .val (.long qq), .second, .val (.ref ol), .val (.int rr), .unset] [(.long qq), (.long zz1), (.int (1 : Int32)), (.int nn), (.int (fn5 nn (0 : Int32) q0 qq))])) _
                    refine st120 _ ?_
                    show Steps p.tables e below (T120.setTop (mkF m 219 #[.val (.int p0), .val (.long q0), .second, .val (.int pg), .val (.int ph), .val (.int po), .val (.int nn), .val (.long q0), .second, .val (.long zz1), .second, .val (.long zz2), .second, .val (.long zz3), .second, .val (.long zz4), .second, .val (.long qq), .second, .val (.ref ol), .val (.int rr), .unset] [(.int (fn5 nn (1 : Int32) zz1 qq)), (.int (fn5 nn (0 : Int32) q0 qq))])) _
                    refine XS.iadd X120.here hx rfl (hb hby at_219) rfl ?_
                    show Steps p.tables e below (T120.setTop (mkF m 220 #[.val (.int p0), .val (.long q0), .second, .val (.int pg), .val (.int ph), .val (.int po), .val (.int nn), .val (.long q0), .second, .val (.long zz1), .second, .val (.long zz2), .second, .val (.long zz3), .second, .val (.long zz4), .second, .val (.long qq), .second, .val (.ref ol), .val (.int rr), .unset] [(.int ((fn5 nn (0 : Int32) q0 qq) + (fn5 nn (1 : Int32) zz1 qq)))])) _
                    refine XS.iload X120.here hx rfl (hb hby at_220) rfl ?_
                    show Steps p.tables e below (T120.setTop (mkF m 222 #[.val (.int p0), .val (.long q0), .second, .val (.int pg), .val (.int ph), .val (.int po), .val (.int nn), .val (.long q0), .second, .val (.long zz1), .second, .val (.long zz2), .second, .val (.long zz3), .second, .val (.long zz4), .second, .val (.long qq), .second, .val (.ref ol), .val (.int rr), .unset] [(.int nn), (.int ((fn5 nn (0 : Int32) q0 qq) + (fn5 nn (1 : Int32) zz1 qq)))])) _
                    refine XS.iconst X120.here hx rfl (hb hby at_222) ?_
                    show Steps p.tables e below (T120.setTop (mkF m 223 #[.val (.int p0), .val (.long q0), .second, .val (.int pg), .val (.int ph), .val (.int po), .val (.int nn), .val (.long q0), .second, .val (.long zz1), .second, .val (.long zz2), .second, .val (.long zz3), .second, .val (.long zz4), .second, .val (.long qq), .second, .val (.ref ol), .val (.int rr), .unset] [(.int (2 : Int32)), (.int nn), (.int ((fn5 nn (0 : Int32) q0 qq) + (fn5 nn (1 : Int32) zz1 qq)))])) _
                    refine XS.lload X120.here hx rfl (hb hby at_223) rfl ?_
                    show Steps p.tables e below (T120.setTop (mkF m 225 #[.val (.int p0), .val (.long q0), .second, .val (.int pg), .val (.int ph), .val (.int po), .val (.int nn), .val (.long q0), .second, .val (.long zz1), .second, .val (.long zz2), .second, .val (.long zz3), .second, .val (.long zz4), .second, .val (.long qq), .second, .val (.ref ol), .val (.int rr), .unset] [(.long zz2), (.int (2 : Int32)), (.int nn), (.int ((fn5 nn (0 : Int32) q0 qq) + (fn5 nn (1 : Int32) zz1 qq)))])) _
                    refine XS.lload X120.here hx rfl (hb hby at_225) rfl ?_
                    show Steps p.tables e below (T120.setTop (mkF m 227 #[.val (.int p0), .val (.long q0), .second, .val (.int pg), .val (.int ph), .val (.int po), .val (.int nn), .val (.long q0), .second, .val (.long zz1), .second, .val (.long zz2), .second, .val (.long zz3), .second, .val (.long zz4), .second, .val (.long qq), .second, .val (.ref ol), .val (.int rr), .unset] [(.long qq), (.long zz2), (.int (2 : Int32)), (.int nn), (.int ((fn5 nn (0 : Int32) q0 qq) + (fn5 nn (1 : Int32) zz1 qq)))])) _
                    refine st121 _ ?_
                    show Steps p.tables e below (T121.setTop (mkF m 230 #[.val (.int p0), .val (.long q0), .second, .val (.int pg), .val (.int ph), .val (.int po), .val (.int nn), .val (.long q0), .second, .val (.long zz1), .second, .val (.long zz2), .second, .val (.long zz3), .second, .val (.long zz4), .second, .val (.long qq), .second, .val (.ref ol), .val (.int rr), .unset] [(.int (fn5 nn (2 : Int32) zz2 qq)), (.int ((fn5 nn (0 : Int32) q0 qq) + (fn5 nn (1 : Int32) zz1 qq)))])) _
                    refine XS.iadd X121.here hx rfl (hb hby at_230) rfl ?_
                    show Steps p.tables e below (T121.setTop (mkF m 231 #[.val (.int p0), .val (.long q0), .second, .val (.int pg), .val (.int ph), .val (.int po), .val (.int nn), .val (.long q0), .second, .val (.long zz1), .second, .val (.long zz2), .second, .val (.long zz3), .second, .val (.long zz4), .second, .val (.long qq), .second, .val (.ref ol), .val (.int rr), .unset] [(.int (((fn5 nn (0 : Int32) q0 qq) + (fn5 nn (1 : Int32) zz1 qq)) + (fn5 nn (2 : Int32) zz2 qq)))])) _
                    refine XS.iload X121.here hx rfl (hb hby at_231) rfl ?_
                    show Steps p.tables e below (T121.setTop (mkF m 233 #[.val (.int p0), .val (.long q0), .second, .val (.int pg), .val (.int ph), .val (.int po), .val (.int nn), .val (.long q0), .second, .val (.long zz1), .second, .val (.long zz2), .second, .val (.long zz3), .second, .val (.long zz4), .second, .val (.long qq), .second, .val (.ref ol), .val (.int rr), .unset] [(.int nn), (.int (((fn5 nn (0 : Int32) q0 qq) + (fn5 nn (1 : Int32) zz1 qq)) + (fn5 nn (2 : Int32) zz2 qq)))])) _
                    refine XS.iconst X121.here hx rfl (hb hby at_233) ?_
                    show Steps p.tables e below (T121.setTop (mkF m 234 #[.val (.int p0), .val (.long q0), .second, .val (.int pg), .val (.int ph), .val (.int po), .val (.int nn), .val (.long q0), .second, .val (.long zz1), .second, .val (.long zz2), .second, .val (.long zz3), .second, .val (.long zz4), .second, .val (.long qq), .second, .val (.ref ol), .val (.int rr), .unset] [(.int (3 : Int32)), (.int nn), (.int (((fn5 nn (0 : Int32) q0 qq) + (fn5 nn (1 : Int32) zz1 qq)) + (fn5 nn (2 : Int32) zz2 qq)))])) _
                    refine XS.lload X121.here hx rfl (hb hby at_234) rfl ?_
                    show Steps p.tables e below (T121.setTop (mkF m 236 #[.val (.int p0), .val (.long q0), .second, .val (.int pg), .val (.int ph), .val (.int po), .val (.int nn), .val (.long q0), .second, .val (.long zz1), .second, .val (.long zz2), .second, .val (.long zz3), .second, .val (.long zz4), .second, .val (.long qq), .second, .val (.ref ol), .val (.int rr), .unset] [(.long zz3), (.int (3 : Int32)), (.int nn), (.int (((fn5 nn (0 : Int32) q0 qq) + (fn5 nn (1 : Int32) zz1 qq)) + (fn5 nn (2 : Int32) zz2 qq)))])) _
                    refine XS.lload X121.here hx rfl (hb hby at_236) rfl ?_
                    show Steps p.tables e below (T121.setTop (mkF m 238 #[.val (.int p0), .val (.long q0), .second, .val (.int pg), .val (.int ph), .val (.int po), .val (.int nn), .val (.long q0), .second, .val (.long zz1), .second, .val (.long zz2), .second, .val (.long zz3), .second, .val (.long zz4), .second, .val (.long qq), .second, .val (.ref ol), .val (.int rr), .unset] [(.long qq), (.long zz3), (.int (3 : Int32)), (.int nn), (.int (((fn5 nn (0 : Int32) q0 qq) + (fn5 nn (1 : Int32) zz1 qq)) + (fn5 nn (2 : Int32) zz2 qq)))])) _
                    refine st122 _ ?_
                    show Steps p.tables e below (T122.setTop (mkF m 241 #[.val (.int p0), .val (.long q0), .second, .val (.int pg), .val (.int ph), .val (.int po), .val (.int nn), .val (.long q0), .second, .val (.long zz1), .second, .val (.long zz2), .second, .val (.long zz3), .second, .val (.long zz4), .second, .val (.long qq), .second, .val (.ref ol), .val (.int rr), .unset] [(.int (fn5 nn (3 : Int32) zz3 qq)), (.int (((fn5 nn (0 : Int32) q0 qq) + (fn5 nn (1 : Int32) zz1 qq)) + (fn5 nn (2 : Int32) zz2 qq)))])) _
                    refine XS.iadd X122.here hx rfl (hb hby at_241) rfl ?_
                    show Steps p.tables e below (T122.setTop (mkF m 242 #[.val (.int p0), .val (.long q0), .second, .val (.int pg), .val (.int ph), .val (.int po), .val (.int nn), .val (.long q0), .second, .val (.long zz1), .second, .val (.long zz2), .second, .val (.long zz3), .second, .val (.long zz4), .second, .val (.long qq), .second, .val (.ref ol), .val (.int rr), .unset] [(.int ((((fn5 nn (0 : Int32) q0 qq) + (fn5 nn (1 : Int32) zz1 qq)) + (fn5 nn (2 : Int32) zz2 qq)) + (fn5 nn (3 : Int32) zz3 qq)))])) _
                    refine XS.iload X122.here hx rfl (hb hby at_242) rfl ?_
                    show Steps p.tables e below (T122.setTop (mkF m 244 #[.val (.int p0), .val (.long q0), .second, .val (.int pg), .val (.int ph), .val (.int po), .val (.int nn), .val (.long q0), .second, .val (.long zz1), .second, .val (.long zz2), .second, .val (.long zz3), .second, .val (.long zz4), .second, .val (.long qq), .second, .val (.ref ol), .val (.int rr), .unset] [(.int nn), (.int ((((fn5 nn (0 : Int32) q0 qq) + (fn5 nn (1 : Int32) zz1 qq)) + (fn5 nn (2 : Int32) zz2 qq)) + (fn5 nn (3 : Int32) zz3 qq)))])) _
                    refine XS.iconst X122.here hx rfl (hb hby at_244) ?_
                    show Steps p.tables e below (T122.setTop (mkF m 245 #[.val (.int p0), .val (.long q0), .second, .val (.int pg), .val (.int ph), .val (.int po), .val (.int nn), .val (.long q0), .second, .val (.long zz1), .second, .val (.long zz2), .second, .val (.long zz3), .second, .val (.long zz4), .second, .val (.long qq), .second, .val (.ref ol), .val (.int rr), .unset] [(.int (4 : Int32)), (.int nn), (.int ((((fn5 nn (0 : Int32) q0 qq) + (fn5 nn (1 : Int32) zz1 qq)) + (fn5 nn (2 : Int32) zz2 qq)) + (fn5 nn (3 : Int32) zz3 qq)))])) _
                    refine XS.lload X122.here hx rfl (hb hby at_245) rfl ?_
                    show Steps p.tables e below (T122.setTop (mkF m 247 #[.val (.int p0), .val (.long q0), .second, .val (.int pg), .val (.int ph), .val (.int po), .val (.int nn), .val (.long q0), .second, .val (.long zz1), .second, .val (.long zz2), .second, .val (.long zz3), .second, .val (.long zz4), .second, .val (.long qq), .second, .val (.ref ol), .val (.int rr), .unset] [(.long zz4), (.int (4 : Int32)), (.int nn), (.int ((((fn5 nn (0 : Int32) q0 qq) + (fn5 nn (1 : Int32) zz1 qq)) + (fn5 nn (2 : Int32) zz2 qq)) + (fn5 nn (3 : Int32) zz3 qq)))])) _
                    refine XS.lload X122.here hx rfl (hb hby at_247) rfl ?_
                    show Steps p.tables e below (T122.setTop (mkF m 249 #[.val (.int p0), .val (.long q0), .second, .val (.int pg), .val (.int ph), .val (.int po), .val (.int nn), .val (.long q0), .second, .val (.long zz1), .second, .val (.long zz2), .second, .val (.long zz3), .second, .val (.long zz4), .second, .val (.long qq), .second, .val (.ref ol), .val (.int rr), .unset] [(.long qq), (.long zz4), (.int (4 : Int32)), (.int nn), (.int ((((fn5 nn (0 : Int32) q0 qq) + (fn5 nn (1 : Int32) zz1 qq)) + (fn5 nn (2 : Int32) zz2 qq)) + (fn5 nn (3 : Int32) zz3 qq)))])) _
                    refine st123 _ ?_
                    show Steps p.tables e below (T123.setTop (mkF m 252 #[.val (.int p0), .val (.long q0), .second, .val (.int pg), .val (.int ph), .val (.int po), .val (.int nn), .val (.long q0), .second, .val (.long zz1), .second, .val (.long zz2), .second, .val (.long zz3), .second, .val (.long zz4), .second, .val (.long qq), .second, .val (.ref ol), .val (.int rr), .unset] [(.int (fn5 nn (4 : Int32) zz4 qq)), (.int ((((fn5 nn (0 : Int32) q0 qq) + (fn5 nn (1 : Int32) zz1 qq)) + (fn5 nn (2 : Int32) zz2 qq)) + (fn5 nn (3 : Int32) zz3 qq)))])) _
                    refine XS.iadd X123.here hx rfl (hb hby at_252) rfl ?_
                    show Steps p.tables e below (T123.setTop (mkF m 253 #[.val (.int p0), .val (.long q0), .second, .val (.int pg), .val (.int ph), .val (.int po), .val (.int nn), .val (.long q0), .second, .val (.long zz1), .second, .val (.long zz2), .second, .val (.long zz3), .second, .val (.long zz4), .second, .val (.long qq), .second, .val (.ref ol), .val (.int rr), .unset] [(.int (((((fn5 nn (0 : Int32) q0 qq) + (fn5 nn (1 : Int32) zz1 qq)) + (fn5 nn (2 : Int32) zz2 qq)) + (fn5 nn (3 : Int32) zz3 qq)) + (fn5 nn (4 : Int32) zz4 qq)))])) _
                    refine XS.iconst X123.here hx rfl (hb hby at_253) ?_
                    show Steps p.tables e below (T123.setTop (mkF m 254 #[.val (.int p0), .val (.long q0), .second, .val (.int pg), .val (.int ph), .val (.int po), .val (.int nn), .val (.long q0), .second, .val (.long zz1), .second, .val (.long zz2), .second, .val (.long zz3), .second, .val (.long zz4), .second, .val (.long qq), .second, .val (.ref ol), .val (.int rr), .unset] [(.int (1 : Int32)), (.int (((((fn5 nn (0 : Int32) q0 qq) + (fn5 nn (1 : Int32) zz1 qq)) + (fn5 nn (2 : Int32) zz2 qq)) + (fn5 nn (3 : Int32) zz3 qq)) + (fn5 nn (4 : Int32) zz4 qq)))])) _
                    refine XS.isub X123.here hx rfl (hb hby at_254) rfl ?_
                    exact kt
                  obtain ⟨ex, h_ex⟩ : ∃ z : Int32, z = ((((((fn5 nn (0 : Int32) q0 qq) + (fn5 nn (1 : Int32) zz1 qq)) + (fn5 nn (2 : Int32) zz2 qq)) + (fn5 nn (3 : Int32) zz3 qq)) + (fn5 nn (4 : Int32) zz4 qq)) - (1 : Int32)) := ⟨_, rfl⟩
                  have pre125 : ∀ t, Steps p.tables e below (T123.setTop (mkF m 255 #[.val (.int p0), .val (.long q0), .second, .val (.int pg), .val (.int ph), .val (.int po), .val (.int nn), .val (.long q0), .second, .val (.long zz1), .second, .val (.long zz2), .second, .val (.long zz3), .second, .val (.long zz4), .second, .val (.long qq), .second, .val (.ref ol), .val (.int rr), .unset] [(.int ex)])) t → Steps p.tables e below (s₁.setTop (entryFrame m #[(.int p0), (.long q0), (.int pg), (.int ph), (.int po)] maxLocals)) t := by
                    intro t kt
                    rw [h_ex] at kt
                    exact pre124 _ kt
                  have pre126 : ∀ t, Steps p.tables e below (T123.setTop (mkF m 261 #[.val (.int p0), .val (.long q0), .second, .val (.int pg), .val (.int ph), .val (.int po), .val (.int nn), .val (.long q0), .second, .val (.long zz1), .second, .val (.long zz2), .second, .val (.long zz3), .second, .val (.long zz4), .second, .val (.long qq), .second, .val (.ref ol), .val (.int rr), .val (.int ex)] [(.int ex), (.int rr)])) t → Steps p.tables e below (s₁.setTop (entryFrame m #[(.int p0), (.long q0), (.int pg), (.int ph), (.int po)] maxLocals)) t := by
                    intro t kt
                    refine pre125 _ ?_
                    show Steps p.tables e below (T123.setTop (mkF m 255 #[.val (.int p0), .val (.long q0), .second, .val (.int pg), .val (.int ph), .val (.int po), .val (.int nn), .val (.long q0), .second, .val (.long zz1), .second, .val (.long zz2), .second, .val (.long zz3), .second, .val (.long zz4), .second, .val (.long qq), .second, .val (.ref ol), .val (.int rr), .unset] [(.int ex)])) _
                    refine XS.istore X123.here hx rfl (hb hby at_255) rfl (l' := #[.val (.int p0), .val (.long q0), .second, .val (.int pg), .val (.int ph), .val (.int po), .val (.int nn), .val (.long q0), .second, .val (.long zz1), .second, .val (.long zz2), .second, .val (.long zz3), .second, .val (.long zz4), .second, .val (.long qq), .second, .val (.ref ol), .val (.int rr), .val (.int ex)]) rfl ?_
                    show Steps p.tables e below (T123.setTop (mkF m 257 #[.val (.int p0), .val (.long q0), .second, .val (.int pg), .val (.int ph), .val (.int po), .val (.int nn), .val (.long q0), .second, .val (.long zz1), .second, .val (.long zz2), .second, .val (.long zz3), .second, .val (.long zz4), .second, .val (.long qq), .second, .val (.ref ol), .val (.int rr), .val (.int ex)] [])) _
                    refine XS.iload X123.here hx rfl (hb hby at_257) rfl ?_
                    show Steps p.tables e below (T123.setTop (mkF m 259 #[.val (.int p0), .val (.long q0), .second, .val (.int pg), .val (.int ph), .val (.int po), .val (.int nn), .val (.long q0), .second, .val (.long zz1), .second, .val (.long zz2), .second, .val (.long zz3), .second, .val (.long zz4), .second, .val (.long qq), .second, .val (.ref ol), .val (.int rr), .val (.int ex)] [(.int rr)])) _
                    refine XS.iload X123.here hx rfl (hb hby at_259) rfl ?_
                    exact kt
                  by_cases hc261_127 : rr = ex
                  · skip
                    have pre128 : ∀ t, Steps p.tables e below (T123.setTop (mkF m 269 #[.val (.int p0), .val (.long q0), .second, .val (.int pg), .val (.int ph), .val (.int po), .val (.int nn), .val (.long q0), .second, .val (.long zz1), .second, .val (.long zz2), .second, .val (.long zz3), .second, .val (.long zz4), .second, .val (.long qq), .second, .val (.ref ol), .val (.int rr), .val (.int ex)] [(.int (1 : Int32))])) t → Steps p.tables e below (s₁.setTop (entryFrame m #[(.int p0), (.long q0), (.int pg), (.int ph), (.int po)] maxLocals)) t := by
                      intro t kt
                      refine pre126 _ ?_
                      show Steps p.tables e below (T123.setTop (mkF m 261 #[.val (.int p0), .val (.long q0), .second, .val (.int pg), .val (.int ph), .val (.int po), .val (.int nn), .val (.long q0), .second, .val (.long zz1), .second, .val (.long zz2), .second, .val (.long zz3), .second, .val (.long zz4), .second, .val (.long qq), .second, .val (.ref ol), .val (.int rr), .val (.int ex)] [(.int ex), (.int rr)])) _
                      refine XS.icmpNo X123.here hx rfl (hb hby at_261) rfl (XT.ii_ne_f hc261_127) ?_
                      show Steps p.tables e below (T123.setTop (mkF m 264 #[.val (.int p0), .val (.long q0), .second, .val (.int pg), .val (.int ph), .val (.int po), .val (.int nn), .val (.long q0), .second, .val (.long zz1), .second, .val (.long zz2), .second, .val (.long zz3), .second, .val (.long zz4), .second, .val (.long qq), .second, .val (.ref ol), .val (.int rr), .val (.int ex)] [])) _
                      refine XS.iconst X123.here hx rfl (hb hby at_264) ?_
                      show Steps p.tables e below (T123.setTop (mkF m 265 #[.val (.int p0), .val (.long q0), .second, .val (.int pg), .val (.int ph), .val (.int po), .val (.int nn), .val (.long q0), .second, .val (.long zz1), .second, .val (.long zz2), .second, .val (.long zz3), .second, .val (.long zz4), .second, .val (.long qq), .second, .val (.ref ol), .val (.int rr), .val (.int ex)] [(.int (1 : Int32))])) _
                      refine XS.goto X123.here hx rfl (pc0 := 265) (pc' := 269) rfl (hb hby at_265) (by decide) (by decide) ?_
                      exact kt
                    obtain ⟨fs, hr, hrun, hended, hW, hsame⟩ := X123.leave (v := some (.int (1 : Int32))) (fun h => by rw [Bd.returns] at h; cases h)
                    refine ⟨_, _, pre128 _ ?_, hrun, hended, _, _, rfl, ?_, ⟨_, rfl⟩, hW, hsame.mono (by decide) (by decide)⟩
                    · show Steps p.tables e below (T123.setTop (mkF m 269 #[.val (.int p0), .val (.long q0), .second, .val (.int pg), .val (.int ph), .val (.int po), .val (.int nn), .val (.long q0), .second, .val (.long zz1), .second, .val (.long zz2), .second, .val (.long zz3), .second, .val (.long zz4), .second, .val (.long qq), .second, .val (.ref ol), .val (.int rr), .val (.int ex)] [(.int (1 : Int32))])) _
                      exact retN X123 hx (t := .boolean) Bd.returns (by simp) (hb hby at_269) hr
                    · show Q0 Z p0 q0 pg ph po h0 n0 _ T123.heap _
                      rw [hE123]
                      exact ⟨rfl, N123⟩
                  · skip
                    exact absurd (own_law3 nn q0 zz1 zz2 zz3 zz4 qq fz h_fz rr sp ex h_ex (by have r := own_nn _ _ h_nn; have a0 := hc110_37; rw [Int32.lt_iff_toInt_lt] at a0; have a1 := hc125_49; rw [Int32.lt_iff_toInt_lt] at a1; have a2 := hc142_61; rw [Int32.lt_iff_toInt_lt] at a2; have a3 := hc159_73; rw [Int32.lt_iff_toInt_lt] at a3; have l0 : (0 : Int32).toInt = 0 := rfl; have l1 : (1 : Int32).toInt = 1 := rfl; have l2 : (2 : Int32).toInt = 2 := rfl; have l3 : (3 : Int32).toInt = 3 := rfl; have l4 : (4 : Int32).toInt = 4 := rfl; omega)) hc261_127
              · skip
                obtain ⟨fz, h_fz⟩ : ∃ g : Nat → Int64, g = (owUp (owUp (fun _ => 0) 0 q0) 1 zz1) := ⟨_, rfl⟩
                have Vz := p50_5
                rw [← h_fz] at Vz
                obtain ⟨cq129, kq129, q129a, q129b, q129c⟩ := isOf hZ rfl p50_0
                obtain ⟨_, _, ⟨T129, L129, k129, n129⟩, -, X129, ⟨Lc129, hQ129, l129, y129, z129⟩, st129⟩ := X50.virtualBack hx (y := (⟨"com/example/quorumvote/quorumvote/simulation/SimulatedLog", "placeAtOrBelow", "(J)I"⟩ : MethodName)) (z := (⟨"com/example/quorumvote/quorumvote/simulation/SimulatedLog", "placeAtOrBelow", "(J)I"⟩ : MethodName)) hown (mvT hZ (hw _ (List.mem_of_getElem? (i := 28) rfl))) (mvT hZ (hw _ (List.mem_of_getElem? (i := 29) rfl))) (notFace_of_selects (args := #[]) (mvT hZ (hw _ (List.mem_of_getElem? (i := 31) rfl)))) (mvT hZ (hw _ (List.mem_of_getElem? (i := 31) rfl))) (mvT hZ (hw _ (List.mem_of_getElem? (i := 30) rfl))) (by decide) (backOf (W := 0) (rm4 l Z a0 hw [] ol qq bz (2 : Int32) fz 2 T50.heap n0 Z59 p50_1 p50_4 Vz rfl (by decide) (own_so2 _ _ _ _ _ fz h_fz z1 z2 z3 z4)) hZ (hw _ (List.mem_of_getElem? (i := 32) rfl)) (hw _ (List.mem_of_getElem? (i := 5) rfl)) (by decide) (by decide)) q129a q129c (g := (mkF m 194 #[.val (.int p0), .val (.long q0), .second, .val (.int pg), .val (.int ph), .val (.int po), .val (.int nn), .val (.long q0), .second, .val (.long zz1), .second, .val (.long zz2), .second, .val (.long zz3), .second, .val (.long zz4), .second, .val (.long qq), .second, .val (.ref ol), .unset, .unset] [(.long qq), (.ref ol)])) rfl (by rw [hml]; rfl) (Steps.refl _) (argsL := [(.long qq)]) (rest := []) (lenOf pd_3 rfl) rfl (by show 2 * 0 + _ ≤ _; exact Nat.le_of_eq rfl) (hb hby at_194) (fun _ _ => ⟨rfl, rfl, (by decide : 4 + 0 ≤ _), (by decide : 57 + 0 ≤ _)⟩)
                dsimp only [Pt.U, Pt.locs, Pt.cells, Pt.slots] at X129 l129 y129 z129 st129 hQ129
                subst l129 y129 z129
                obtain ⟨rr, rfl, N129q, hE129, sp⟩ := hQ129
                have N129 := Fr.app N50 N129q
                obtain ⟨_, _, ⟨T130, L130, k130, n130⟩, -, X130, ⟨Lc130, hQ130, l130, y130, z130⟩, st130⟩ := Jvm.LawKit.callS X129 hx (y := (⟨"com/example/quorumvote/quorumvote/simulation/SimulatedLogPlaceAtOrBelowPinLaw", "at", "(IIJJ)I"⟩ : MethodName)) hown (mvT hZ (hw _ (List.mem_of_getElem? (i := 33) rfl))) (mvT hZ (hw _ (List.mem_of_getElem? (i := 34) rfl))) (mvT hZ (hw _ (List.mem_of_getElem? (i := 35) rfl))) (mvT hZ (hw _ (List.mem_of_getElem? (i := 36) rfl))) (by decide) (backOf (W := 0) (rm5 l Z a0 hw [] nn (0 : Int32) q0 qq T50.heap n0 Z59) hZ (hw _ (List.mem_of_getElem? (i := 36) rfl)) (hw _ (List.mem_of_getElem? (i := 35) rfl)) (by decide) (by decide)) (g := (mkF m 206 #[.val (.int p0), .val (.long q0), .second, .val (.int pg), .val (.int ph), .val (.int po), .val (.int nn), .val (.long q0), .second, .val (.long zz1), .second, .val (.long zz2), .second, .val (.long zz3), .second, .val (.long zz4), .second, .val (.long qq), .second, .val (.ref ol), .val (.int rr), .unset] [(.long qq), (.long q0), (.int (0 : Int32)), (.int nn)])) rfl (by rw [hml]; rfl) (argsL := [(.int nn), (.int (0 : Int32)), (.long q0), (.long qq)]) (rest := []) (lenOf pd_4 rfl) rfl (by show 2 * 0 + _ ≤ _; exact Nat.le_of_eq rfl) (hb hby at_206) (fun _ _ => ⟨rfl, hE129, (by decide : 4 + 0 ≤ _), (by decide : 57 + 0 ≤ _)⟩)
                dsimp only [Pt.U, Pt.locs, Pt.cells, Pt.slots] at X130 l130 y130 z130 st130 hQ130
                subst l130 y130 z130
                obtain ⟨rfl, N130q, hE130⟩ := hQ130
                have N130 := Fr.app N129 N130q
                obtain ⟨_, _, ⟨T131, L131, k131, n131⟩, -, X131, ⟨Lc131, hQ131, l131, y131, z131⟩, st131⟩ := Jvm.LawKit.callS X130 hx (y := (⟨"com/example/quorumvote/quorumvote/simulation/SimulatedLogPlaceAtOrBelowPinLaw", "at", "(IIJJ)I"⟩ : MethodName)) hown (mvT hZ (hw _ (List.mem_of_getElem? (i := 33) rfl))) (mvT hZ (hw _ (List.mem_of_getElem? (i := 34) rfl))) (mvT hZ (hw _ (List.mem_of_getElem? (i := 35) rfl))) (mvT hZ (hw _ (List.mem_of_getElem? (i := 36) rfl))) (by decide) (backOf (W := 1) (rm5 l Z a0 hw [] nn (1 : Int32) zz1 qq T50.heap n0 Z59) hZ (hw _ (List.mem_of_getElem? (i := 36) rfl)) (hw _ (List.mem_of_getElem? (i := 35) rfl)) (by decide) (by decide)) (g := (mkF m 216 #[.val (.int p0), .val (.long q0), .second, .val (.int pg), .val (.int ph), .val (.int po), .val (.int nn), .val (.long q0), .second, .val (.long zz1), .second, .val (.long zz2), .second, .val (.long zz3), .second, .val (.long zz4), .second, .val (.long qq), .second, .val (.ref ol), .val (.int rr), .unset] [(.long qq), (.long zz1), (.int (1 : Int32)), (.int nn), (.int (fn5 nn (0 : Int32) q0 qq))])) rfl (by rw [hml]; rfl) (argsL := [(.int nn), (.int (1 : Int32)), (.long zz1), (.long qq)]) (rest := [(.int (fn5 nn (0 : Int32) q0 qq))]) (lenOf pd_4 rfl) rfl (by show 2 * 0 + _ ≤ _; exact Nat.le_of_eq rfl) (hb hby at_216) (fun _ _ => ⟨rfl, hE130, (by decide : 4 + 0 ≤ _), (by decide : 57 + 0 ≤ _)⟩)
                dsimp only [Pt.U, Pt.locs, Pt.cells, Pt.slots] at X131 l131 y131 z131 st131 hQ131
                subst l131 y131 z131
                obtain ⟨rfl, N131q, hE131⟩ := hQ131
                have N131 := Fr.app N130 N131q
                obtain ⟨_, _, ⟨T132, L132, k132, n132⟩, -, X132, ⟨Lc132, hQ132, l132, y132, z132⟩, st132⟩ := Jvm.LawKit.callS X131 hx (y := (⟨"com/example/quorumvote/quorumvote/simulation/SimulatedLogPlaceAtOrBelowPinLaw", "at", "(IIJJ)I"⟩ : MethodName)) hown (mvT hZ (hw _ (List.mem_of_getElem? (i := 33) rfl))) (mvT hZ (hw _ (List.mem_of_getElem? (i := 34) rfl))) (mvT hZ (hw _ (List.mem_of_getElem? (i := 35) rfl))) (mvT hZ (hw _ (List.mem_of_getElem? (i := 36) rfl))) (by decide) (backOf (W := 1) (rm5 l Z a0 hw [] nn (2 : Int32) zz2 qq T50.heap n0 Z59) hZ (hw _ (List.mem_of_getElem? (i := 36) rfl)) (hw _ (List.mem_of_getElem? (i := 35) rfl)) (by decide) (by decide)) (g := (mkF m 227 #[.val (.int p0), .val (.long q0), .second, .val (.int pg), .val (.int ph), .val (.int po), .val (.int nn), .val (.long q0), .second, .val (.long zz1), .second, .val (.long zz2), .second, .val (.long zz3), .second, .val (.long zz4), .second, .val (.long qq), .second, .val (.ref ol), .val (.int rr), .unset] [(.long qq), (.long zz2), (.int (2 : Int32)), (.int nn), (.int ((fn5 nn (0 : Int32) q0 qq) + (fn5 nn (1 : Int32) zz1 qq)))])) rfl (by rw [hml]; rfl) (argsL := [(.int nn), (.int (2 : Int32)), (.long zz2), (.long qq)]) (rest := [(.int ((fn5 nn (0 : Int32) q0 qq) + (fn5 nn (1 : Int32) zz1 qq)))]) (lenOf pd_4 rfl) rfl (by show 2 * 0 + _ ≤ _; exact Nat.le_of_eq rfl) (hb hby at_227) (fun _ _ => ⟨rfl, hE131, (by decide : 4 + 0 ≤ _), (by decide : 57 + 0 ≤ _)⟩)
                dsimp only [Pt.U, Pt.locs, Pt.cells, Pt.slots] at X132 l132 y132 z132 st132 hQ132
                subst l132 y132 z132
                obtain ⟨rfl, N132q, hE132⟩ := hQ132
                have N132 := Fr.app N131 N132q
                obtain ⟨_, _, ⟨T133, L133, k133, n133⟩, -, X133, ⟨Lc133, hQ133, l133, y133, z133⟩, st133⟩ := Jvm.LawKit.callS X132 hx (y := (⟨"com/example/quorumvote/quorumvote/simulation/SimulatedLogPlaceAtOrBelowPinLaw", "at", "(IIJJ)I"⟩ : MethodName)) hown (mvT hZ (hw _ (List.mem_of_getElem? (i := 33) rfl))) (mvT hZ (hw _ (List.mem_of_getElem? (i := 34) rfl))) (mvT hZ (hw _ (List.mem_of_getElem? (i := 35) rfl))) (mvT hZ (hw _ (List.mem_of_getElem? (i := 36) rfl))) (by decide) (backOf (W := 1) (rm5 l Z a0 hw [] nn (3 : Int32) zz3 qq T50.heap n0 Z59) hZ (hw _ (List.mem_of_getElem? (i := 36) rfl)) (hw _ (List.mem_of_getElem? (i := 35) rfl)) (by decide) (by decide)) (g := (mkF m 238 #[.val (.int p0), .val (.long q0), .second, .val (.int pg), .val (.int ph), .val (.int po), .val (.int nn), .val (.long q0), .second, .val (.long zz1), .second, .val (.long zz2), .second, .val (.long zz3), .second, .val (.long zz4), .second, .val (.long qq), .second, .val (.ref ol), .val (.int rr), .unset] [(.long qq), (.long zz3), (.int (3 : Int32)), (.int nn), (.int (((fn5 nn (0 : Int32) q0 qq) + (fn5 nn (1 : Int32) zz1 qq)) + (fn5 nn (2 : Int32) zz2 qq)))])) rfl (by rw [hml]; rfl) (argsL := [(.int nn), (.int (3 : Int32)), (.long zz3), (.long qq)]) (rest := [(.int (((fn5 nn (0 : Int32) q0 qq) + (fn5 nn (1 : Int32) zz1 qq)) + (fn5 nn (2 : Int32) zz2 qq)))]) (lenOf pd_4 rfl) rfl (by show 2 * 0 + _ ≤ _; exact Nat.le_of_eq rfl) (hb hby at_238) (fun _ _ => ⟨rfl, hE132, (by decide : 4 + 0 ≤ _), (by decide : 57 + 0 ≤ _)⟩)
                dsimp only [Pt.U, Pt.locs, Pt.cells, Pt.slots] at X133 l133 y133 z133 st133 hQ133
                subst l133 y133 z133
                obtain ⟨rfl, N133q, hE133⟩ := hQ133
                have N133 := Fr.app N132 N133q
                obtain ⟨_, _, ⟨T134, L134, k134, n134⟩, -, X134, ⟨Lc134, hQ134, l134, y134, z134⟩, st134⟩ := Jvm.LawKit.callS X133 hx (y := (⟨"com/example/quorumvote/quorumvote/simulation/SimulatedLogPlaceAtOrBelowPinLaw", "at", "(IIJJ)I"⟩ : MethodName)) hown (mvT hZ (hw _ (List.mem_of_getElem? (i := 33) rfl))) (mvT hZ (hw _ (List.mem_of_getElem? (i := 34) rfl))) (mvT hZ (hw _ (List.mem_of_getElem? (i := 35) rfl))) (mvT hZ (hw _ (List.mem_of_getElem? (i := 36) rfl))) (by decide) (backOf (W := 1) (rm5 l Z a0 hw [] nn (4 : Int32) zz4 qq T50.heap n0 Z59) hZ (hw _ (List.mem_of_getElem? (i := 36) rfl)) (hw _ (List.mem_of_getElem? (i := 35) rfl)) (by decide) (by decide)) (g := (mkF m 249 #[.val (.int p0), .val (.long q0), .second, .val (.int pg), .val (.int ph), .val (.int po), .val (.int nn), .val (.long q0), .second, .val (.long zz1), .second, .val (.long zz2), .second, .val (.long zz3), .second, .val (.long zz4), .second, .val (.long qq), .second, .val (.ref ol), .val (.int rr), .unset] [(.long qq), (.long zz4), (.int (4 : Int32)), (.int nn), (.int ((((fn5 nn (0 : Int32) q0 qq) + (fn5 nn (1 : Int32) zz1 qq)) + (fn5 nn (2 : Int32) zz2 qq)) + (fn5 nn (3 : Int32) zz3 qq)))])) rfl (by rw [hml]; rfl) (argsL := [(.int nn), (.int (4 : Int32)), (.long zz4), (.long qq)]) (rest := [(.int ((((fn5 nn (0 : Int32) q0 qq) + (fn5 nn (1 : Int32) zz1 qq)) + (fn5 nn (2 : Int32) zz2 qq)) + (fn5 nn (3 : Int32) zz3 qq)))]) (lenOf pd_4 rfl) rfl (by show 2 * 0 + _ ≤ _; exact Nat.le_of_eq rfl) (hb hby at_249) (fun _ _ => ⟨rfl, hE133, (by decide : 4 + 0 ≤ _), (by decide : 57 + 0 ≤ _)⟩)
                dsimp only [Pt.U, Pt.locs, Pt.cells, Pt.slots] at X134 l134 y134 z134 st134 hQ134
                subst l134 y134 z134
                obtain ⟨rfl, N134q, hE134⟩ := hQ134
                have N134 := Fr.app N133 N134q
                have pre135 : ∀ t, Steps p.tables e below (T134.setTop (mkF m 255 #[.val (.int p0), .val (.long q0), .second, .val (.int pg), .val (.int ph), .val (.int po), .val (.int nn), .val (.long q0), .second, .val (.long zz1), .second, .val (.long zz2), .second, .val (.long zz3), .second, .val (.long zz4), .second, .val (.long qq), .second, .val (.ref ol), .val (.int rr), .unset] [(.int ((((((fn5 nn (0 : Int32) q0 qq) + (fn5 nn (1 : Int32) zz1 qq)) + (fn5 nn (2 : Int32) zz2 qq)) + (fn5 nn (3 : Int32) zz3 qq)) + (fn5 nn (4 : Int32) zz4 qq)) - (1 : Int32)))])) t → Steps p.tables e below (s₁.setTop (entryFrame m #[(.int p0), (.long q0), (.int pg), (.int ph), (.int po)] maxLocals)) t := by
                  intro t kt
                  refine pre60 _ ?_
                  show Steps p.tables e below (T50.setTop (mkF m 142 #[.val (.int p0), .val (.long q0), .second, .val (.int pg), .val (.int ph), .val (.int po), .val (.int nn), .val (.long q0), .second, .val (.long zz1), .second, .val (.long zz2), .second, .val (.long zz3), .second, .val (.long zz4), .second, .val (.long qq), .second, .val (.ref ol), .unset, .unset] [(.int (2 : Int32)), (.int nn)])) _
                  refine XS.icmpYes X50.here hx rfl (pc0 := 142) (pc' := 156) rfl (hb hby at_142) rfl (XT.ii_le_t hc142_61) (by decide) (by decide) ?_
                  show Steps p.tables e below (T50.setTop (mkF m 156 #[.val (.int p0), .val (.long q0), .second, .val (.int pg), .val (.int ph), .val (.int po), .val (.int nn), .val (.long q0), .second, .val (.long zz1), .second, .val (.long zz2), .second, .val (.long zz3), .second, .val (.long zz4), .second, .val (.long qq), .second, .val (.ref ol), .unset, .unset] [])) _
                  refine XS.iload X50.here hx rfl (hb hby at_156) rfl ?_
                  show Steps p.tables e below (T50.setTop (mkF m 158 #[.val (.int p0), .val (.long q0), .second, .val (.int pg), .val (.int ph), .val (.int po), .val (.int nn), .val (.long q0), .second, .val (.long zz1), .second, .val (.long zz2), .second, .val (.long zz3), .second, .val (.long zz4), .second, .val (.long qq), .second, .val (.ref ol), .unset, .unset] [(.int nn)])) _
                  refine XS.iconst X50.here hx rfl (hb hby at_158) ?_
                  show Steps p.tables e below (T50.setTop (mkF m 159 #[.val (.int p0), .val (.long q0), .second, .val (.int pg), .val (.int ph), .val (.int po), .val (.int nn), .val (.long q0), .second, .val (.long zz1), .second, .val (.long zz2), .second, .val (.long zz3), .second, .val (.long zz4), .second, .val (.long qq), .second, .val (.ref ol), .unset, .unset] [(.int (3 : Int32)), (.int nn)])) _
                  refine XS.icmpYes X50.here hx rfl (pc0 := 159) (pc' := 173) rfl (hb hby at_159) rfl (XT.ii_le_t (by have q0 := hc110_37; have q1 := hc125_49; have q2 := hc142_61; have l0 : (0 : Int32).toInt = 0 := rfl; have l1 : (1 : Int32).toInt = 1 := rfl; have l2 : (2 : Int32).toInt = 2 := rfl; have l3 : (3 : Int32).toInt = 3 := rfl; simp only [Int32.lt_iff_toInt_lt, ← Int32.toInt_inj] at q0 q1 q2 ⊢; omega)) (by decide) (by decide) ?_
                  show Steps p.tables e below (T50.setTop (mkF m 173 #[.val (.int p0), .val (.long q0), .second, .val (.int pg), .val (.int ph), .val (.int po), .val (.int nn), .val (.long q0), .second, .val (.long zz1), .second, .val (.long zz2), .second, .val (.long zz3), .second, .val (.long zz4), .second, .val (.long qq), .second, .val (.ref ol), .unset, .unset] [])) _
                  refine XS.iload X50.here hx rfl (hb hby at_173) rfl ?_
                  show Steps p.tables e below (T50.setTop (mkF m 175 #[.val (.int p0), .val (.long q0), .second, .val (.int pg), .val (.int ph), .val (.int po), .val (.int nn), .val (.long q0), .second, .val (.long zz1), .second, .val (.long zz2), .second, .val (.long zz3), .second, .val (.long zz4), .second, .val (.long qq), .second, .val (.ref ol), .unset, .unset] [(.int nn)])) _
                  refine XS.iconst X50.here hx rfl (hb hby at_175) ?_
                  show Steps p.tables e below (T50.setTop (mkF m 176 #[.val (.int p0), .val (.long q0), .second, .val (.int pg), .val (.int ph), .val (.int po), .val (.int nn), .val (.long q0), .second, .val (.long zz1), .second, .val (.long zz2), .second, .val (.long zz3), .second, .val (.long zz4), .second, .val (.long qq), .second, .val (.ref ol), .unset, .unset] [(.int (4 : Int32)), (.int nn)])) _
                  refine XS.icmpYes X50.here hx rfl (pc0 := 176) (pc' := 190) rfl (hb hby at_176) rfl (XT.ii_le_t (by have q0 := hc110_37; have q1 := hc125_49; have q2 := hc142_61; have l0 : (0 : Int32).toInt = 0 := rfl; have l1 : (1 : Int32).toInt = 1 := rfl; have l2 : (2 : Int32).toInt = 2 := rfl; have l3 : (4 : Int32).toInt = 4 := rfl; simp only [Int32.lt_iff_toInt_lt, ← Int32.toInt_inj] at q0 q1 q2 ⊢; omega)) (by decide) (by decide) ?_
                  show Steps p.tables e below (T50.setTop (mkF m 190 #[.val (.int p0), .val (.long q0), .second, .val (.int pg), .val (.int ph), .val (.int po), .val (.int nn), .val (.long q0), .second, .val (.long zz1), .second, .val (.long zz2), .second, .val (.long zz3), .second, .val (.long zz4), .second, .val (.long qq), .second, .val (.ref ol), .unset, .unset] [])) _
                  refine XS.aload X50.here hx rfl (hb hby at_190) rfl rfl ?_
                  show Steps p.tables e below (T50.setTop (mkF m 192 #[.val (.int p0), .val (.long q0), .second, .val (.int pg), .val (.int ph), .val (.int po), .val (.int nn), .val (.long q0), .second, .val (.long zz1), .second, .val (.long zz2), .second, .val (.long zz3), .second, .val (.long zz4), .second, .val (.long qq), .second, .val (.ref ol), .unset, .unset] [(.ref ol)])) _
                  refine XS.lload X50.here hx rfl (hb hby at_192) rfl ?_
                  show Steps p.tables e below (T50.setTop (mkF m 194 #[.val (.int p0), .val (.long q0), .second, .val (.int pg), .val (.int ph), .val (.int po), .val (.int nn), .val (.long q0), .second, .val (.long zz1), .second, .val (.long zz2), .second, .val (.long zz3), .second, .val (.long zz4), .second, .val (.long qq), .second, .val (.ref ol), .unset, .unset] [(.long qq), (.ref ol)])) _
                  refine st129.trans ?_
                  show Steps p.tables e below (T129.setTop (mkF m 197 #[.val (.int p0), .val (.long q0), .second, .val (.int pg), .val (.int ph), .val (.int po), .val (.int nn), .val (.long q0), .second, .val (.long zz1), .second, .val (.long zz2), .second, .val (.long zz3), .second, .val (.long zz4), .second, .val (.long qq), .second, .val (.ref ol), .unset, .unset] [(.int rr)])) _
                  refine XS.istore X129.here hx rfl (hb hby at_197) rfl (l' := #[.val (.int p0), .val (.long q0), .second, .val (.int pg), .val (.int ph), .val (.int po), .val (.int nn), .val (.long q0), .second, .val (.long zz1), .second, .val (.long zz2), .second, .val (.long zz3), .second, .val (.long zz4), .second, .val (.long qq), .second, .val (.ref ol), .val (.int rr), .unset]) rfl ?_
                  show Steps p.tables e below (T129.setTop (mkF m 199 #[.val (.int p0), .val (.long q0), .second, .val (.int pg), .val (.int ph), .val (.int po), .val (.int nn), .val (.long q0), .second, .val (.long zz1), .second, .val (.long zz2), .second, .val (.long zz3), .second, .val (.long zz4), .second, .val (.long qq), .second, .val (.ref ol), .val (.int rr), .unset] [])) _
                  refine XS.iload X129.here hx rfl (hb hby at_199) rfl ?_
                  show Steps p.tables e below (T129.setTop (mkF m 201 #[.val (.int p0), .val (.long q0), .second, .val (.int pg), .val (.int ph), .val (.int po), .val (.int nn), .val (.long q0), .second, .val (.long zz1), .second, .val (.long zz2), .second, .val (.long zz3), .second, .val (.long zz4), .second, .val (.long qq), .second, .val (.ref ol), .val (.int rr), .unset] [(.int nn)])) _
                  refine XS.iconst X129.here hx rfl (hb hby at_201) ?_
                  show Steps p.tables e below (T129.setTop (mkF m 202 #[.val (.int p0), .val (.long q0), .second, .val (.int pg), .val (.int ph), .val (.int po), .val (.int nn), .val (.long q0), .second, .val (.long zz1), .second, .val (.long zz2), .second, .val (.long zz3), .second, .val (.long zz4), .second, .val (.long qq), .second, .val (.ref ol), .val (.int rr), .unset] [(.int (0 : Int32)), (.int nn)])) _
                  refine XS.lload X129.here hx rfl (hb hby at_202) rfl ?_
                  show Steps p.tables e below (T129.setTop (mkF m 204 #[.val (.int p0), .val (.long q0), .second, .val (.int pg), .val (.int ph), .val (.int po), .val (.int nn), .val (.long q0), .second, .val (.long zz1), .second, .val (.long zz2), .second, .val (.long zz3), .second, .val (.long zz4), .second, .val (.long qq), .second, .val (.ref ol), .val (.int rr), .unset] [(.long q0), (.int (0 : Int32)), (.int nn)])) _
                  refine XS.lload X129.here hx rfl (hb hby at_204) rfl ?_
                  show Steps p.tables e below (T129.setTop (mkF m 206 #[.val (.int p0), .val (.long q0), .second, .val (.int pg), .val (.int ph), .val (.int po), .val (.int nn), .val (.long q0), .second, .val (.long zz1), .second, .val (.long zz2), .second, .val (.long zz3), .second, .val (.long zz4), .second, .val (.long qq), .second, .val (.ref ol), .val (.int rr), .unset] [(.long qq), (.long q0), (.int (0 : Int32)), (.int nn)])) _
                  refine st130 _ ?_
                  show Steps p.tables e below (T130.setTop (mkF m 209 #[.val (.int p0), .val (.long q0), .second, .val (.int pg), .val (.int ph), .val (.int po), .val (.int nn), .val (.long q0), .second, .val (.long zz1), .second, .val (.long zz2), .second, .val (.long zz3), .second, .val (.long zz4), .second, .val (.long qq), .second, .val (.ref ol), .val (.int rr), .unset] [(.int (fn5 nn (0 : Int32) q0 qq))])) _
                  refine XS.iload X130.here hx rfl (hb hby at_209) rfl ?_
                  show Steps p.tables e below (T130.setTop (mkF m 211 #[.val (.int p0), .val (.long q0), .second, .val (.int pg), .val (.int ph), .val (.int po), .val (.int nn), .val (.long q0), .second, .val (.long zz1), .second, .val (.long zz2), .second, .val (.long zz3), .second, .val (.long zz4), .second, .val (.long qq), .second, .val (.ref ol), .val (.int rr), .unset] [(.int nn), (.int (fn5 nn (0 : Int32) q0 qq))])) _
                  refine XS.iconst X130.here hx rfl (hb hby at_211) ?_
                  show Steps p.tables e below (T130.setTop (mkF m 212 #[.val (.int p0), .val (.long q0), .second, .val (.int pg), .val (.int ph), .val (.int po), .val (.int nn), .val (.long q0), .second, .val (.long zz1), .second, .val (.long zz2), .second, .val (.long zz3), .second, .val (.long zz4), .second, .val (.long qq), .second, .val (.ref ol), .val (.int rr), .unset] [(.int (1 : Int32)), (.int nn), (.int (fn5 nn (0 : Int32) q0 qq))])) _
                  refine XS.lload X130.here hx rfl (hb hby at_212) rfl ?_
                  show Steps p.tables e below (T130.setTop (mkF m 214 #[.val (.int p0), .val (.long q0), .second, .val (.int pg), .val (.int ph), .val (.int po), .val (.int nn), .val (.long q0), .second, .val (.long zz1), .second, .val (.long zz2), .second, .val (.long zz3), .second, .val (.long zz4), .second, .val (.long qq), .second, .val (.ref ol), .val (.int rr), .unset] [(.long zz1), (.int (1 : Int32)), (.int nn), (.int (fn5 nn (0 : Int32) q0 qq))])) _
                  refine XS.lload X130.here hx rfl (hb hby at_214) rfl ?_
                  show Steps p.tables e below (T130.setTop (mkF m 216 #[.val (.int p0), .val (.long q0), .second, .val (.int pg), .val (.int ph), .val (.int po), .val (.int nn), .val (.long q0), .second, .val (.long zz1), .second, .val (.long zz2), .second, .val (.long zz3), .second, .val (.long zz4), .second, .val (.long qq), .second, .val (.ref ol), .val (.int rr), .unset] [(.long qq), (.long zz1), (.int (1 : Int32)), (.int nn), (.int (fn5 nn (0 : Int32) q0 qq))])) _
                  refine st131 _ ?_
                  show Steps p.tables e below (T131.setTop (mkF m 219 #[.val (.int p0), .val (.long q0), .second, .val (.int pg), .val (.int ph), .val (.int po), .val (.int nn), .val (.long q0), .second, .val (.long zz1), .second, .val (.long zz2), .second, .val (.long zz3), .second, .val (.long zz4), .second, .val (.long qq), .second, .val (.ref ol), .val (.int rr), .unset] [(.int (fn5 nn (1 : Int32) zz1 qq)), (.int (fn5 nn (0 : Int32) q0 qq))])) _
                  refine XS.iadd X131.here hx rfl (hb hby at_219) rfl ?_
                  show Steps p.tables e below (T131.setTop (mkF m 220 #[.val (.int p0), .val (.long q0), .second, .val (.int pg), .val (.int ph), .val (.int po), .val (.int nn), .val (.long q0), .second, .val (.long zz1), .second, .val (.long zz2), .second, .val (.long zz3), .second, .val (.long zz4), .second, .val (.long qq), .second, .val (.ref ol), .val (.int rr), .unset] [(.int ((fn5 nn (0 : Int32) q0 qq) + (fn5 nn (1 : Int32) zz1 qq)))])) _
                  refine XS.iload X131.here hx rfl (hb hby at_220) rfl ?_
                  show Steps p.tables e below (T131.setTop (mkF m 222 #[.val (.int p0), .val (.long q0), .second, .val (.int pg), .val (.int ph), .val (.int po), .val (.int nn), .val (.long q0), .second, .val (.long zz1), .second, .val (.long zz2), .second, .val (.long zz3), .second, .val (.long zz4), .second, .val (.long qq), .second, .val (.ref ol), .val (.int rr), .unset] [(.int nn), (.int ((fn5 nn (0 : Int32) q0 qq) + (fn5 nn (1 : Int32) zz1 qq)))])) _
                  refine XS.iconst X131.here hx rfl (hb hby at_222) ?_
                  show Steps p.tables e below (T131.setTop (mkF m 223 #[.val (.int p0), .val (.long q0), .second, .val (.int pg), .val (.int ph), .val (.int po), .val (.int nn), .val (.long q0), .second, .val (.long zz1), .second, .val (.long zz2), .second, .val (.long zz3), .second, .val (.long zz4), .second, .val (.long qq), .second, .val (.ref ol), .val (.int rr), .unset] [(.int (2 : Int32)), (.int nn), (.int ((fn5 nn (0 : Int32) q0 qq) + (fn5 nn (1 : Int32) zz1 qq)))])) _
                  refine XS.lload X131.here hx rfl (hb hby at_223) rfl ?_
                  show Steps p.tables e below (T131.setTop (mkF m 225 #[.val (.int p0), .val (.long q0), .second, .val (.int pg), .val (.int ph), .val (.int po), .val (.int nn), .val (.long q0), .second, .val (.long zz1), .second, .val (.long zz2), .second, .val (.long zz3), .second, .val (.long zz4), .second, .val (.long qq), .second, .val (.ref ol), .val (.int rr), .unset] [(.long zz2), (.int (2 : Int32)), (.int nn), (.int ((fn5 nn (0 : Int32) q0 qq) + (fn5 nn (1 : Int32) zz1 qq)))])) _
                  refine XS.lload X131.here hx rfl (hb hby at_225) rfl ?_
                  show Steps p.tables e below (T131.setTop (mkF m 227 #[.val (.int p0), .val (.long q0), .second, .val (.int pg), .val (.int ph), .val (.int po), .val (.int nn), .val (.long q0), .second, .val (.long zz1), .second, .val (.long zz2), .second, .val (.long zz3), .second, .val (.long zz4), .second, .val (.long qq), .second, .val (.ref ol), .val (.int rr), .unset] [(.long qq), (.long zz2), (.int (2 : Int32)), (.int nn), (.int ((fn5 nn (0 : Int32) q0 qq) + (fn5 nn (1 : Int32) zz1 qq)))])) _
                  refine st132 _ ?_
                  show Steps p.tables e below (T132.setTop (mkF m 230 #[.val (.int p0), .val (.long q0), .second, .val (.int pg), .val (.int ph), .val (.int po), .val (.int nn), .val (.long q0), .second, .val (.long zz1), .second, .val (.long zz2), .second, .val (.long zz3), .second, .val (.long zz4), .second, .val (.long qq), .second, .val (.ref ol), .val (.int rr), .unset] [(.int (fn5 nn (2 : Int32) zz2 qq)), (.int ((fn5 nn (0 : Int32) q0 qq) + (fn5 nn (1 : Int32) zz1 qq)))])) _
                  refine XS.iadd X132.here hx rfl (hb hby at_230) rfl ?_
                  show Steps p.tables e below (T132.setTop (mkF m 231 #[.val (.int p0), .val (.long q0), .second, .val (.int pg), .val (.int ph), .val (.int po), .val (.int nn), .val (.long q0), .second, .val (.long zz1), .second, .val (.long zz2), .second, .val (.long zz3), .second, .val (.long zz4), .second, .val (.long qq), .second, .val (.ref ol), .val (.int rr), .unset] [(.int (((fn5 nn (0 : Int32) q0 qq) + (fn5 nn (1 : Int32) zz1 qq)) + (fn5 nn (2 : Int32) zz2 qq)))])) _
                  refine XS.iload X132.here hx rfl (hb hby at_231) rfl ?_
                  show Steps p.tables e below (T132.setTop (mkF m 233 #[.val (.int p0), .val (.long q0), .second, .val (.int pg), .val (.int ph), .val (.int po), .val (.int nn), .val (.long q0), .second, .val (.long zz1), .second, .val (.long zz2), .second, .val (.long zz3), .second, .val (.long zz4), .second, .val (.long qq), .second, .val (.ref ol), .val (.int rr), .unset] [(.int nn), (.int (((fn5 nn (0 : Int32) q0 qq) + (fn5 nn (1 : Int32) zz1 qq)) + (fn5 nn (2 : Int32) zz2 qq)))])) _
                  refine XS.iconst X132.here hx rfl (hb hby at_233) ?_
                  show Steps p.tables e below (T132.setTop (mkF m 234 #[.val (.int p0), .val (.long q0), .second, .val (.int pg), .val (.int ph), .val (.int po), .val (.int nn), .val (.long q0), .second, .val (.long zz1), .second, .val (.long zz2), .second, .val (.long zz3), .second, .val (.long zz4), .second, .val (.long qq), .second, .val (.ref ol), .val (.int rr), .unset] [(.int (3 : Int32)), (.int nn), (.int (((fn5 nn (0 : Int32) q0 qq) + (fn5 nn (1 : Int32) zz1 qq)) + (fn5 nn (2 : Int32) zz2 qq)))])) _
                  refine XS.lload X132.here hx rfl (hb hby at_234) rfl ?_
                  show Steps p.tables e below (T132.setTop (mkF m 236 #[.val (.int p0), .val (.long q0), .second, .val (.int pg), .val (.int ph), .val (.int po), .val (.int nn), .val (.long q0), .second, .val (.long zz1), .second, .val (.long zz2), .second, .val (.long zz3), .second, .val (.long zz4), .second, .val (.long qq), .second, .val (.ref ol), .val (.int rr), .unset] [(.long zz3), (.int (3 : Int32)), (.int nn), (.int (((fn5 nn (0 : Int32) q0 qq) + (fn5 nn (1 : Int32) zz1 qq)) + (fn5 nn (2 : Int32) zz2 qq)))])) _
                  refine XS.lload X132.here hx rfl (hb hby at_236) rfl ?_
                  show Steps p.tables e below (T132.setTop (mkF m 238 #[.val (.int p0), .val (.long q0), .second, .val (.int pg), .val (.int ph), .val (.int po), .val (.int nn), .val (.long q0), .second, .val (.long zz1), .second, .val (.long zz2), .second, .val (.long zz3), .second, .val (.long zz4), .second, .val (.long qq), .second, .val (.ref ol), .val (.int rr), .unset] [(.long qq), (.long zz3), (.int (3 : Int32)), (.int nn), (.int (((fn5 nn (0 : Int32) q0 qq) + (fn5 nn (1 : Int32) zz1 qq)) + (fn5 nn (2 : Int32) zz2 qq)))])) _
                  refine st133 _ ?_
                  show Steps p.tables e below (T133.setTop (mkF m 241 #[.val (.int p0), .val (.long q0), .second, .val (.int pg), .val (.int ph), .val (.int po), .val (.int nn), .val (.long q0), .second, .val (.long zz1), .second, .val (.long zz2), .second, .val (.long zz3), .second, .val (.long zz4), .second, .val (.long qq), .second, .val (.ref ol), .val (.int rr), .unset] [(.int (fn5 nn (3 : Int32) zz3 qq)), (.int (((fn5 nn (0 : Int32) q0 qq) + (fn5 nn (1 : Int32) zz1 qq)) + (fn5 nn (2 : Int32) zz2 qq)))])) _
                  refine XS.iadd X133.here hx rfl (hb hby at_241) rfl ?_
                  show Steps p.tables e below (T133.setTop (mkF m 242 #[.val (.int p0), .val (.long q0), .second, .val (.int pg), .val (.int ph), .val (.int po), .val (.int nn), .val (.long q0), .second, .val (.long zz1), .second, .val (.long zz2), .second, .val (.long zz3), .second, .val (.long zz4), .second, .val (.long qq), .second, .val (.ref ol), .val (.int rr), .unset] [(.int ((((fn5 nn (0 : Int32) q0 qq) + (fn5 nn (1 : Int32) zz1 qq)) + (fn5 nn (2 : Int32) zz2 qq)) + (fn5 nn (3 : Int32) zz3 qq)))])) _
                  refine XS.iload X133.here hx rfl (hb hby at_242) rfl ?_
                  show Steps p.tables e below (T133.setTop (mkF m 244 #[.val (.int p0), .val (.long q0), .second, .val (.int pg), .val (.int ph), .val (.int po), .val (.int nn), .val (.long q0), .second, .val (.long zz1), .second, .val (.long zz2), .second, .val (.long zz3), .second, .val (.long zz4), .second, .val (.long qq), .second, .val (.ref ol), .val (.int rr), .unset] [(.int nn), (.int ((((fn5 nn (0 : Int32) q0 qq) + (fn5 nn (1 : Int32) zz1 qq)) + (fn5 nn (2 : Int32) zz2 qq)) + (fn5 nn (3 : Int32) zz3 qq)))])) _
                  refine XS.iconst X133.here hx rfl (hb hby at_244) ?_
                  show Steps p.tables e below (T133.setTop (mkF m 245 #[.val (.int p0), .val (.long q0), .second, .val (.int pg), .val (.int ph), .val (.int po), .val (.int nn), .val (.long q0), .second, .val (.long zz1), .second, .val (.long zz2), .second, .val (.long zz3), .second, .val (.long zz4), .second, .val (.long qq), .second, .val (.ref ol), .val (.int rr), .unset] [(.int (4 : Int32)), (.int nn), (.int ((((fn5 nn (0 : Int32) q0 qq) + (fn5 nn (1 : Int32) zz1 qq)) + (fn5 nn (2 : Int32) zz2 qq)) + (fn5 nn (3 : Int32) zz3 qq)))])) _
                  refine XS.lload X133.here hx rfl (hb hby at_245) rfl ?_
                  show Steps p.tables e below (T133.setTop (mkF m 247 #[.val (.int p0), .val (.long q0), .second, .val (.int pg), .val (.int ph), .val (.int po), .val (.int nn), .val (.long q0), .second, .val (.long zz1), .second, .val (.long zz2), .second, .val (.long zz3), .second, .val (.long zz4), .second, .val (.long qq), .second, .val (.ref ol), .val (.int rr), .unset] [(.long zz4), (.int (4 : Int32)), (.int nn), (.int ((((fn5 nn (0 : Int32) q0 qq) + (fn5 nn (1 : Int32) zz1 qq)) + (fn5 nn (2 : Int32) zz2 qq)) + (fn5 nn (3 : Int32) zz3 qq)))])) _
                  refine XS.lload X133.here hx rfl (hb hby at_247) rfl ?_
                  show Steps p.tables e below (T133.setTop (mkF m 249 #[.val (.int p0), .val (.long q0), .second, .val (.int pg), .val (.int ph), .val (.int po), .val (.int nn), .val (.long q0), .second, .val (.long zz1), .second, .val (.long zz2), .second, .val (.long zz3), .second, .val (.long zz4), .second, .val (.long qq), .second, .val (.ref ol), .val (.int rr), .unset] [(.long qq), (.long zz4), (.int (4 : Int32)), (.int nn), (.int ((((fn5 nn (0 : Int32) q0 qq) + (fn5 nn (1 : Int32) zz1 qq)) + (fn5 nn (2 : Int32) zz2 qq)) + (fn5 nn (3 : Int32) zz3 qq)))])) _
                  refine st134 _ ?_
                  show Steps p.tables e below (T134.setTop (mkF m 252 #[.val (.int p0), .val (.long q0), .second, .val (.int pg), .val (.int ph), .val (.int po), .val (.int nn), .val (.long q0), .second, .val (.long zz1), .second, .val (.long zz2), .second, .val (.long zz3), .second, .val (.long zz4), .second, .val (.long qq), .second, .val (.ref ol), .val (.int rr), .unset] [(.int (fn5 nn (4 : Int32) zz4 qq)), (.int ((((fn5 nn (0 : Int32) q0 qq) + (fn5 nn (1 : Int32) zz1 qq)) + (fn5 nn (2 : Int32) zz2 qq)) + (fn5 nn (3 : Int32) zz3 qq)))])) _
                  refine XS.iadd X134.here hx rfl (hb hby at_252) rfl ?_
                  show Steps p.tables e below (T134.setTop (mkF m 253 #[.val (.int p0), .val (.long q0), .second, .val (.int pg), .val (.int ph), .val (.int po), .val (.int nn), .val (.long q0), .second, .val (.long zz1), .second, .val (.long zz2), .second, .val (.long zz3), .second, .val (.long zz4), .second, .val (.long qq), .second, .val (.ref ol), .val (.int rr), .unset] [(.int (((((fn5 nn (0 : Int32) q0 qq) + (fn5 nn (1 : Int32) zz1 qq)) + (fn5 nn (2 : Int32) zz2 qq)) + (fn5 nn (3 : Int32) zz3 qq)) + (fn5 nn (4 : Int32) zz4 qq)))])) _
                  refine XS.iconst X134.here hx rfl (hb hby at_253) ?_
                  show Steps p.tables e below (T134.setTop (mkF m 254 #[.val (.int p0), .val (.long q0), .second, .val (.int pg), .val (.int ph), .val (.int po), .val (.int nn), .val (.long q0), .second, .val (.long zz1), .second, .val (.long zz2), .second, .val (.long zz3), .second, .val (.long zz4), .second, .val (.long qq), .second, .val (.ref ol), .val (.int rr), .unset] [(.int (1 : Int32)), (.int (((((fn5 nn (0 : Int32) q0 qq) + (fn5 nn (1 : Int32) zz1 qq)) + (fn5 nn (2 : Int32) zz2 qq)) + (fn5 nn (3 : Int32) zz3 qq)) + (fn5 nn (4 : Int32) zz4 qq)))])) _
                  refine XS.isub X134.here hx rfl (hb hby at_254) rfl ?_
                  exact kt
                obtain ⟨ex, h_ex⟩ : ∃ z : Int32, z = ((((((fn5 nn (0 : Int32) q0 qq) + (fn5 nn (1 : Int32) zz1 qq)) + (fn5 nn (2 : Int32) zz2 qq)) + (fn5 nn (3 : Int32) zz3 qq)) + (fn5 nn (4 : Int32) zz4 qq)) - (1 : Int32)) := ⟨_, rfl⟩
                have pre136 : ∀ t, Steps p.tables e below (T134.setTop (mkF m 255 #[.val (.int p0), .val (.long q0), .second, .val (.int pg), .val (.int ph), .val (.int po), .val (.int nn), .val (.long q0), .second, .val (.long zz1), .second, .val (.long zz2), .second, .val (.long zz3), .second, .val (.long zz4), .second, .val (.long qq), .second, .val (.ref ol), .val (.int rr), .unset] [(.int ex)])) t → Steps p.tables e below (s₁.setTop (entryFrame m #[(.int p0), (.long q0), (.int pg), (.int ph), (.int po)] maxLocals)) t := by
                  intro t kt
                  rw [h_ex] at kt
                  exact pre135 _ kt
                have pre137 : ∀ t, Steps p.tables e below (T134.setTop (mkF m 261 #[.val (.int p0), .val (.long q0), .second, .val (.int pg), .val (.int ph), .val (.int po), .val (.int nn), .val (.long q0), .second, .val (.long zz1), .second, .val (.long zz2), .second, .val (.long zz3), .second, .val (.long zz4), .second, .val (.long qq), .second, .val (.ref ol), .val (.int rr), .val (.int ex)] [(.int ex), (.int rr)])) t → Steps p.tables e below (s₁.setTop (entryFrame m #[(.int p0), (.long q0), (.int pg), (.int ph), (.int po)] maxLocals)) t := by
                  intro t kt
                  refine pre136 _ ?_
                  show Steps p.tables e below (T134.setTop (mkF m 255 #[.val (.int p0), .val (.long q0), .second, .val (.int pg), .val (.int ph), .val (.int po), .val (.int nn), .val (.long q0), .second, .val (.long zz1), .second, .val (.long zz2), .second, .val (.long zz3), .second, .val (.long zz4), .second, .val (.long qq), .second, .val (.ref ol), .val (.int rr), .unset] [(.int ex)])) _
                  refine XS.istore X134.here hx rfl (hb hby at_255) rfl (l' := #[.val (.int p0), .val (.long q0), .second, .val (.int pg), .val (.int ph), .val (.int po), .val (.int nn), .val (.long q0), .second, .val (.long zz1), .second, .val (.long zz2), .second, .val (.long zz3), .second, .val (.long zz4), .second, .val (.long qq), .second, .val (.ref ol), .val (.int rr), .val (.int ex)]) rfl ?_
                  show Steps p.tables e below (T134.setTop (mkF m 257 #[.val (.int p0), .val (.long q0), .second, .val (.int pg), .val (.int ph), .val (.int po), .val (.int nn), .val (.long q0), .second, .val (.long zz1), .second, .val (.long zz2), .second, .val (.long zz3), .second, .val (.long zz4), .second, .val (.long qq), .second, .val (.ref ol), .val (.int rr), .val (.int ex)] [])) _
                  refine XS.iload X134.here hx rfl (hb hby at_257) rfl ?_
                  show Steps p.tables e below (T134.setTop (mkF m 259 #[.val (.int p0), .val (.long q0), .second, .val (.int pg), .val (.int ph), .val (.int po), .val (.int nn), .val (.long q0), .second, .val (.long zz1), .second, .val (.long zz2), .second, .val (.long zz3), .second, .val (.long zz4), .second, .val (.long qq), .second, .val (.ref ol), .val (.int rr), .val (.int ex)] [(.int rr)])) _
                  refine XS.iload X134.here hx rfl (hb hby at_259) rfl ?_
                  exact kt
                by_cases hc261_138 : rr = ex
                · skip
                  have pre139 : ∀ t, Steps p.tables e below (T134.setTop (mkF m 269 #[.val (.int p0), .val (.long q0), .second, .val (.int pg), .val (.int ph), .val (.int po), .val (.int nn), .val (.long q0), .second, .val (.long zz1), .second, .val (.long zz2), .second, .val (.long zz3), .second, .val (.long zz4), .second, .val (.long qq), .second, .val (.ref ol), .val (.int rr), .val (.int ex)] [(.int (1 : Int32))])) t → Steps p.tables e below (s₁.setTop (entryFrame m #[(.int p0), (.long q0), (.int pg), (.int ph), (.int po)] maxLocals)) t := by
                    intro t kt
                    refine pre137 _ ?_
                    show Steps p.tables e below (T134.setTop (mkF m 261 #[.val (.int p0), .val (.long q0), .second, .val (.int pg), .val (.int ph), .val (.int po), .val (.int nn), .val (.long q0), .second, .val (.long zz1), .second, .val (.long zz2), .second, .val (.long zz3), .second, .val (.long zz4), .second, .val (.long qq), .second, .val (.ref ol), .val (.int rr), .val (.int ex)] [(.int ex), (.int rr)])) _
                    refine XS.icmpNo X134.here hx rfl (hb hby at_261) rfl (XT.ii_ne_f hc261_138) ?_
                    show Steps p.tables e below (T134.setTop (mkF m 264 #[.val (.int p0), .val (.long q0), .second, .val (.int pg), .val (.int ph), .val (.int po), .val (.int nn), .val (.long q0), .second, .val (.long zz1), .second, .val (.long zz2), .second, .val (.long zz3), .second, .val (.long zz4), .second, .val (.long qq), .second, .val (.ref ol), .val (.int rr), .val (.int ex)] [])) _
                    refine XS.iconst X134.here hx rfl (hb hby at_264) ?_
                    show Steps p.tables e below (T134.setTop (mkF m 265 #[.val (.int p0), .val (.long q0), .second, .val (.int pg), .val (.int ph), .val (.int po), .val (.int nn), .val (.long q0), .second, .val (.long zz1), .second, .val (.long zz2), .second, .val (.long zz3), .second, .val (.long zz4), .second, .val (.long qq), .second, .val (.ref ol), .val (.int rr), .val (.int ex)] [(.int (1 : Int32))])) _
                    refine XS.goto X134.here hx rfl (pc0 := 265) (pc' := 269) rfl (hb hby at_265) (by decide) (by decide) ?_
                    exact kt
                  obtain ⟨fs, hr, hrun, hended, hW, hsame⟩ := X134.leave (v := some (.int (1 : Int32))) (fun h => by rw [Bd.returns] at h; cases h)
                  refine ⟨_, _, pre139 _ ?_, hrun, hended, _, _, rfl, ?_, ⟨_, rfl⟩, hW, hsame.mono (by decide) (by decide)⟩
                  · show Steps p.tables e below (T134.setTop (mkF m 269 #[.val (.int p0), .val (.long q0), .second, .val (.int pg), .val (.int ph), .val (.int po), .val (.int nn), .val (.long q0), .second, .val (.long zz1), .second, .val (.long zz2), .second, .val (.long zz3), .second, .val (.long zz4), .second, .val (.long qq), .second, .val (.ref ol), .val (.int rr), .val (.int ex)] [(.int (1 : Int32))])) _
                    exact retN X134 hx (t := .boolean) Bd.returns (by simp) (hb hby at_269) hr
                  · show Q0 Z p0 q0 pg ph po h0 n0 _ T134.heap _
                    rw [hE134]
                    exact ⟨rfl, N134⟩
                · skip
                  exact absurd (own_law2 nn q0 zz1 zz2 zz3 zz4 qq fz h_fz rr sp ex h_ex (by have r := own_nn _ _ h_nn; have a0 := hc110_37; rw [Int32.lt_iff_toInt_lt] at a0; have a1 := hc125_49; rw [Int32.lt_iff_toInt_lt] at a1; have a2 := hc142_61; rw [Int32.lt_iff_toInt_lt] at a2; have l0 : (0 : Int32).toInt = 0 := rfl; have l1 : (1 : Int32).toInt = 1 := rfl; have l2 : (2 : Int32).toInt = 2 := rfl; have l3 : (3 : Int32).toInt = 3 := rfl; have l4 : (4 : Int32).toInt = 4 := rfl; omega)) hc261_138
            · skip
              obtain ⟨fz, h_fz⟩ : ∃ g : Nat → Int64, g = (owUp (fun _ => 0) 0 q0) := ⟨_, rfl⟩
              have Vz := p38_5
              rw [← h_fz] at Vz
              obtain ⟨cq140, kq140, q140a, q140b, q140c⟩ := isOf hZ rfl p38_0
              obtain ⟨_, _, ⟨T140, L140, k140, n140⟩, -, X140, ⟨Lc140, hQ140, l140, y140, z140⟩, st140⟩ := X38.virtualBack hx (y := (⟨"com/example/quorumvote/quorumvote/simulation/SimulatedLog", "placeAtOrBelow", "(J)I"⟩ : MethodName)) (z := (⟨"com/example/quorumvote/quorumvote/simulation/SimulatedLog", "placeAtOrBelow", "(J)I"⟩ : MethodName)) hown (mvT hZ (hw _ (List.mem_of_getElem? (i := 28) rfl))) (mvT hZ (hw _ (List.mem_of_getElem? (i := 29) rfl))) (notFace_of_selects (args := #[]) (mvT hZ (hw _ (List.mem_of_getElem? (i := 31) rfl)))) (mvT hZ (hw _ (List.mem_of_getElem? (i := 31) rfl))) (mvT hZ (hw _ (List.mem_of_getElem? (i := 30) rfl))) (by decide) (backOf (W := 0) (rm4 l Z a0 hw [] ol qq bz (1 : Int32) fz 1 T38.heap n0 Z47 p38_1 p38_4 Vz rfl (by decide) (own_so1 _ _ _ _ _ fz h_fz z1 z2 z3 z4)) hZ (hw _ (List.mem_of_getElem? (i := 32) rfl)) (hw _ (List.mem_of_getElem? (i := 5) rfl)) (by decide) (by decide)) q140a q140c (g := (mkF m 194 #[.val (.int p0), .val (.long q0), .second, .val (.int pg), .val (.int ph), .val (.int po), .val (.int nn), .val (.long q0), .second, .val (.long zz1), .second, .val (.long zz2), .second, .val (.long zz3), .second, .val (.long zz4), .second, .val (.long qq), .second, .val (.ref ol), .unset, .unset] [(.long qq), (.ref ol)])) rfl (by rw [hml]; rfl) (Steps.refl _) (argsL := [(.long qq)]) (rest := []) (lenOf pd_3 rfl) rfl (by show 2 * 0 + _ ≤ _; exact Nat.le_of_eq rfl) (hb hby at_194) (fun _ _ => ⟨rfl, rfl, (by decide : 4 + 0 ≤ _), (by decide : 57 + 0 ≤ _)⟩)
              dsimp only [Pt.U, Pt.locs, Pt.cells, Pt.slots] at X140 l140 y140 z140 st140 hQ140
              subst l140 y140 z140
              obtain ⟨rr, rfl, N140q, hE140, sp⟩ := hQ140
              have N140 := Fr.app N38 N140q
              obtain ⟨_, _, ⟨T141, L141, k141, n141⟩, -, X141, ⟨Lc141, hQ141, l141, y141, z141⟩, st141⟩ := Jvm.LawKit.callS X140 hx (y := (⟨"com/example/quorumvote/quorumvote/simulation/SimulatedLogPlaceAtOrBelowPinLaw", "at", "(IIJJ)I"⟩ : MethodName)) hown (mvT hZ (hw _ (List.mem_of_getElem? (i := 33) rfl))) (mvT hZ (hw _ (List.mem_of_getElem? (i := 34) rfl))) (mvT hZ (hw _ (List.mem_of_getElem? (i := 35) rfl))) (mvT hZ (hw _ (List.mem_of_getElem? (i := 36) rfl))) (by decide) (backOf (W := 0) (rm5 l Z a0 hw [] nn (0 : Int32) q0 qq T38.heap n0 Z47) hZ (hw _ (List.mem_of_getElem? (i := 36) rfl)) (hw _ (List.mem_of_getElem? (i := 35) rfl)) (by decide) (by decide)) (g := (mkF m 206 #[.val (.int p0), .val (.long q0), .second, .val (.int pg), .val (.int ph), .val (.int po), .val (.int nn), .val (.long q0), .second, .val (.long zz1), .second, .val (.long zz2), .second, .val (.long zz3), .second, .val (.long zz4), .second, .val (.long qq), .second, .val (.ref ol), .val (.int rr), .unset] [(.long qq), (.long q0), (.int (0 : Int32)), (.int nn)])) rfl (by rw [hml]; rfl) (argsL := [(.int nn), (.int (0 : Int32)), (.long q0), (.long qq)]) (rest := []) (lenOf pd_4 rfl) rfl (by show 2 * 0 + _ ≤ _; exact Nat.le_of_eq rfl) (hb hby at_206) (fun _ _ => ⟨rfl, hE140, (by decide : 4 + 0 ≤ _), (by decide : 57 + 0 ≤ _)⟩)
              dsimp only [Pt.U, Pt.locs, Pt.cells, Pt.slots] at X141 l141 y141 z141 st141 hQ141
              subst l141 y141 z141
              obtain ⟨rfl, N141q, hE141⟩ := hQ141
              have N141 := Fr.app N140 N141q
              obtain ⟨_, _, ⟨T142, L142, k142, n142⟩, -, X142, ⟨Lc142, hQ142, l142, y142, z142⟩, st142⟩ := Jvm.LawKit.callS X141 hx (y := (⟨"com/example/quorumvote/quorumvote/simulation/SimulatedLogPlaceAtOrBelowPinLaw", "at", "(IIJJ)I"⟩ : MethodName)) hown (mvT hZ (hw _ (List.mem_of_getElem? (i := 33) rfl))) (mvT hZ (hw _ (List.mem_of_getElem? (i := 34) rfl))) (mvT hZ (hw _ (List.mem_of_getElem? (i := 35) rfl))) (mvT hZ (hw _ (List.mem_of_getElem? (i := 36) rfl))) (by decide) (backOf (W := 1) (rm5 l Z a0 hw [] nn (1 : Int32) zz1 qq T38.heap n0 Z47) hZ (hw _ (List.mem_of_getElem? (i := 36) rfl)) (hw _ (List.mem_of_getElem? (i := 35) rfl)) (by decide) (by decide)) (g := (mkF m 216 #[.val (.int p0), .val (.long q0), .second, .val (.int pg), .val (.int ph), .val (.int po), .val (.int nn), .val (.long q0), .second, .val (.long zz1), .second, .val (.long zz2), .second, .val (.long zz3), .second, .val (.long zz4), .second, .val (.long qq), .second, .val (.ref ol), .val (.int rr), .unset] [(.long qq), (.long zz1), (.int (1 : Int32)), (.int nn), (.int (fn5 nn (0 : Int32) q0 qq))])) rfl (by rw [hml]; rfl) (argsL := [(.int nn), (.int (1 : Int32)), (.long zz1), (.long qq)]) (rest := [(.int (fn5 nn (0 : Int32) q0 qq))]) (lenOf pd_4 rfl) rfl (by show 2 * 0 + _ ≤ _; exact Nat.le_of_eq rfl) (hb hby at_216) (fun _ _ => ⟨rfl, hE141, (by decide : 4 + 0 ≤ _), (by decide : 57 + 0 ≤ _)⟩)
              dsimp only [Pt.U, Pt.locs, Pt.cells, Pt.slots] at X142 l142 y142 z142 st142 hQ142
              subst l142 y142 z142
              obtain ⟨rfl, N142q, hE142⟩ := hQ142
              have N142 := Fr.app N141 N142q
              obtain ⟨_, _, ⟨T143, L143, k143, n143⟩, -, X143, ⟨Lc143, hQ143, l143, y143, z143⟩, st143⟩ := Jvm.LawKit.callS X142 hx (y := (⟨"com/example/quorumvote/quorumvote/simulation/SimulatedLogPlaceAtOrBelowPinLaw", "at", "(IIJJ)I"⟩ : MethodName)) hown (mvT hZ (hw _ (List.mem_of_getElem? (i := 33) rfl))) (mvT hZ (hw _ (List.mem_of_getElem? (i := 34) rfl))) (mvT hZ (hw _ (List.mem_of_getElem? (i := 35) rfl))) (mvT hZ (hw _ (List.mem_of_getElem? (i := 36) rfl))) (by decide) (backOf (W := 1) (rm5 l Z a0 hw [] nn (2 : Int32) zz2 qq T38.heap n0 Z47) hZ (hw _ (List.mem_of_getElem? (i := 36) rfl)) (hw _ (List.mem_of_getElem? (i := 35) rfl)) (by decide) (by decide)) (g := (mkF m 227 #[.val (.int p0), .val (.long q0), .second, .val (.int pg), .val (.int ph), .val (.int po), .val (.int nn), .val (.long q0), .second, .val (.long zz1), .second, .val (.long zz2), .second, .val (.long zz3), .second, .val (.long zz4), .second, .val (.long qq), .second, .val (.ref ol), .val (.int rr), .unset] [(.long qq), (.long zz2), (.int (2 : Int32)), (.int nn), (.int ((fn5 nn (0 : Int32) q0 qq) + (fn5 nn (1 : Int32) zz1 qq)))])) rfl (by rw [hml]; rfl) (argsL := [(.int nn), (.int (2 : Int32)), (.long zz2), (.long qq)]) (rest := [(.int ((fn5 nn (0 : Int32) q0 qq) + (fn5 nn (1 : Int32) zz1 qq)))]) (lenOf pd_4 rfl) rfl (by show 2 * 0 + _ ≤ _; exact Nat.le_of_eq rfl) (hb hby at_227) (fun _ _ => ⟨rfl, hE142, (by decide : 4 + 0 ≤ _), (by decide : 57 + 0 ≤ _)⟩)
              dsimp only [Pt.U, Pt.locs, Pt.cells, Pt.slots] at X143 l143 y143 z143 st143 hQ143
              subst l143 y143 z143
              obtain ⟨rfl, N143q, hE143⟩ := hQ143
              have N143 := Fr.app N142 N143q
              obtain ⟨_, _, ⟨T144, L144, k144, n144⟩, -, X144, ⟨Lc144, hQ144, l144, y144, z144⟩, st144⟩ := Jvm.LawKit.callS X143 hx (y := (⟨"com/example/quorumvote/quorumvote/simulation/SimulatedLogPlaceAtOrBelowPinLaw", "at", "(IIJJ)I"⟩ : MethodName)) hown (mvT hZ (hw _ (List.mem_of_getElem? (i := 33) rfl))) (mvT hZ (hw _ (List.mem_of_getElem? (i := 34) rfl))) (mvT hZ (hw _ (List.mem_of_getElem? (i := 35) rfl))) (mvT hZ (hw _ (List.mem_of_getElem? (i := 36) rfl))) (by decide) (backOf (W := 1) (rm5 l Z a0 hw [] nn (3 : Int32) zz3 qq T38.heap n0 Z47) hZ (hw _ (List.mem_of_getElem? (i := 36) rfl)) (hw _ (List.mem_of_getElem? (i := 35) rfl)) (by decide) (by decide)) (g := (mkF m 238 #[.val (.int p0), .val (.long q0), .second, .val (.int pg), .val (.int ph), .val (.int po), .val (.int nn), .val (.long q0), .second, .val (.long zz1), .second, .val (.long zz2), .second, .val (.long zz3), .second, .val (.long zz4), .second, .val (.long qq), .second, .val (.ref ol), .val (.int rr), .unset] [(.long qq), (.long zz3), (.int (3 : Int32)), (.int nn), (.int (((fn5 nn (0 : Int32) q0 qq) + (fn5 nn (1 : Int32) zz1 qq)) + (fn5 nn (2 : Int32) zz2 qq)))])) rfl (by rw [hml]; rfl) (argsL := [(.int nn), (.int (3 : Int32)), (.long zz3), (.long qq)]) (rest := [(.int (((fn5 nn (0 : Int32) q0 qq) + (fn5 nn (1 : Int32) zz1 qq)) + (fn5 nn (2 : Int32) zz2 qq)))]) (lenOf pd_4 rfl) rfl (by show 2 * 0 + _ ≤ _; exact Nat.le_of_eq rfl) (hb hby at_238) (fun _ _ => ⟨rfl, hE143, (by decide : 4 + 0 ≤ _), (by decide : 57 + 0 ≤ _)⟩)
              dsimp only [Pt.U, Pt.locs, Pt.cells, Pt.slots] at X144 l144 y144 z144 st144 hQ144
              subst l144 y144 z144
              obtain ⟨rfl, N144q, hE144⟩ := hQ144
              have N144 := Fr.app N143 N144q
              obtain ⟨_, _, ⟨T145, L145, k145, n145⟩, -, X145, ⟨Lc145, hQ145, l145, y145, z145⟩, st145⟩ := Jvm.LawKit.callS X144 hx (y := (⟨"com/example/quorumvote/quorumvote/simulation/SimulatedLogPlaceAtOrBelowPinLaw", "at", "(IIJJ)I"⟩ : MethodName)) hown (mvT hZ (hw _ (List.mem_of_getElem? (i := 33) rfl))) (mvT hZ (hw _ (List.mem_of_getElem? (i := 34) rfl))) (mvT hZ (hw _ (List.mem_of_getElem? (i := 35) rfl))) (mvT hZ (hw _ (List.mem_of_getElem? (i := 36) rfl))) (by decide) (backOf (W := 1) (rm5 l Z a0 hw [] nn (4 : Int32) zz4 qq T38.heap n0 Z47) hZ (hw _ (List.mem_of_getElem? (i := 36) rfl)) (hw _ (List.mem_of_getElem? (i := 35) rfl)) (by decide) (by decide)) (g := (mkF m 249 #[.val (.int p0), .val (.long q0), .second, .val (.int pg), .val (.int ph), .val (.int po), .val (.int nn), .val (.long q0), .second, .val (.long zz1), .second, .val (.long zz2), .second, .val (.long zz3), .second, .val (.long zz4), .second, .val (.long qq), .second, .val (.ref ol), .val (.int rr), .unset] [(.long qq), (.long zz4), (.int (4 : Int32)), (.int nn), (.int ((((fn5 nn (0 : Int32) q0 qq) + (fn5 nn (1 : Int32) zz1 qq)) + (fn5 nn (2 : Int32) zz2 qq)) + (fn5 nn (3 : Int32) zz3 qq)))])) rfl (by rw [hml]; rfl) (argsL := [(.int nn), (.int (4 : Int32)), (.long zz4), (.long qq)]) (rest := [(.int ((((fn5 nn (0 : Int32) q0 qq) + (fn5 nn (1 : Int32) zz1 qq)) + (fn5 nn (2 : Int32) zz2 qq)) + (fn5 nn (3 : Int32) zz3 qq)))]) (lenOf pd_4 rfl) rfl (by show 2 * 0 + _ ≤ _; exact Nat.le_of_eq rfl) (hb hby at_249) (fun _ _ => ⟨rfl, hE144, (by decide : 4 + 0 ≤ _), (by decide : 57 + 0 ≤ _)⟩)
              dsimp only [Pt.U, Pt.locs, Pt.cells, Pt.slots] at X145 l145 y145 z145 st145 hQ145
              subst l145 y145 z145
              obtain ⟨rfl, N145q, hE145⟩ := hQ145
              have N145 := Fr.app N144 N145q
              have pre146 : ∀ t, Steps p.tables e below (T145.setTop (mkF m 255 #[.val (.int p0), .val (.long q0), .second, .val (.int pg), .val (.int ph), .val (.int po), .val (.int nn), .val (.long q0), .second, .val (.long zz1), .second, .val (.long zz2), .second, .val (.long zz3), .second, .val (.long zz4), .second, .val (.long qq), .second, .val (.ref ol), .val (.int rr), .unset] [(.int ((((((fn5 nn (0 : Int32) q0 qq) + (fn5 nn (1 : Int32) zz1 qq)) + (fn5 nn (2 : Int32) zz2 qq)) + (fn5 nn (3 : Int32) zz3 qq)) + (fn5 nn (4 : Int32) zz4 qq)) - (1 : Int32)))])) t → Steps p.tables e below (s₁.setTop (entryFrame m #[(.int p0), (.long q0), (.int pg), (.int ph), (.int po)] maxLocals)) t := by
                intro t kt
                refine pre48 _ ?_
                show Steps p.tables e below (T38.setTop (mkF m 125 #[.val (.int p0), .val (.long q0), .second, .val (.int pg), .val (.int ph), .val (.int po), .val (.int nn), .val (.long q0), .second, .val (.long zz1), .second, .val (.long zz2), .second, .val (.long zz3), .second, .val (.long zz4), .second, .val (.long qq), .second, .val (.ref ol), .unset, .unset] [(.int (1 : Int32)), (.int nn)])) _
                refine XS.icmpYes X38.here hx rfl (pc0 := 125) (pc' := 139) rfl (hb hby at_125) rfl (XT.ii_le_t hc125_49) (by decide) (by decide) ?_
                show Steps p.tables e below (T38.setTop (mkF m 139 #[.val (.int p0), .val (.long q0), .second, .val (.int pg), .val (.int ph), .val (.int po), .val (.int nn), .val (.long q0), .second, .val (.long zz1), .second, .val (.long zz2), .second, .val (.long zz3), .second, .val (.long zz4), .second, .val (.long qq), .second, .val (.ref ol), .unset, .unset] [])) _
                refine XS.iload X38.here hx rfl (hb hby at_139) rfl ?_
                show Steps p.tables e below (T38.setTop (mkF m 141 #[.val (.int p0), .val (.long q0), .second, .val (.int pg), .val (.int ph), .val (.int po), .val (.int nn), .val (.long q0), .second, .val (.long zz1), .second, .val (.long zz2), .second, .val (.long zz3), .second, .val (.long zz4), .second, .val (.long qq), .second, .val (.ref ol), .unset, .unset] [(.int nn)])) _
                refine XS.iconst X38.here hx rfl (hb hby at_141) ?_
                show Steps p.tables e below (T38.setTop (mkF m 142 #[.val (.int p0), .val (.long q0), .second, .val (.int pg), .val (.int ph), .val (.int po), .val (.int nn), .val (.long q0), .second, .val (.long zz1), .second, .val (.long zz2), .second, .val (.long zz3), .second, .val (.long zz4), .second, .val (.long qq), .second, .val (.ref ol), .unset, .unset] [(.int (2 : Int32)), (.int nn)])) _
                refine XS.icmpYes X38.here hx rfl (pc0 := 142) (pc' := 156) rfl (hb hby at_142) rfl (XT.ii_le_t (by have q0 := hc110_37; have q1 := hc125_49; have l0 : (0 : Int32).toInt = 0 := rfl; have l1 : (1 : Int32).toInt = 1 := rfl; have l2 : (2 : Int32).toInt = 2 := rfl; simp only [Int32.lt_iff_toInt_lt, ← Int32.toInt_inj] at q0 q1 ⊢; omega)) (by decide) (by decide) ?_
                show Steps p.tables e below (T38.setTop (mkF m 156 #[.val (.int p0), .val (.long q0), .second, .val (.int pg), .val (.int ph), .val (.int po), .val (.int nn), .val (.long q0), .second, .val (.long zz1), .second, .val (.long zz2), .second, .val (.long zz3), .second, .val (.long zz4), .second, .val (.long qq), .second, .val (.ref ol), .unset, .unset] [])) _
                refine XS.iload X38.here hx rfl (hb hby at_156) rfl ?_
                show Steps p.tables e below (T38.setTop (mkF m 158 #[.val (.int p0), .val (.long q0), .second, .val (.int pg), .val (.int ph), .val (.int po), .val (.int nn), .val (.long q0), .second, .val (.long zz1), .second, .val (.long zz2), .second, .val (.long zz3), .second, .val (.long zz4), .second, .val (.long qq), .second, .val (.ref ol), .unset, .unset] [(.int nn)])) _
                refine XS.iconst X38.here hx rfl (hb hby at_158) ?_
                show Steps p.tables e below (T38.setTop (mkF m 159 #[.val (.int p0), .val (.long q0), .second, .val (.int pg), .val (.int ph), .val (.int po), .val (.int nn), .val (.long q0), .second, .val (.long zz1), .second, .val (.long zz2), .second, .val (.long zz3), .second, .val (.long zz4), .second, .val (.long qq), .second, .val (.ref ol), .unset, .unset] [(.int (3 : Int32)), (.int nn)])) _
                refine XS.icmpYes X38.here hx rfl (pc0 := 159) (pc' := 173) rfl (hb hby at_159) rfl (XT.ii_le_t (by have q0 := hc110_37; have q1 := hc125_49; have l0 : (0 : Int32).toInt = 0 := rfl; have l1 : (1 : Int32).toInt = 1 := rfl; have l2 : (3 : Int32).toInt = 3 := rfl; simp only [Int32.lt_iff_toInt_lt, ← Int32.toInt_inj] at q0 q1 ⊢; omega)) (by decide) (by decide) ?_
                show Steps p.tables e below (T38.setTop (mkF m 173 #[.val (.int p0), .val (.long q0), .second, .val (.int pg), .val (.int ph), .val (.int po), .val (.int nn), .val (.long q0), .second, .val (.long zz1), .second, .val (.long zz2), .second, .val (.long zz3), .second, .val (.long zz4), .second, .val (.long qq), .second, .val (.ref ol), .unset, .unset] [])) _
                refine XS.iload X38.here hx rfl (hb hby at_173) rfl ?_
                show Steps p.tables e below (T38.setTop (mkF m 175 #[.val (.int p0), .val (.long q0), .second, .val (.int pg), .val (.int ph), .val (.int po), .val (.int nn), .val (.long q0), .second, .val (.long zz1), .second, .val (.long zz2), .second, .val (.long zz3), .second, .val (.long zz4), .second, .val (.long qq), .second, .val (.ref ol), .unset, .unset] [(.int nn)])) _
                refine XS.iconst X38.here hx rfl (hb hby at_175) ?_
                show Steps p.tables e below (T38.setTop (mkF m 176 #[.val (.int p0), .val (.long q0), .second, .val (.int pg), .val (.int ph), .val (.int po), .val (.int nn), .val (.long q0), .second, .val (.long zz1), .second, .val (.long zz2), .second, .val (.long zz3), .second, .val (.long zz4), .second, .val (.long qq), .second, .val (.ref ol), .unset, .unset] [(.int (4 : Int32)), (.int nn)])) _
                refine XS.icmpYes X38.here hx rfl (pc0 := 176) (pc' := 190) rfl (hb hby at_176) rfl (XT.ii_le_t (by have q0 := hc110_37; have q1 := hc125_49; have l0 : (0 : Int32).toInt = 0 := rfl; have l1 : (1 : Int32).toInt = 1 := rfl; have l2 : (4 : Int32).toInt = 4 := rfl; simp only [Int32.lt_iff_toInt_lt, ← Int32.toInt_inj] at q0 q1 ⊢; omega)) (by decide) (by decide) ?_
                show Steps p.tables e below (T38.setTop (mkF m 190 #[.val (.int p0), .val (.long q0), .second, .val (.int pg), .val (.int ph), .val (.int po), .val (.int nn), .val (.long q0), .second, .val (.long zz1), .second, .val (.long zz2), .second, .val (.long zz3), .second, .val (.long zz4), .second, .val (.long qq), .second, .val (.ref ol), .unset, .unset] [])) _
                refine XS.aload X38.here hx rfl (hb hby at_190) rfl rfl ?_
                show Steps p.tables e below (T38.setTop (mkF m 192 #[.val (.int p0), .val (.long q0), .second, .val (.int pg), .val (.int ph), .val (.int po), .val (.int nn), .val (.long q0), .second, .val (.long zz1), .second, .val (.long zz2), .second, .val (.long zz3), .second, .val (.long zz4), .second, .val (.long qq), .second, .val (.ref ol), .unset, .unset] [(.ref ol)])) _
                refine XS.lload X38.here hx rfl (hb hby at_192) rfl ?_
                show Steps p.tables e below (T38.setTop (mkF m 194 #[.val (.int p0), .val (.long q0), .second, .val (.int pg), .val (.int ph), .val (.int po), .val (.int nn), .val (.long q0), .second, .val (.long zz1), .second, .val (.long zz2), .second, .val (.long zz3), .second, .val (.long zz4), .second, .val (.long qq), .second, .val (.ref ol), .unset, .unset] [(.long qq), (.ref ol)])) _
                refine st140.trans ?_
                show Steps p.tables e below (T140.setTop (mkF m 197 #[.val (.int p0), .val (.long q0), .second, .val (.int pg), .val (.int ph), .val (.int po), .val (.int nn), .val (.long q0), .second, .val (.long zz1), .second, .val (.long zz2), .second, .val (.long zz3), .second, .val (.long zz4), .second, .val (.long qq), .second, .val (.ref ol), .unset, .unset] [(.int rr)])) _
                refine XS.istore X140.here hx rfl (hb hby at_197) rfl (l' := #[.val (.int p0), .val (.long q0), .second, .val (.int pg), .val (.int ph), .val (.int po), .val (.int nn), .val (.long q0), .second, .val (.long zz1), .second, .val (.long zz2), .second, .val (.long zz3), .second, .val (.long zz4), .second, .val (.long qq), .second, .val (.ref ol), .val (.int rr), .unset]) rfl ?_
                show Steps p.tables e below (T140.setTop (mkF m 199 #[.val (.int p0), .val (.long q0), .second, .val (.int pg), .val (.int ph), .val (.int po), .val (.int nn), .val (.long q0), .second, .val (.long zz1), .second, .val (.long zz2), .second, .val (.long zz3), .second, .val (.long zz4), .second, .val (.long qq), .second, .val (.ref ol), .val (.int rr), .unset] [])) _
                refine XS.iload X140.here hx rfl (hb hby at_199) rfl ?_
                show Steps p.tables e below (T140.setTop (mkF m 201 #[.val (.int p0), .val (.long q0), .second, .val (.int pg), .val (.int ph), .val (.int po), .val (.int nn), .val (.long q0), .second, .val (.long zz1), .second, .val (.long zz2), .second, .val (.long zz3), .second, .val (.long zz4), .second, .val (.long qq), .second, .val (.ref ol), .val (.int rr), .unset] [(.int nn)])) _
                refine XS.iconst X140.here hx rfl (hb hby at_201) ?_
                show Steps p.tables e below (T140.setTop (mkF m 202 #[.val (.int p0), .val (.long q0), .second, .val (.int pg), .val (.int ph), .val (.int po), .val (.int nn), .val (.long q0), .second, .val (.long zz1), .second, .val (.long zz2), .second, .val (.long zz3), .second, .val (.long zz4), .second, .val (.long qq), .second, .val (.ref ol), .val (.int rr), .unset] [(.int (0 : Int32)), (.int nn)])) _
                refine XS.lload X140.here hx rfl (hb hby at_202) rfl ?_
                show Steps p.tables e below (T140.setTop (mkF m 204 #[.val (.int p0), .val (.long q0), .second, .val (.int pg), .val (.int ph), .val (.int po), .val (.int nn), .val (.long q0), .second, .val (.long zz1), .second, .val (.long zz2), .second, .val (.long zz3), .second, .val (.long zz4), .second, .val (.long qq), .second, .val (.ref ol), .val (.int rr), .unset] [(.long q0), (.int (0 : Int32)), (.int nn)])) _
                refine XS.lload X140.here hx rfl (hb hby at_204) rfl ?_
                show Steps p.tables e below (T140.setTop (mkF m 206 #[.val (.int p0), .val (.long q0), .second, .val (.int pg), .val (.int ph), .val (.int po), .val (.int nn), .val (.long q0), .second, .val (.long zz1), .second, .val (.long zz2), .second, .val (.long zz3), .second, .val (.long zz4), .second, .val (.long qq), .second, .val (.ref ol), .val (.int rr), .unset] [(.long qq), (.long q0), (.int (0 : Int32)), (.int nn)])) _
                refine st141 _ ?_
                show Steps p.tables e below (T141.setTop (mkF m 209 #[.val (.int p0), .val (.long q0), .second, .val (.int pg), .val (.int ph), .val (.int po), .val (.int nn), .val (.long q0), .second, .val (.long zz1), .second, .val (.long zz2), .second, .val (.long zz3), .second, .val (.long zz4), .second, .val (.long qq), .second, .val (.ref ol), .val (.int rr), .unset] [(.int (fn5 nn (0 : Int32) q0 qq))])) _
                refine XS.iload X141.here hx rfl (hb hby at_209) rfl ?_
                show Steps p.tables e below (T141.setTop (mkF m 211 #[.val (.int p0), .val (.long q0), .second, .val (.int pg), .val (.int ph), .val (.int po), .val (.int nn), .val (.long q0), .second, .val (.long zz1), .second, .val (.long zz2), .second, .val (.long zz3), .second, .val (.long zz4), .second, .val (.long qq), .second, .val (.ref ol), .val (.int rr), .unset] [(.int nn), (.int (fn5 nn (0 : Int32) q0 qq))])) _
                refine XS.iconst X141.here hx rfl (hb hby at_211) ?_
                show Steps p.tables e below (T141.setTop (mkF m 212 #[.val (.int p0), .val (.long q0), .second, .val (.int pg), .val (.int ph), .val (.int po), .val (.int nn), .val (.long q0), .second, .val (.long zz1), .second, .val (.long zz2), .second, .val (.long zz3), .second, .val (.long zz4), .second, .val (.long qq), .second, .val (.ref ol), .val (.int rr), .unset] [(.int (1 : Int32)), (.int nn), (.int (fn5 nn (0 : Int32) q0 qq))])) _
                refine XS.lload X141.here hx rfl (hb hby at_212) rfl ?_
                show Steps p.tables e below (T141.setTop (mkF m 214 #[.val (.int p0), .val (.long q0), .second, .val (.int pg), .val (.int ph), .val (.int po), .val (.int nn), .val (.long q0), .second, .val (.long zz1), .second, .val (.long zz2), .second, .val (.long zz3), .second, .val (.long zz4), .second, .val (.long qq), .second, .val (.ref ol), .val (.int rr), .unset] [(.long zz1), (.int (1 : Int32)), (.int nn), (.int (fn5 nn (0 : Int32) q0 qq))])) _
                refine XS.lload X141.here hx rfl (hb hby at_214) rfl ?_
                show Steps p.tables e below (T141.setTop (mkF m 216 #[.val (.int p0), .val (.long q0), .second, .val (.int pg), .val (.int ph), .val (.int po), .val (.int nn), .val (.long q0), .second, .val (.long zz1), .second, .val (.long zz2), .second, .val (.long zz3), .second, .val (.long zz4), .second, .val (.long qq), .second, .val (.ref ol), .val (.int rr), .unset] [(.long qq), (.long zz1), (.int (1 : Int32)), (.int nn), (.int (fn5 nn (0 : Int32) q0 qq))])) _
                refine st142 _ ?_
                show Steps p.tables e below (T142.setTop (mkF m 219 #[.val (.int p0), .val (.long q0), .second, .val (.int pg), .val (.int ph), .val (.int po), .val (.int nn), .val (.long q0), .second, .val (.long zz1), .second, .val (.long zz2), .second, .val (.long zz3), .second, .val (.long zz4), .second, .val (.long qq), .second, .val (.ref ol), .val (.int rr), .unset] [(.int (fn5 nn (1 : Int32) zz1 qq)), (.int (fn5 nn (0 : Int32) q0 qq))])) _
                refine XS.iadd X142.here hx rfl (hb hby at_219) rfl ?_
                show Steps p.tables e below (T142.setTop (mkF m 220 #[.val (.int p0), .val (.long q0), .second, .val (.int pg), .val (.int ph), .val (.int po), .val (.int nn), .val (.long q0), .second, .val (.long zz1), .second, .val (.long zz2), .second, .val (.long zz3), .second, .val (.long zz4), .second, .val (.long qq), .second, .val (.ref ol), .val (.int rr), .unset] [(.int ((fn5 nn (0 : Int32) q0 qq) + (fn5 nn (1 : Int32) zz1 qq)))])) _
                refine XS.iload X142.here hx rfl (hb hby at_220) rfl ?_
                show Steps p.tables e below (T142.setTop (mkF m 222 #[.val (.int p0), .val (.long q0), .second, .val (.int pg), .val (.int ph), .val (.int po), .val (.int nn), .val (.long q0), .second, .val (.long zz1), .second, .val (.long zz2), .second, .val (.long zz3), .second, .val (.long zz4), .second, .val (.long qq), .second, .val (.ref ol), .val (.int rr), .unset] [(.int nn), (.int ((fn5 nn (0 : Int32) q0 qq) + (fn5 nn (1 : Int32) zz1 qq)))])) _
                refine XS.iconst X142.here hx rfl (hb hby at_222) ?_
                show Steps p.tables e below (T142.setTop (mkF m 223 #[.val (.int p0), .val (.long q0), .second, .val (.int pg), .val (.int ph), .val (.int po), .val (.int nn), .val (.long q0), .second, .val (.long zz1), .second, .val (.long zz2), .second, .val (.long zz3), .second, .val (.long zz4), .second, .val (.long qq), .second, .val (.ref ol), .val (.int rr), .unset] [(.int (2 : Int32)), (.int nn), (.int ((fn5 nn (0 : Int32) q0 qq) + (fn5 nn (1 : Int32) zz1 qq)))])) _
                refine XS.lload X142.here hx rfl (hb hby at_223) rfl ?_
                show Steps p.tables e below (T142.setTop (mkF m 225 #[.val (.int p0), .val (.long q0), .second, .val (.int pg), .val (.int ph), .val (.int po), .val (.int nn), .val (.long q0), .second, .val (.long zz1), .second, .val (.long zz2), .second, .val (.long zz3), .second, .val (.long zz4), .second, .val (.long qq), .second, .val (.ref ol), .val (.int rr), .unset] [(.long zz2), (.int (2 : Int32)), (.int nn), (.int ((fn5 nn (0 : Int32) q0 qq) + (fn5 nn (1 : Int32) zz1 qq)))])) _
                refine XS.lload X142.here hx rfl (hb hby at_225) rfl ?_
                show Steps p.tables e below (T142.setTop (mkF m 227 #[.val (.int p0), .val (.long q0), .second, .val (.int pg), .val (.int ph), .val (.int po), .val (.int nn), .val (.long q0), .second, .val (.long zz1), .second, .val (.long zz2), .second, .val (.long zz3), .second, .val (.long zz4), .second, .val (.long qq), .second, .val (.ref ol), .val (.int rr), .unset] [(.long qq), (.long zz2), (.int (2 : Int32)), (.int nn), (.int ((fn5 nn (0 : Int32) q0 qq) + (fn5 nn (1 : Int32) zz1 qq)))])) _
                refine st143 _ ?_
                show Steps p.tables e below (T143.setTop (mkF m 230 #[.val (.int p0), .val (.long q0), .second, .val (.int pg), .val (.int ph), .val (.int po), .val (.int nn), .val (.long q0), .second, .val (.long zz1), .second, .val (.long zz2), .second, .val (.long zz3), .second, .val (.long zz4), .second, .val (.long qq), .second, .val (.ref ol), .val (.int rr), .unset] [(.int (fn5 nn (2 : Int32) zz2 qq)), (.int ((fn5 nn (0 : Int32) q0 qq) + (fn5 nn (1 : Int32) zz1 qq)))])) _
                refine XS.iadd X143.here hx rfl (hb hby at_230) rfl ?_
                show Steps p.tables e below (T143.setTop (mkF m 231 #[.val (.int p0), .val (.long q0), .second, .val (.int pg), .val (.int ph), .val (.int po), .val (.int nn), .val (.long q0), .second, .val (.long zz1), .second, .val (.long zz2), .second, .val (.long zz3), .second, .val (.long zz4), .second, .val (.long qq), .second, .val (.ref ol), .val (.int rr), .unset] [(.int (((fn5 nn (0 : Int32) q0 qq) + (fn5 nn (1 : Int32) zz1 qq)) + (fn5 nn (2 : Int32) zz2 qq)))])) _
                refine XS.iload X143.here hx rfl (hb hby at_231) rfl ?_
                show Steps p.tables e below (T143.setTop (mkF m 233 #[.val (.int p0), .val (.long q0), .second, .val (.int pg), .val (.int ph), .val (.int po), .val (.int nn), .val (.long q0), .second, .val (.long zz1), .second, .val (.long zz2), .second, .val (.long zz3), .second, .val (.long zz4), .second, .val (.long qq), .second, .val (.ref ol), .val (.int rr), .unset] [(.int nn), (.int (((fn5 nn (0 : Int32) q0 qq) + (fn5 nn (1 : Int32) zz1 qq)) + (fn5 nn (2 : Int32) zz2 qq)))])) _
                refine XS.iconst X143.here hx rfl (hb hby at_233) ?_
                show Steps p.tables e below (T143.setTop (mkF m 234 #[.val (.int p0), .val (.long q0), .second, .val (.int pg), .val (.int ph), .val (.int po), .val (.int nn), .val (.long q0), .second, .val (.long zz1), .second, .val (.long zz2), .second, .val (.long zz3), .second, .val (.long zz4), .second, .val (.long qq), .second, .val (.ref ol), .val (.int rr), .unset] [(.int (3 : Int32)), (.int nn), (.int (((fn5 nn (0 : Int32) q0 qq) + (fn5 nn (1 : Int32) zz1 qq)) + (fn5 nn (2 : Int32) zz2 qq)))])) _
                refine XS.lload X143.here hx rfl (hb hby at_234) rfl ?_
                show Steps p.tables e below (T143.setTop (mkF m 236 #[.val (.int p0), .val (.long q0), .second, .val (.int pg), .val (.int ph), .val (.int po), .val (.int nn), .val (.long q0), .second, .val (.long zz1), .second, .val (.long zz2), .second, .val (.long zz3), .second, .val (.long zz4), .second, .val (.long qq), .second, .val (.ref ol), .val (.int rr), .unset] [(.long zz3), (.int (3 : Int32)), (.int nn), (.int (((fn5 nn (0 : Int32) q0 qq) + (fn5 nn (1 : Int32) zz1 qq)) + (fn5 nn (2 : Int32) zz2 qq)))])) _
                refine XS.lload X143.here hx rfl (hb hby at_236) rfl ?_
                show Steps p.tables e below (T143.setTop (mkF m 238 #[.val (.int p0), .val (.long q0), .second, .val (.int pg), .val (.int ph), .val (.int po), .val (.int nn), .val (.long q0), .second, .val (.long zz1), .second, .val (.long zz2), .second, .val (.long zz3), .second, .val (.long zz4), .second, .val (.long qq), .second, .val (.ref ol), .val (.int rr), .unset] [(.long qq), (.long zz3), (.int (3 : Int32)), (.int nn), (.int (((fn5 nn (0 : Int32) q0 qq) + (fn5 nn (1 : Int32) zz1 qq)) + (fn5 nn (2 : Int32) zz2 qq)))])) _
                refine st144 _ ?_
                show Steps p.tables e below (T144.setTop (mkF m 241 #[.val (.int p0), .val (.long q0), .second, .val (.int pg), .val (.int ph), .val (.int po), .val (.int nn), .val (.long q0), .second, .val (.long zz1), .second, .val (.long zz2), .second, .val (.long zz3), .second, .val (.long zz4), .second, .val (.long qq), .second, .val (.ref ol), .val (.int rr), .unset] [(.int (fn5 nn (3 : Int32) zz3 qq)), (.int (((fn5 nn (0 : Int32) q0 qq) + (fn5 nn (1 : Int32) zz1 qq)) + (fn5 nn (2 : Int32) zz2 qq)))])) _
                refine XS.iadd X144.here hx rfl (hb hby at_241) rfl ?_
                show Steps p.tables e below (T144.setTop (mkF m 242 #[.val (.int p0), .val (.long q0), .second, .val (.int pg), .val (.int ph), .val (.int po), .val (.int nn), .val (.long q0), .second, .val (.long zz1), .second, .val (.long zz2), .second, .val (.long zz3), .second, .val (.long zz4), .second, .val (.long qq), .second, .val (.ref ol), .val (.int rr), .unset] [(.int ((((fn5 nn (0 : Int32) q0 qq) + (fn5 nn (1 : Int32) zz1 qq)) + (fn5 nn (2 : Int32) zz2 qq)) + (fn5 nn (3 : Int32) zz3 qq)))])) _
                refine XS.iload X144.here hx rfl (hb hby at_242) rfl ?_
                show Steps p.tables e below (T144.setTop (mkF m 244 #[.val (.int p0), .val (.long q0), .second, .val (.int pg), .val (.int ph), .val (.int po), .val (.int nn), .val (.long q0), .second, .val (.long zz1), .second, .val (.long zz2), .second, .val (.long zz3), .second, .val (.long zz4), .second, .val (.long qq), .second, .val (.ref ol), .val (.int rr), .unset] [(.int nn), (.int ((((fn5 nn (0 : Int32) q0 qq) + (fn5 nn (1 : Int32) zz1 qq)) + (fn5 nn (2 : Int32) zz2 qq)) + (fn5 nn (3 : Int32) zz3 qq)))])) _
                refine XS.iconst X144.here hx rfl (hb hby at_244) ?_
                show Steps p.tables e below (T144.setTop (mkF m 245 #[.val (.int p0), .val (.long q0), .second, .val (.int pg), .val (.int ph), .val (.int po), .val (.int nn), .val (.long q0), .second, .val (.long zz1), .second, .val (.long zz2), .second, .val (.long zz3), .second, .val (.long zz4), .second, .val (.long qq), .second, .val (.ref ol), .val (.int rr), .unset] [(.int (4 : Int32)), (.int nn), (.int ((((fn5 nn (0 : Int32) q0 qq) + (fn5 nn (1 : Int32) zz1 qq)) + (fn5 nn (2 : Int32) zz2 qq)) + (fn5 nn (3 : Int32) zz3 qq)))])) _
                refine XS.lload X144.here hx rfl (hb hby at_245) rfl ?_
                show Steps p.tables e below (T144.setTop (mkF m 247 #[.val (.int p0), .val (.long q0), .second, .val (.int pg), .val (.int ph), .val (.int po), .val (.int nn), .val (.long q0), .second, .val (.long zz1), .second, .val (.long zz2), .second, .val (.long zz3), .second, .val (.long zz4), .second, .val (.long qq), .second, .val (.ref ol), .val (.int rr), .unset] [(.long zz4), (.int (4 : Int32)), (.int nn), (.int ((((fn5 nn (0 : Int32) q0 qq) + (fn5 nn (1 : Int32) zz1 qq)) + (fn5 nn (2 : Int32) zz2 qq)) + (fn5 nn (3 : Int32) zz3 qq)))])) _
                refine XS.lload X144.here hx rfl (hb hby at_247) rfl ?_
                show Steps p.tables e below (T144.setTop (mkF m 249 #[.val (.int p0), .val (.long q0), .second, .val (.int pg), .val (.int ph), .val (.int po), .val (.int nn), .val (.long q0), .second, .val (.long zz1), .second, .val (.long zz2), .second, .val (.long zz3), .second, .val (.long zz4), .second, .val (.long qq), .second, .val (.ref ol), .val (.int rr), .unset] [(.long qq), (.long zz4), (.int (4 : Int32)), (.int nn), (.int ((((fn5 nn (0 : Int32) q0 qq) + (fn5 nn (1 : Int32) zz1 qq)) + (fn5 nn (2 : Int32) zz2 qq)) + (fn5 nn (3 : Int32) zz3 qq)))])) _
                refine st145 _ ?_
                show Steps p.tables e below (T145.setTop (mkF m 252 #[.val (.int p0), .val (.long q0), .second, .val (.int pg), .val (.int ph), .val (.int po), .val (.int nn), .val (.long q0), .second, .val (.long zz1), .second, .val (.long zz2), .second, .val (.long zz3), .second, .val (.long zz4), .second, .val (.long qq), .second, .val (.ref ol), .val (.int rr), .unset] [(.int (fn5 nn (4 : Int32) zz4 qq)), (.int ((((fn5 nn (0 : Int32) q0 qq) + (fn5 nn (1 : Int32) zz1 qq)) + (fn5 nn (2 : Int32) zz2 qq)) + (fn5 nn (3 : Int32) zz3 qq)))])) _
                refine XS.iadd X145.here hx rfl (hb hby at_252) rfl ?_
                show Steps p.tables e below (T145.setTop (mkF m 253 #[.val (.int p0), .val (.long q0), .second, .val (.int pg), .val (.int ph), .val (.int po), .val (.int nn), .val (.long q0), .second, .val (.long zz1), .second, .val (.long zz2), .second, .val (.long zz3), .second, .val (.long zz4), .second, .val (.long qq), .second, .val (.ref ol), .val (.int rr), .unset] [(.int (((((fn5 nn (0 : Int32) q0 qq) + (fn5 nn (1 : Int32) zz1 qq)) + (fn5 nn (2 : Int32) zz2 qq)) + (fn5 nn (3 : Int32) zz3 qq)) + (fn5 nn (4 : Int32) zz4 qq)))])) _
                refine XS.iconst X145.here hx rfl (hb hby at_253) ?_
                show Steps p.tables e below (T145.setTop (mkF m 254 #[.val (.int p0), .val (.long q0), .second, .val (.int pg), .val (.int ph), .val (.int po), .val (.int nn), .val (.long q0), .second, .val (.long zz1), .second, .val (.long zz2), .second, .val (.long zz3), .second, .val (.long zz4), .second, .val (.long qq), .second, .val (.ref ol), .val (.int rr), .unset] [(.int (1 : Int32)), (.int (((((fn5 nn (0 : Int32) q0 qq) + (fn5 nn (1 : Int32) zz1 qq)) + (fn5 nn (2 : Int32) zz2 qq)) + (fn5 nn (3 : Int32) zz3 qq)) + (fn5 nn (4 : Int32) zz4 qq)))])) _
                refine XS.isub X145.here hx rfl (hb hby at_254) rfl ?_
                exact kt
              obtain ⟨ex, h_ex⟩ : ∃ z : Int32, z = ((((((fn5 nn (0 : Int32) q0 qq) + (fn5 nn (1 : Int32) zz1 qq)) + (fn5 nn (2 : Int32) zz2 qq)) + (fn5 nn (3 : Int32) zz3 qq)) + (fn5 nn (4 : Int32) zz4 qq)) - (1 : Int32)) := ⟨_, rfl⟩
              have pre147 : ∀ t, Steps p.tables e below (T145.setTop (mkF m 255 #[.val (.int p0), .val (.long q0), .second, .val (.int pg), .val (.int ph), .val (.int po), .val (.int nn), .val (.long q0), .second, .val (.long zz1), .second, .val (.long zz2), .second, .val (.long zz3), .second, .val (.long zz4), .second, .val (.long qq), .second, .val (.ref ol), .val (.int rr), .unset] [(.int ex)])) t → Steps p.tables e below (s₁.setTop (entryFrame m #[(.int p0), (.long q0), (.int pg), (.int ph), (.int po)] maxLocals)) t := by
                intro t kt
                rw [h_ex] at kt
                exact pre146 _ kt
              have pre148 : ∀ t, Steps p.tables e below (T145.setTop (mkF m 261 #[.val (.int p0), .val (.long q0), .second, .val (.int pg), .val (.int ph), .val (.int po), .val (.int nn), .val (.long q0), .second, .val (.long zz1), .second, .val (.long zz2), .second, .val (.long zz3), .second, .val (.long zz4), .second, .val (.long qq), .second, .val (.ref ol), .val (.int rr), .val (.int ex)] [(.int ex), (.int rr)])) t → Steps p.tables e below (s₁.setTop (entryFrame m #[(.int p0), (.long q0), (.int pg), (.int ph), (.int po)] maxLocals)) t := by
                intro t kt
                refine pre147 _ ?_
                show Steps p.tables e below (T145.setTop (mkF m 255 #[.val (.int p0), .val (.long q0), .second, .val (.int pg), .val (.int ph), .val (.int po), .val (.int nn), .val (.long q0), .second, .val (.long zz1), .second, .val (.long zz2), .second, .val (.long zz3), .second, .val (.long zz4), .second, .val (.long qq), .second, .val (.ref ol), .val (.int rr), .unset] [(.int ex)])) _
                refine XS.istore X145.here hx rfl (hb hby at_255) rfl (l' := #[.val (.int p0), .val (.long q0), .second, .val (.int pg), .val (.int ph), .val (.int po), .val (.int nn), .val (.long q0), .second, .val (.long zz1), .second, .val (.long zz2), .second, .val (.long zz3), .second, .val (.long zz4), .second, .val (.long qq), .second, .val (.ref ol), .val (.int rr), .val (.int ex)]) rfl ?_
                show Steps p.tables e below (T145.setTop (mkF m 257 #[.val (.int p0), .val (.long q0), .second, .val (.int pg), .val (.int ph), .val (.int po), .val (.int nn), .val (.long q0), .second, .val (.long zz1), .second, .val (.long zz2), .second, .val (.long zz3), .second, .val (.long zz4), .second, .val (.long qq), .second, .val (.ref ol), .val (.int rr), .val (.int ex)] [])) _
                refine XS.iload X145.here hx rfl (hb hby at_257) rfl ?_
                show Steps p.tables e below (T145.setTop (mkF m 259 #[.val (.int p0), .val (.long q0), .second, .val (.int pg), .val (.int ph), .val (.int po), .val (.int nn), .val (.long q0), .second, .val (.long zz1), .second, .val (.long zz2), .second, .val (.long zz3), .second, .val (.long zz4), .second, .val (.long qq), .second, .val (.ref ol), .val (.int rr), .val (.int ex)] [(.int rr)])) _
                refine XS.iload X145.here hx rfl (hb hby at_259) rfl ?_
                exact kt
              by_cases hc261_149 : rr = ex
              · skip
                have pre150 : ∀ t, Steps p.tables e below (T145.setTop (mkF m 269 #[.val (.int p0), .val (.long q0), .second, .val (.int pg), .val (.int ph), .val (.int po), .val (.int nn), .val (.long q0), .second, .val (.long zz1), .second, .val (.long zz2), .second, .val (.long zz3), .second, .val (.long zz4), .second, .val (.long qq), .second, .val (.ref ol), .val (.int rr), .val (.int ex)] [(.int (1 : Int32))])) t → Steps p.tables e below (s₁.setTop (entryFrame m #[(.int p0), (.long q0), (.int pg), (.int ph), (.int po)] maxLocals)) t := by
                  intro t kt
                  refine pre148 _ ?_
                  show Steps p.tables e below (T145.setTop (mkF m 261 #[.val (.int p0), .val (.long q0), .second, .val (.int pg), .val (.int ph), .val (.int po), .val (.int nn), .val (.long q0), .second, .val (.long zz1), .second, .val (.long zz2), .second, .val (.long zz3), .second, .val (.long zz4), .second, .val (.long qq), .second, .val (.ref ol), .val (.int rr), .val (.int ex)] [(.int ex), (.int rr)])) _
                  refine XS.icmpNo X145.here hx rfl (hb hby at_261) rfl (XT.ii_ne_f hc261_149) ?_
                  show Steps p.tables e below (T145.setTop (mkF m 264 #[.val (.int p0), .val (.long q0), .second, .val (.int pg), .val (.int ph), .val (.int po), .val (.int nn), .val (.long q0), .second, .val (.long zz1), .second, .val (.long zz2), .second, .val (.long zz3), .second, .val (.long zz4), .second, .val (.long qq), .second, .val (.ref ol), .val (.int rr), .val (.int ex)] [])) _
                  refine XS.iconst X145.here hx rfl (hb hby at_264) ?_
                  show Steps p.tables e below (T145.setTop (mkF m 265 #[.val (.int p0), .val (.long q0), .second, .val (.int pg), .val (.int ph), .val (.int po), .val (.int nn), .val (.long q0), .second, .val (.long zz1), .second, .val (.long zz2), .second, .val (.long zz3), .second, .val (.long zz4), .second, .val (.long qq), .second, .val (.ref ol), .val (.int rr), .val (.int ex)] [(.int (1 : Int32))])) _
                  refine XS.goto X145.here hx rfl (pc0 := 265) (pc' := 269) rfl (hb hby at_265) (by decide) (by decide) ?_
                  exact kt
                obtain ⟨fs, hr, hrun, hended, hW, hsame⟩ := X145.leave (v := some (.int (1 : Int32))) (fun h => by rw [Bd.returns] at h; cases h)
                refine ⟨_, _, pre150 _ ?_, hrun, hended, _, _, rfl, ?_, ⟨_, rfl⟩, hW, hsame.mono (by decide) (by decide)⟩
                · show Steps p.tables e below (T145.setTop (mkF m 269 #[.val (.int p0), .val (.long q0), .second, .val (.int pg), .val (.int ph), .val (.int po), .val (.int nn), .val (.long q0), .second, .val (.long zz1), .second, .val (.long zz2), .second, .val (.long zz3), .second, .val (.long zz4), .second, .val (.long qq), .second, .val (.ref ol), .val (.int rr), .val (.int ex)] [(.int (1 : Int32))])) _
                  exact retN X145 hx (t := .boolean) Bd.returns (by simp) (hb hby at_269) hr
                · show Q0 Z p0 q0 pg ph po h0 n0 _ T145.heap _
                  rw [hE145]
                  exact ⟨rfl, N145⟩
              · skip
                exact absurd (own_law1 nn q0 zz1 zz2 zz3 zz4 qq fz h_fz rr sp ex h_ex (by have r := own_nn _ _ h_nn; have a0 := hc110_37; rw [Int32.lt_iff_toInt_lt] at a0; have a1 := hc125_49; rw [Int32.lt_iff_toInt_lt] at a1; have l0 : (0 : Int32).toInt = 0 := rfl; have l1 : (1 : Int32).toInt = 1 := rfl; have l2 : (2 : Int32).toInt = 2 := rfl; have l3 : (3 : Int32).toInt = 3 := rfl; have l4 : (4 : Int32).toInt = 4 := rfl; omega)) hc261_149
          · skip
            obtain ⟨fz, h_fz⟩ : ∃ g : Nat → Int64, g = (fun _ => 0) := ⟨_, rfl⟩
            have Vz := p27_Az
            rw [← h_fz] at Vz
            obtain ⟨cq151, kq151, q151a, q151b, q151c⟩ := isOf hZ rfl p27_E
            obtain ⟨_, _, ⟨T151, L151, k151, n151⟩, -, X151, ⟨Lc151, hQ151, l151, y151, z151⟩, st151⟩ := X27.virtualBack hx (y := (⟨"com/example/quorumvote/quorumvote/simulation/SimulatedLog", "placeAtOrBelow", "(J)I"⟩ : MethodName)) (z := (⟨"com/example/quorumvote/quorumvote/simulation/SimulatedLog", "placeAtOrBelow", "(J)I"⟩ : MethodName)) hown (mvT hZ (hw _ (List.mem_of_getElem? (i := 28) rfl))) (mvT hZ (hw _ (List.mem_of_getElem? (i := 29) rfl))) (notFace_of_selects (args := #[]) (mvT hZ (hw _ (List.mem_of_getElem? (i := 31) rfl)))) (mvT hZ (hw _ (List.mem_of_getElem? (i := 31) rfl))) (mvT hZ (hw _ (List.mem_of_getElem? (i := 30) rfl))) (by decide) (backOf (W := 0) (rm4 l Z a0 hw [] ol qq bz (0 : Int32) fz 0 T27.heap n0 Z35 p27_z p27_s Vz rfl (by decide) (own_so0 _ _ _ _ _ fz h_fz z1 z2 z3 z4)) hZ (hw _ (List.mem_of_getElem? (i := 32) rfl)) (hw _ (List.mem_of_getElem? (i := 5) rfl)) (by decide) (by decide)) q151a q151c (g := (mkF m 194 #[.val (.int p0), .val (.long q0), .second, .val (.int pg), .val (.int ph), .val (.int po), .val (.int nn), .val (.long q0), .second, .val (.long zz1), .second, .val (.long zz2), .second, .val (.long zz3), .second, .val (.long zz4), .second, .val (.long qq), .second, .val (.ref ol), .unset, .unset] [(.long qq), (.ref ol)])) rfl (by rw [hml]; rfl) (Steps.refl _) (argsL := [(.long qq)]) (rest := []) (lenOf pd_3 rfl) rfl (by show 2 * 0 + _ ≤ _; exact Nat.le_of_eq rfl) (hb hby at_194) (fun _ _ => ⟨rfl, rfl, (by decide : 4 + 0 ≤ _), (by decide : 57 + 0 ≤ _)⟩)
            dsimp only [Pt.U, Pt.locs, Pt.cells, Pt.slots] at X151 l151 y151 z151 st151 hQ151
            subst l151 y151 z151
            obtain ⟨rr, rfl, N151q, hE151, sp⟩ := hQ151
            have N151 := Fr.app N27 N151q
            obtain ⟨_, _, ⟨T152, L152, k152, n152⟩, -, X152, ⟨Lc152, hQ152, l152, y152, z152⟩, st152⟩ := Jvm.LawKit.callS X151 hx (y := (⟨"com/example/quorumvote/quorumvote/simulation/SimulatedLogPlaceAtOrBelowPinLaw", "at", "(IIJJ)I"⟩ : MethodName)) hown (mvT hZ (hw _ (List.mem_of_getElem? (i := 33) rfl))) (mvT hZ (hw _ (List.mem_of_getElem? (i := 34) rfl))) (mvT hZ (hw _ (List.mem_of_getElem? (i := 35) rfl))) (mvT hZ (hw _ (List.mem_of_getElem? (i := 36) rfl))) (by decide) (backOf (W := 0) (rm5 l Z a0 hw [] nn (0 : Int32) q0 qq T27.heap n0 Z35) hZ (hw _ (List.mem_of_getElem? (i := 36) rfl)) (hw _ (List.mem_of_getElem? (i := 35) rfl)) (by decide) (by decide)) (g := (mkF m 206 #[.val (.int p0), .val (.long q0), .second, .val (.int pg), .val (.int ph), .val (.int po), .val (.int nn), .val (.long q0), .second, .val (.long zz1), .second, .val (.long zz2), .second, .val (.long zz3), .second, .val (.long zz4), .second, .val (.long qq), .second, .val (.ref ol), .val (.int rr), .unset] [(.long qq), (.long q0), (.int (0 : Int32)), (.int nn)])) rfl (by rw [hml]; rfl) (argsL := [(.int nn), (.int (0 : Int32)), (.long q0), (.long qq)]) (rest := []) (lenOf pd_4 rfl) rfl (by show 2 * 0 + _ ≤ _; exact Nat.le_of_eq rfl) (hb hby at_206) (fun _ _ => ⟨rfl, hE151, (by decide : 4 + 0 ≤ _), (by decide : 57 + 0 ≤ _)⟩)
            dsimp only [Pt.U, Pt.locs, Pt.cells, Pt.slots] at X152 l152 y152 z152 st152 hQ152
            subst l152 y152 z152
            obtain ⟨rfl, N152q, hE152⟩ := hQ152
            have N152 := Fr.app N151 N152q
            obtain ⟨_, _, ⟨T153, L153, k153, n153⟩, -, X153, ⟨Lc153, hQ153, l153, y153, z153⟩, st153⟩ := Jvm.LawKit.callS X152 hx (y := (⟨"com/example/quorumvote/quorumvote/simulation/SimulatedLogPlaceAtOrBelowPinLaw", "at", "(IIJJ)I"⟩ : MethodName)) hown (mvT hZ (hw _ (List.mem_of_getElem? (i := 33) rfl))) (mvT hZ (hw _ (List.mem_of_getElem? (i := 34) rfl))) (mvT hZ (hw _ (List.mem_of_getElem? (i := 35) rfl))) (mvT hZ (hw _ (List.mem_of_getElem? (i := 36) rfl))) (by decide) (backOf (W := 1) (rm5 l Z a0 hw [] nn (1 : Int32) zz1 qq T27.heap n0 Z35) hZ (hw _ (List.mem_of_getElem? (i := 36) rfl)) (hw _ (List.mem_of_getElem? (i := 35) rfl)) (by decide) (by decide)) (g := (mkF m 216 #[.val (.int p0), .val (.long q0), .second, .val (.int pg), .val (.int ph), .val (.int po), .val (.int nn), .val (.long q0), .second, .val (.long zz1), .second, .val (.long zz2), .second, .val (.long zz3), .second, .val (.long zz4), .second, .val (.long qq), .second, .val (.ref ol), .val (.int rr), .unset] [(.long qq), (.long zz1), (.int (1 : Int32)), (.int nn), (.int (fn5 nn (0 : Int32) q0 qq))])) rfl (by rw [hml]; rfl) (argsL := [(.int nn), (.int (1 : Int32)), (.long zz1), (.long qq)]) (rest := [(.int (fn5 nn (0 : Int32) q0 qq))]) (lenOf pd_4 rfl) rfl (by show 2 * 0 + _ ≤ _; exact Nat.le_of_eq rfl) (hb hby at_216) (fun _ _ => ⟨rfl, hE152, (by decide : 4 + 0 ≤ _), (by decide : 57 + 0 ≤ _)⟩)
            dsimp only [Pt.U, Pt.locs, Pt.cells, Pt.slots] at X153 l153 y153 z153 st153 hQ153
            subst l153 y153 z153
            obtain ⟨rfl, N153q, hE153⟩ := hQ153
            have N153 := Fr.app N152 N153q
            obtain ⟨_, _, ⟨T154, L154, k154, n154⟩, -, X154, ⟨Lc154, hQ154, l154, y154, z154⟩, st154⟩ := Jvm.LawKit.callS X153 hx (y := (⟨"com/example/quorumvote/quorumvote/simulation/SimulatedLogPlaceAtOrBelowPinLaw", "at", "(IIJJ)I"⟩ : MethodName)) hown (mvT hZ (hw _ (List.mem_of_getElem? (i := 33) rfl))) (mvT hZ (hw _ (List.mem_of_getElem? (i := 34) rfl))) (mvT hZ (hw _ (List.mem_of_getElem? (i := 35) rfl))) (mvT hZ (hw _ (List.mem_of_getElem? (i := 36) rfl))) (by decide) (backOf (W := 1) (rm5 l Z a0 hw [] nn (2 : Int32) zz2 qq T27.heap n0 Z35) hZ (hw _ (List.mem_of_getElem? (i := 36) rfl)) (hw _ (List.mem_of_getElem? (i := 35) rfl)) (by decide) (by decide)) (g := (mkF m 227 #[.val (.int p0), .val (.long q0), .second, .val (.int pg), .val (.int ph), .val (.int po), .val (.int nn), .val (.long q0), .second, .val (.long zz1), .second, .val (.long zz2), .second, .val (.long zz3), .second, .val (.long zz4), .second, .val (.long qq), .second, .val (.ref ol), .val (.int rr), .unset] [(.long qq), (.long zz2), (.int (2 : Int32)), (.int nn), (.int ((fn5 nn (0 : Int32) q0 qq) + (fn5 nn (1 : Int32) zz1 qq)))])) rfl (by rw [hml]; rfl) (argsL := [(.int nn), (.int (2 : Int32)), (.long zz2), (.long qq)]) (rest := [(.int ((fn5 nn (0 : Int32) q0 qq) + (fn5 nn (1 : Int32) zz1 qq)))]) (lenOf pd_4 rfl) rfl (by show 2 * 0 + _ ≤ _; exact Nat.le_of_eq rfl) (hb hby at_227) (fun _ _ => ⟨rfl, hE153, (by decide : 4 + 0 ≤ _), (by decide : 57 + 0 ≤ _)⟩)
            dsimp only [Pt.U, Pt.locs, Pt.cells, Pt.slots] at X154 l154 y154 z154 st154 hQ154
            subst l154 y154 z154
            obtain ⟨rfl, N154q, hE154⟩ := hQ154
            have N154 := Fr.app N153 N154q
            obtain ⟨_, _, ⟨T155, L155, k155, n155⟩, -, X155, ⟨Lc155, hQ155, l155, y155, z155⟩, st155⟩ := Jvm.LawKit.callS X154 hx (y := (⟨"com/example/quorumvote/quorumvote/simulation/SimulatedLogPlaceAtOrBelowPinLaw", "at", "(IIJJ)I"⟩ : MethodName)) hown (mvT hZ (hw _ (List.mem_of_getElem? (i := 33) rfl))) (mvT hZ (hw _ (List.mem_of_getElem? (i := 34) rfl))) (mvT hZ (hw _ (List.mem_of_getElem? (i := 35) rfl))) (mvT hZ (hw _ (List.mem_of_getElem? (i := 36) rfl))) (by decide) (backOf (W := 1) (rm5 l Z a0 hw [] nn (3 : Int32) zz3 qq T27.heap n0 Z35) hZ (hw _ (List.mem_of_getElem? (i := 36) rfl)) (hw _ (List.mem_of_getElem? (i := 35) rfl)) (by decide) (by decide)) (g := (mkF m 238 #[.val (.int p0), .val (.long q0), .second, .val (.int pg), .val (.int ph), .val (.int po), .val (.int nn), .val (.long q0), .second, .val (.long zz1), .second, .val (.long zz2), .second, .val (.long zz3), .second, .val (.long zz4), .second, .val (.long qq), .second, .val (.ref ol), .val (.int rr), .unset] [(.long qq), (.long zz3), (.int (3 : Int32)), (.int nn), (.int (((fn5 nn (0 : Int32) q0 qq) + (fn5 nn (1 : Int32) zz1 qq)) + (fn5 nn (2 : Int32) zz2 qq)))])) rfl (by rw [hml]; rfl) (argsL := [(.int nn), (.int (3 : Int32)), (.long zz3), (.long qq)]) (rest := [(.int (((fn5 nn (0 : Int32) q0 qq) + (fn5 nn (1 : Int32) zz1 qq)) + (fn5 nn (2 : Int32) zz2 qq)))]) (lenOf pd_4 rfl) rfl (by show 2 * 0 + _ ≤ _; exact Nat.le_of_eq rfl) (hb hby at_238) (fun _ _ => ⟨rfl, hE154, (by decide : 4 + 0 ≤ _), (by decide : 57 + 0 ≤ _)⟩)
            dsimp only [Pt.U, Pt.locs, Pt.cells, Pt.slots] at X155 l155 y155 z155 st155 hQ155
            subst l155 y155 z155
            obtain ⟨rfl, N155q, hE155⟩ := hQ155
            have N155 := Fr.app N154 N155q
            obtain ⟨_, _, ⟨T156, L156, k156, n156⟩, -, X156, ⟨Lc156, hQ156, l156, y156, z156⟩, st156⟩ := Jvm.LawKit.callS X155 hx (y := (⟨"com/example/quorumvote/quorumvote/simulation/SimulatedLogPlaceAtOrBelowPinLaw", "at", "(IIJJ)I"⟩ : MethodName)) hown (mvT hZ (hw _ (List.mem_of_getElem? (i := 33) rfl))) (mvT hZ (hw _ (List.mem_of_getElem? (i := 34) rfl))) (mvT hZ (hw _ (List.mem_of_getElem? (i := 35) rfl))) (mvT hZ (hw _ (List.mem_of_getElem? (i := 36) rfl))) (by decide) (backOf (W := 1) (rm5 l Z a0 hw [] nn (4 : Int32) zz4 qq T27.heap n0 Z35) hZ (hw _ (List.mem_of_getElem? (i := 36) rfl)) (hw _ (List.mem_of_getElem? (i := 35) rfl)) (by decide) (by decide)) (g := (mkF m 249 #[.val (.int p0), .val (.long q0), .second, .val (.int pg), .val (.int ph), .val (.int po), .val (.int nn), .val (.long q0), .second, .val (.long zz1), .second, .val (.long zz2), .second, .val (.long zz3), .second, .val (.long zz4), .second, .val (.long qq), .second, .val (.ref ol), .val (.int rr), .unset] [(.long qq), (.long zz4), (.int (4 : Int32)), (.int nn), (.int ((((fn5 nn (0 : Int32) q0 qq) + (fn5 nn (1 : Int32) zz1 qq)) + (fn5 nn (2 : Int32) zz2 qq)) + (fn5 nn (3 : Int32) zz3 qq)))])) rfl (by rw [hml]; rfl) (argsL := [(.int nn), (.int (4 : Int32)), (.long zz4), (.long qq)]) (rest := [(.int ((((fn5 nn (0 : Int32) q0 qq) + (fn5 nn (1 : Int32) zz1 qq)) + (fn5 nn (2 : Int32) zz2 qq)) + (fn5 nn (3 : Int32) zz3 qq)))]) (lenOf pd_4 rfl) rfl (by show 2 * 0 + _ ≤ _; exact Nat.le_of_eq rfl) (hb hby at_249) (fun _ _ => ⟨rfl, hE155, (by decide : 4 + 0 ≤ _), (by decide : 57 + 0 ≤ _)⟩)
            dsimp only [Pt.U, Pt.locs, Pt.cells, Pt.slots] at X156 l156 y156 z156 st156 hQ156
            subst l156 y156 z156
            obtain ⟨rfl, N156q, hE156⟩ := hQ156
            have N156 := Fr.app N155 N156q
            have pre157 : ∀ t, Steps p.tables e below (T156.setTop (mkF m 255 #[.val (.int p0), .val (.long q0), .second, .val (.int pg), .val (.int ph), .val (.int po), .val (.int nn), .val (.long q0), .second, .val (.long zz1), .second, .val (.long zz2), .second, .val (.long zz3), .second, .val (.long zz4), .second, .val (.long qq), .second, .val (.ref ol), .val (.int rr), .unset] [(.int ((((((fn5 nn (0 : Int32) q0 qq) + (fn5 nn (1 : Int32) zz1 qq)) + (fn5 nn (2 : Int32) zz2 qq)) + (fn5 nn (3 : Int32) zz3 qq)) + (fn5 nn (4 : Int32) zz4 qq)) - (1 : Int32)))])) t → Steps p.tables e below (s₁.setTop (entryFrame m #[(.int p0), (.long q0), (.int pg), (.int ph), (.int po)] maxLocals)) t := by
              intro t kt
              refine pre36 _ ?_
              show Steps p.tables e below (T27.setTop (mkF m 110 #[.val (.int p0), .val (.long q0), .second, .val (.int pg), .val (.int ph), .val (.int po), .val (.int nn), .val (.long q0), .second, .val (.long zz1), .second, .val (.long zz2), .second, .val (.long zz3), .second, .val (.long zz4), .second, .val (.long qq), .second, .val (.ref ol), .unset, .unset] [(.int nn)])) _
              refine XS.ifYes X27.here hx rfl (pc0 := 110) (pc' := 122) rfl (hb hby at_110) rfl (XT.i0_le_t hc110_37) (by decide) (by decide) ?_
              show Steps p.tables e below (T27.setTop (mkF m 122 #[.val (.int p0), .val (.long q0), .second, .val (.int pg), .val (.int ph), .val (.int po), .val (.int nn), .val (.long q0), .second, .val (.long zz1), .second, .val (.long zz2), .second, .val (.long zz3), .second, .val (.long zz4), .second, .val (.long qq), .second, .val (.ref ol), .unset, .unset] [])) _
              refine XS.iload X27.here hx rfl (hb hby at_122) rfl ?_
              show Steps p.tables e below (T27.setTop (mkF m 124 #[.val (.int p0), .val (.long q0), .second, .val (.int pg), .val (.int ph), .val (.int po), .val (.int nn), .val (.long q0), .second, .val (.long zz1), .second, .val (.long zz2), .second, .val (.long zz3), .second, .val (.long zz4), .second, .val (.long qq), .second, .val (.ref ol), .unset, .unset] [(.int nn)])) _
              refine XS.iconst X27.here hx rfl (hb hby at_124) ?_
              show Steps p.tables e below (T27.setTop (mkF m 125 #[.val (.int p0), .val (.long q0), .second, .val (.int pg), .val (.int ph), .val (.int po), .val (.int nn), .val (.long q0), .second, .val (.long zz1), .second, .val (.long zz2), .second, .val (.long zz3), .second, .val (.long zz4), .second, .val (.long qq), .second, .val (.ref ol), .unset, .unset] [(.int (1 : Int32)), (.int nn)])) _
              refine XS.icmpYes X27.here hx rfl (pc0 := 125) (pc' := 139) rfl (hb hby at_125) rfl (XT.ii_le_t (by have q0 := hc110_37; have l0 : (0 : Int32).toInt = 0 := rfl; have l1 : (1 : Int32).toInt = 1 := rfl; simp only [Int32.lt_iff_toInt_lt, ← Int32.toInt_inj] at q0 ⊢; omega)) (by decide) (by decide) ?_
              show Steps p.tables e below (T27.setTop (mkF m 139 #[.val (.int p0), .val (.long q0), .second, .val (.int pg), .val (.int ph), .val (.int po), .val (.int nn), .val (.long q0), .second, .val (.long zz1), .second, .val (.long zz2), .second, .val (.long zz3), .second, .val (.long zz4), .second, .val (.long qq), .second, .val (.ref ol), .unset, .unset] [])) _
              refine XS.iload X27.here hx rfl (hb hby at_139) rfl ?_
              show Steps p.tables e below (T27.setTop (mkF m 141 #[.val (.int p0), .val (.long q0), .second, .val (.int pg), .val (.int ph), .val (.int po), .val (.int nn), .val (.long q0), .second, .val (.long zz1), .second, .val (.long zz2), .second, .val (.long zz3), .second, .val (.long zz4), .second, .val (.long qq), .second, .val (.ref ol), .unset, .unset] [(.int nn)])) _
              refine XS.iconst X27.here hx rfl (hb hby at_141) ?_
              show Steps p.tables e below (T27.setTop (mkF m 142 #[.val (.int p0), .val (.long q0), .second, .val (.int pg), .val (.int ph), .val (.int po), .val (.int nn), .val (.long q0), .second, .val (.long zz1), .second, .val (.long zz2), .second, .val (.long zz3), .second, .val (.long zz4), .second, .val (.long qq), .second, .val (.ref ol), .unset, .unset] [(.int (2 : Int32)), (.int nn)])) _
              refine XS.icmpYes X27.here hx rfl (pc0 := 142) (pc' := 156) rfl (hb hby at_142) rfl (XT.ii_le_t (by have q0 := hc110_37; have l0 : (0 : Int32).toInt = 0 := rfl; have l1 : (2 : Int32).toInt = 2 := rfl; simp only [Int32.lt_iff_toInt_lt, ← Int32.toInt_inj] at q0 ⊢; omega)) (by decide) (by decide) ?_
              show Steps p.tables e below (T27.setTop (mkF m 156 #[.val (.int p0), .val (.long q0), .second, .val (.int pg), .val (.int ph), .val (.int po), .val (.int nn), .val (.long q0), .second, .val (.long zz1), .second, .val (.long zz2), .second, .val (.long zz3), .second, .val (.long zz4), .second, .val (.long qq), .second, .val (.ref ol), .unset, .unset] [])) _
              refine XS.iload X27.here hx rfl (hb hby at_156) rfl ?_
              show Steps p.tables e below (T27.setTop (mkF m 158 #[.val (.int p0), .val (.long q0), .second, .val (.int pg), .val (.int ph), .val (.int po), .val (.int nn), .val (.long q0), .second, .val (.long zz1), .second, .val (.long zz2), .second, .val (.long zz3), .second, .val (.long zz4), .second, .val (.long qq), .second, .val (.ref ol), .unset, .unset] [(.int nn)])) _
              refine XS.iconst X27.here hx rfl (hb hby at_158) ?_
              show Steps p.tables e below (T27.setTop (mkF m 159 #[.val (.int p0), .val (.long q0), .second, .val (.int pg), .val (.int ph), .val (.int po), .val (.int nn), .val (.long q0), .second, .val (.long zz1), .second, .val (.long zz2), .second, .val (.long zz3), .second, .val (.long zz4), .second, .val (.long qq), .second, .val (.ref ol), .unset, .unset] [(.int (3 : Int32)), (.int nn)])) _
              refine XS.icmpYes X27.here hx rfl (pc0 := 159) (pc' := 173) rfl (hb hby at_159) rfl (XT.ii_le_t (by have q0 := hc110_37; have l0 : (0 : Int32).toInt = 0 := rfl; have l1 : (3 : Int32).toInt = 3 := rfl; simp only [Int32.lt_iff_toInt_lt, ← Int32.toInt_inj] at q0 ⊢; omega)) (by decide) (by decide) ?_
              show Steps p.tables e below (T27.setTop (mkF m 173 #[.val (.int p0), .val (.long q0), .second, .val (.int pg), .val (.int ph), .val (.int po), .val (.int nn), .val (.long q0), .second, .val (.long zz1), .second, .val (.long zz2), .second, .val (.long zz3), .second, .val (.long zz4), .second, .val (.long qq), .second, .val (.ref ol), .unset, .unset] [])) _
              refine XS.iload X27.here hx rfl (hb hby at_173) rfl ?_
              show Steps p.tables e below (T27.setTop (mkF m 175 #[.val (.int p0), .val (.long q0), .second, .val (.int pg), .val (.int ph), .val (.int po), .val (.int nn), .val (.long q0), .second, .val (.long zz1), .second, .val (.long zz2), .second, .val (.long zz3), .second, .val (.long zz4), .second, .val (.long qq), .second, .val (.ref ol), .unset, .unset] [(.int nn)])) _
              refine XS.iconst X27.here hx rfl (hb hby at_175) ?_
              show Steps p.tables e below (T27.setTop (mkF m 176 #[.val (.int p0), .val (.long q0), .second, .val (.int pg), .val (.int ph), .val (.int po), .val (.int nn), .val (.long q0), .second, .val (.long zz1), .second, .val (.long zz2), .second, .val (.long zz3), .second, .val (.long zz4), .second, .val (.long qq), .second, .val (.ref ol), .unset, .unset] [(.int (4 : Int32)), (.int nn)])) _
              refine XS.icmpYes X27.here hx rfl (pc0 := 176) (pc' := 190) rfl (hb hby at_176) rfl (XT.ii_le_t (by have q0 := hc110_37; have l0 : (0 : Int32).toInt = 0 := rfl; have l1 : (4 : Int32).toInt = 4 := rfl; simp only [Int32.lt_iff_toInt_lt, ← Int32.toInt_inj] at q0 ⊢; omega)) (by decide) (by decide) ?_
              show Steps p.tables e below (T27.setTop (mkF m 190 #[.val (.int p0), .val (.long q0), .second, .val (.int pg), .val (.int ph), .val (.int po), .val (.int nn), .val (.long q0), .second, .val (.long zz1), .second, .val (.long zz2), .second, .val (.long zz3), .second, .val (.long zz4), .second, .val (.long qq), .second, .val (.ref ol), .unset, .unset] [])) _
              refine XS.aload X27.here hx rfl (hb hby at_190) rfl rfl ?_
              show Steps p.tables e below (T27.setTop (mkF m 192 #[.val (.int p0), .val (.long q0), .second, .val (.int pg), .val (.int ph), .val (.int po), .val (.int nn), .val (.long q0), .second, .val (.long zz1), .second, .val (.long zz2), .second, .val (.long zz3), .second, .val (.long zz4), .second, .val (.long qq), .second, .val (.ref ol), .unset, .unset] [(.ref ol)])) _
              refine XS.lload X27.here hx rfl (hb hby at_192) rfl ?_
              show Steps p.tables e below (T27.setTop (mkF m 194 #[.val (.int p0), .val (.long q0), .second, .val (.int pg), .val (.int ph), .val (.int po), .val (.int nn), .val (.long q0), .second, .val (.long zz1), .second, .val (.long zz2), .second, .val (.long zz3), .second, .val (.long zz4), .second, .val (.long qq), .second, .val (.ref ol), .unset, .unset] [(.long qq), (.ref ol)])) _
              refine st151.trans ?_
              show Steps p.tables e below (T151.setTop (mkF m 197 #[.val (.int p0), .val (.long q0), .second, .val (.int pg), .val (.int ph), .val (.int po), .val (.int nn), .val (.long q0), .second, .val (.long zz1), .second, .val (.long zz2), .second, .val (.long zz3), .second, .val (.long zz4), .second, .val (.long qq), .second, .val (.ref ol), .unset, .unset] [(.int rr)])) _
              refine XS.istore X151.here hx rfl (hb hby at_197) rfl (l' := #[.val (.int p0), .val (.long q0), .second, .val (.int pg), .val (.int ph), .val (.int po), .val (.int nn), .val (.long q0), .second, .val (.long zz1), .second, .val (.long zz2), .second, .val (.long zz3), .second, .val (.long zz4), .second, .val (.long qq), .second, .val (.ref ol), .val (.int rr), .unset]) rfl ?_
              show Steps p.tables e below (T151.setTop (mkF m 199 #[.val (.int p0), .val (.long q0), .second, .val (.int pg), .val (.int ph), .val (.int po), .val (.int nn), .val (.long q0), .second, .val (.long zz1), .second, .val (.long zz2), .second, .val (.long zz3), .second, .val (.long zz4), .second, .val (.long qq), .second, .val (.ref ol), .val (.int rr), .unset] [])) _
              refine XS.iload X151.here hx rfl (hb hby at_199) rfl ?_
              show Steps p.tables e below (T151.setTop (mkF m 201 #[.val (.int p0), .val (.long q0), .second, .val (.int pg), .val (.int ph), .val (.int po), .val (.int nn), .val (.long q0), .second, .val (.long zz1), .second, .val (.long zz2), .second, .val (.long zz3), .second, .val (.long zz4), .second, .val (.long qq), .second, .val (.ref ol), .val (.int rr), .unset] [(.int nn)])) _
              refine XS.iconst X151.here hx rfl (hb hby at_201) ?_
              show Steps p.tables e below (T151.setTop (mkF m 202 #[.val (.int p0), .val (.long q0), .second, .val (.int pg), .val (.int ph), .val (.int po), .val (.int nn), .val (.long q0), .second, .val (.long zz1), .second, .val (.long zz2), .second, .val (.long zz3), .second, .val (.long zz4), .second, .val (.long qq), .second, .val (.ref ol), .val (.int rr), .unset] [(.int (0 : Int32)), (.int nn)])) _
              refine XS.lload X151.here hx rfl (hb hby at_202) rfl ?_
              show Steps p.tables e below (T151.setTop (mkF m 204 #[.val (.int p0), .val (.long q0), .second, .val (.int pg), .val (.int ph), .val (.int po), .val (.int nn), .val (.long q0), .second, .val (.long zz1), .second, .val (.long zz2), .second, .val (.long zz3), .second, .val (.long zz4), .second, .val (.long qq), .second, .val (.ref ol), .val (.int rr), .unset] [(.long q0), (.int (0 : Int32)), (.int nn)])) _
              refine XS.lload X151.here hx rfl (hb hby at_204) rfl ?_
              show Steps p.tables e below (T151.setTop (mkF m 206 #[.val (.int p0), .val (.long q0), .second, .val (.int pg), .val (.int ph), .val (.int po), .val (.int nn), .val (.long q0), .second, .val (.long zz1), .second, .val (.long zz2), .second, .val (.long zz3), .second, .val (.long zz4), .second, .val (.long qq), .second, .val (.ref ol), .val (.int rr), .unset] [(.long qq), (.long q0), (.int (0 : Int32)), (.int nn)])) _
              refine st152 _ ?_
              show Steps p.tables e below (T152.setTop (mkF m 209 #[.val (.int p0), .val (.long q0), .second, .val (.int pg), .val (.int ph), .val (.int po), .val (.int nn), .val (.long q0), .second, .val (.long zz1), .second, .val (.long zz2), .second, .val (.long zz3), .second, .val (.long zz4), .second, .val (.long qq), .second, .val (.ref ol), .val (.int rr), .unset] [(.int (fn5 nn (0 : Int32) q0 qq))])) _
              refine XS.iload X152.here hx rfl (hb hby at_209) rfl ?_
              show Steps p.tables e below (T152.setTop (mkF m 211 #[.val (.int p0), .val (.long q0), .second, .val (.int pg), .val (.int ph), .val (.int po), .val (.int nn), .val (.long q0), .second, .val (.long zz1), .second, .val (.long zz2), .second, .val (.long zz3), .second, .val (.long zz4), .second, .val (.long qq), .second, .val (.ref ol), .val (.int rr), .unset] [(.int nn), (.int (fn5 nn (0 : Int32) q0 qq))])) _
              refine XS.iconst X152.here hx rfl (hb hby at_211) ?_
              show Steps p.tables e below (T152.setTop (mkF m 212 #[.val (.int p0), .val (.long q0), .second, .val (.int pg), .val (.int ph), .val (.int po), .val (.int nn), .val (.long q0), .second, .val (.long zz1), .second, .val (.long zz2), .second, .val (.long zz3), .second, .val (.long zz4), .second, .val (.long qq), .second, .val (.ref ol), .val (.int rr), .unset] [(.int (1 : Int32)), (.int nn), (.int (fn5 nn (0 : Int32) q0 qq))])) _
              refine XS.lload X152.here hx rfl (hb hby at_212) rfl ?_
              show Steps p.tables e below (T152.setTop (mkF m 214 #[.val (.int p0), .val (.long q0), .second, .val (.int pg), .val (.int ph), .val (.int po), .val (.int nn), .val (.long q0), .second, .val (.long zz1), .second, .val (.long zz2), .second, .val (.long zz3), .second, .val (.long zz4), .second, .val (.long qq), .second, .val (.ref ol), .val (.int rr), .unset] [(.long zz1), (.int (1 : Int32)), (.int nn), (.int (fn5 nn (0 : Int32) q0 qq))])) _
              refine XS.lload X152.here hx rfl (hb hby at_214) rfl ?_
              show Steps p.tables e below (T152.setTop (mkF m 216 #[.val (.int p0), .val (.long q0), .second, .val (.int pg), .val (.int ph), .val (.int po), .val (.int nn), .val (.long q0), .second, .val (.long zz1), .second, .val (.long zz2), .second, .val (.long zz3), .second, .val (.long zz4), .second, .val (.long qq), .second, .val (.ref ol), .val (.int rr), .unset] [(.long qq), (.long zz1), (.int (1 : Int32)), (.int nn), (.int (fn5 nn (0 : Int32) q0 qq))])) _
              refine st153 _ ?_
              show Steps p.tables e below (T153.setTop (mkF m 219 #[.val (.int p0), .val (.long q0), .second, .val (.int pg), .val (.int ph), .val (.int po), .val (.int nn), .val (.long q0), .second, .val (.long zz1), .second, .val (.long zz2), .second, .val (.long zz3), .second, .val (.long zz4), .second, .val (.long qq), .second, .val (.ref ol), .val (.int rr), .unset] [(.int (fn5 nn (1 : Int32) zz1 qq)), (.int (fn5 nn (0 : Int32) q0 qq))])) _
              refine XS.iadd X153.here hx rfl (hb hby at_219) rfl ?_
              show Steps p.tables e below (T153.setTop (mkF m 220 #[.val (.int p0), .val (.long q0), .second, .val (.int pg), .val (.int ph), .val (.int po), .val (.int nn), .val (.long q0), .second, .val (.long zz1), .second, .val (.long zz2), .second, .val (.long zz3), .second, .val (.long zz4), .second, .val (.long qq), .second, .val (.ref ol), .val (.int rr), .unset] [(.int ((fn5 nn (0 : Int32) q0 qq) + (fn5 nn (1 : Int32) zz1 qq)))])) _
              refine XS.iload X153.here hx rfl (hb hby at_220) rfl ?_
              show Steps p.tables e below (T153.setTop (mkF m 222 #[.val (.int p0), .val (.long q0), .second, .val (.int pg), .val (.int ph), .val (.int po), .val (.int nn), .val (.long q0), .second, .val (.long zz1), .second, .val (.long zz2), .second, .val (.long zz3), .second, .val (.long zz4), .second, .val (.long qq), .second, .val (.ref ol), .val (.int rr), .unset] [(.int nn), (.int ((fn5 nn (0 : Int32) q0 qq) + (fn5 nn (1 : Int32) zz1 qq)))])) _
              refine XS.iconst X153.here hx rfl (hb hby at_222) ?_
              show Steps p.tables e below (T153.setTop (mkF m 223 #[.val (.int p0), .val (.long q0), .second, .val (.int pg), .val (.int ph), .val (.int po), .val (.int nn), .val (.long q0), .second, .val (.long zz1), .second, .val (.long zz2), .second, .val (.long zz3), .second, .val (.long zz4), .second, .val (.long qq), .second, .val (.ref ol), .val (.int rr), .unset] [(.int (2 : Int32)), (.int nn), (.int ((fn5 nn (0 : Int32) q0 qq) + (fn5 nn (1 : Int32) zz1 qq)))])) _
              refine XS.lload X153.here hx rfl (hb hby at_223) rfl ?_
              show Steps p.tables e below (T153.setTop (mkF m 225 #[.val (.int p0), .val (.long q0), .second, .val (.int pg), .val (.int ph), .val (.int po), .val (.int nn), .val (.long q0), .second, .val (.long zz1), .second, .val (.long zz2), .second, .val (.long zz3), .second, .val (.long zz4), .second, .val (.long qq), .second, .val (.ref ol), .val (.int rr), .unset] [(.long zz2), (.int (2 : Int32)), (.int nn), (.int ((fn5 nn (0 : Int32) q0 qq) + (fn5 nn (1 : Int32) zz1 qq)))])) _
              refine XS.lload X153.here hx rfl (hb hby at_225) rfl ?_
              show Steps p.tables e below (T153.setTop (mkF m 227 #[.val (.int p0), .val (.long q0), .second, .val (.int pg), .val (.int ph), .val (.int po), .val (.int nn), .val (.long q0), .second, .val (.long zz1), .second, .val (.long zz2), .second, .val (.long zz3), .second, .val (.long zz4), .second, .val (.long qq), .second, .val (.ref ol), .val (.int rr), .unset] [(.long qq), (.long zz2), (.int (2 : Int32)), (.int nn), (.int ((fn5 nn (0 : Int32) q0 qq) + (fn5 nn (1 : Int32) zz1 qq)))])) _
              refine st154 _ ?_
              show Steps p.tables e below (T154.setTop (mkF m 230 #[.val (.int p0), .val (.long q0), .second, .val (.int pg), .val (.int ph), .val (.int po), .val (.int nn), .val (.long q0), .second, .val (.long zz1), .second, .val (.long zz2), .second, .val (.long zz3), .second, .val (.long zz4), .second, .val (.long qq), .second, .val (.ref ol), .val (.int rr), .unset] [(.int (fn5 nn (2 : Int32) zz2 qq)), (.int ((fn5 nn (0 : Int32) q0 qq) + (fn5 nn (1 : Int32) zz1 qq)))])) _
              refine XS.iadd X154.here hx rfl (hb hby at_230) rfl ?_
              show Steps p.tables e below (T154.setTop (mkF m 231 #[.val (.int p0), .val (.long q0), .second, .val (.int pg), .val (.int ph), .val (.int po), .val (.int nn), .val (.long q0), .second, .val (.long zz1), .second, .val (.long zz2), .second, .val (.long zz3), .second, .val (.long zz4), .second, .val (.long qq), .second, .val (.ref ol), .val (.int rr), .unset] [(.int (((fn5 nn (0 : Int32) q0 qq) + (fn5 nn (1 : Int32) zz1 qq)) + (fn5 nn (2 : Int32) zz2 qq)))])) _
              refine XS.iload X154.here hx rfl (hb hby at_231) rfl ?_
              show Steps p.tables e below (T154.setTop (mkF m 233 #[.val (.int p0), .val (.long q0), .second, .val (.int pg), .val (.int ph), .val (.int po), .val (.int nn), .val (.long q0), .second, .val (.long zz1), .second, .val (.long zz2), .second, .val (.long zz3), .second, .val (.long zz4), .second, .val (.long qq), .second, .val (.ref ol), .val (.int rr), .unset] [(.int nn), (.int (((fn5 nn (0 : Int32) q0 qq) + (fn5 nn (1 : Int32) zz1 qq)) + (fn5 nn (2 : Int32) zz2 qq)))])) _
              refine XS.iconst X154.here hx rfl (hb hby at_233) ?_
              show Steps p.tables e below (T154.setTop (mkF m 234 #[.val (.int p0), .val (.long q0), .second, .val (.int pg), .val (.int ph), .val (.int po), .val (.int nn), .val (.long q0), .second, .val (.long zz1), .second, .val (.long zz2), .second, .val (.long zz3), .second, .val (.long zz4), .second, .val (.long qq), .second, .val (.ref ol), .val (.int rr), .unset] [(.int (3 : Int32)), (.int nn), (.int (((fn5 nn (0 : Int32) q0 qq) + (fn5 nn (1 : Int32) zz1 qq)) + (fn5 nn (2 : Int32) zz2 qq)))])) _
              refine XS.lload X154.here hx rfl (hb hby at_234) rfl ?_
              show Steps p.tables e below (T154.setTop (mkF m 236 #[.val (.int p0), .val (.long q0), .second, .val (.int pg), .val (.int ph), .val (.int po), .val (.int nn), .val (.long q0), .second, .val (.long zz1), .second, .val (.long zz2), .second, .val (.long zz3), .second, .val (.long zz4), .second, .val (.long qq), .second, .val (.ref ol), .val (.int rr), .unset] [(.long zz3), (.int (3 : Int32)), (.int nn), (.int (((fn5 nn (0 : Int32) q0 qq) + (fn5 nn (1 : Int32) zz1 qq)) + (fn5 nn (2 : Int32) zz2 qq)))])) _
              refine XS.lload X154.here hx rfl (hb hby at_236) rfl ?_
              show Steps p.tables e below (T154.setTop (mkF m 238 #[.val (.int p0), .val (.long q0), .second, .val (.int pg), .val (.int ph), .val (.int po), .val (.int nn), .val (.long q0), .second, .val (.long zz1), .second, .val (.long zz2), .second, .val (.long zz3), .second, .val (.long zz4), .second, .val (.long qq), .second, .val (.ref ol), .val (.int rr), .unset] [(.long qq), (.long zz3), (.int (3 : Int32)), (.int nn), (.int (((fn5 nn (0 : Int32) q0 qq) + (fn5 nn (1 : Int32) zz1 qq)) + (fn5 nn (2 : Int32) zz2 qq)))])) _
              refine st155 _ ?_
              show Steps p.tables e below (T155.setTop (mkF m 241 #[.val (.int p0), .val (.long q0), .second, .val (.int pg), .val (.int ph), .val (.int po), .val (.int nn), .val (.long q0), .second, .val (.long zz1), .second, .val (.long zz2), .second, .val (.long zz3), .second, .val (.long zz4), .second, .val (.long qq), .second, .val (.ref ol), .val (.int rr), .unset] [(.int (fn5 nn (3 : Int32) zz3 qq)), (.int (((fn5 nn (0 : Int32) q0 qq) + (fn5 nn (1 : Int32) zz1 qq)) + (fn5 nn (2 : Int32) zz2 qq)))])) _
              refine XS.iadd X155.here hx rfl (hb hby at_241) rfl ?_
              show Steps p.tables e below (T155.setTop (mkF m 242 #[.val (.int p0), .val (.long q0), .second, .val (.int pg), .val (.int ph), .val (.int po), .val (.int nn), .val (.long q0), .second, .val (.long zz1), .second, .val (.long zz2), .second, .val (.long zz3), .second, .val (.long zz4), .second, .val (.long qq), .second, .val (.ref ol), .val (.int rr), .unset] [(.int ((((fn5 nn (0 : Int32) q0 qq) + (fn5 nn (1 : Int32) zz1 qq)) + (fn5 nn (2 : Int32) zz2 qq)) + (fn5 nn (3 : Int32) zz3 qq)))])) _
              refine XS.iload X155.here hx rfl (hb hby at_242) rfl ?_
              show Steps p.tables e below (T155.setTop (mkF m 244 #[.val (.int p0), .val (.long q0), .second, .val (.int pg), .val (.int ph), .val (.int po), .val (.int nn), .val (.long q0), .second, .val (.long zz1), .second, .val (.long zz2), .second, .val (.long zz3), .second, .val (.long zz4), .second, .val (.long qq), .second, .val (.ref ol), .val (.int rr), .unset] [(.int nn), (.int ((((fn5 nn (0 : Int32) q0 qq) + (fn5 nn (1 : Int32) zz1 qq)) + (fn5 nn (2 : Int32) zz2 qq)) + (fn5 nn (3 : Int32) zz3 qq)))])) _
              refine XS.iconst X155.here hx rfl (hb hby at_244) ?_
              show Steps p.tables e below (T155.setTop (mkF m 245 #[.val (.int p0), .val (.long q0), .second, .val (.int pg), .val (.int ph), .val (.int po), .val (.int nn), .val (.long q0), .second, .val (.long zz1), .second, .val (.long zz2), .second, .val (.long zz3), .second, .val (.long zz4), .second, .val (.long qq), .second, .val (.ref ol), .val (.int rr), .unset] [(.int (4 : Int32)), (.int nn), (.int ((((fn5 nn (0 : Int32) q0 qq) + (fn5 nn (1 : Int32) zz1 qq)) + (fn5 nn (2 : Int32) zz2 qq)) + (fn5 nn (3 : Int32) zz3 qq)))])) _
              refine XS.lload X155.here hx rfl (hb hby at_245) rfl ?_
              show Steps p.tables e below (T155.setTop (mkF m 247 #[.val (.int p0), .val (.long q0), .second, .val (.int pg), .val (.int ph), .val (.int po), .val (.int nn), .val (.long q0), .second, .val (.long zz1), .second, .val (.long zz2), .second, .val (.long zz3), .second, .val (.long zz4), .second, .val (.long qq), .second, .val (.ref ol), .val (.int rr), .unset] [(.long zz4), (.int (4 : Int32)), (.int nn), (.int ((((fn5 nn (0 : Int32) q0 qq) + (fn5 nn (1 : Int32) zz1 qq)) + (fn5 nn (2 : Int32) zz2 qq)) + (fn5 nn (3 : Int32) zz3 qq)))])) _
              refine XS.lload X155.here hx rfl (hb hby at_247) rfl ?_
              show Steps p.tables e below (T155.setTop (mkF m 249 #[.val (.int p0), .val (.long q0), .second, .val (.int pg), .val (.int ph), .val (.int po), .val (.int nn), .val (.long q0), .second, .val (.long zz1), .second, .val (.long zz2), .second, .val (.long zz3), .second, .val (.long zz4), .second, .val (.long qq), .second, .val (.ref ol), .val (.int rr), .unset] [(.long qq), (.long zz4), (.int (4 : Int32)), (.int nn), (.int ((((fn5 nn (0 : Int32) q0 qq) + (fn5 nn (1 : Int32) zz1 qq)) + (fn5 nn (2 : Int32) zz2 qq)) + (fn5 nn (3 : Int32) zz3 qq)))])) _
              refine st156 _ ?_
              show Steps p.tables e below (T156.setTop (mkF m 252 #[.val (.int p0), .val (.long q0), .second, .val (.int pg), .val (.int ph), .val (.int po), .val (.int nn), .val (.long q0), .second, .val (.long zz1), .second, .val (.long zz2), .second, .val (.long zz3), .second, .val (.long zz4), .second, .val (.long qq), .second, .val (.ref ol), .val (.int rr), .unset] [(.int (fn5 nn (4 : Int32) zz4 qq)), (.int ((((fn5 nn (0 : Int32) q0 qq) + (fn5 nn (1 : Int32) zz1 qq)) + (fn5 nn (2 : Int32) zz2 qq)) + (fn5 nn (3 : Int32) zz3 qq)))])) _
              refine XS.iadd X156.here hx rfl (hb hby at_252) rfl ?_
              show Steps p.tables e below (T156.setTop (mkF m 253 #[.val (.int p0), .val (.long q0), .second, .val (.int pg), .val (.int ph), .val (.int po), .val (.int nn), .val (.long q0), .second, .val (.long zz1), .second, .val (.long zz2), .second, .val (.long zz3), .second, .val (.long zz4), .second, .val (.long qq), .second, .val (.ref ol), .val (.int rr), .unset] [(.int (((((fn5 nn (0 : Int32) q0 qq) + (fn5 nn (1 : Int32) zz1 qq)) + (fn5 nn (2 : Int32) zz2 qq)) + (fn5 nn (3 : Int32) zz3 qq)) + (fn5 nn (4 : Int32) zz4 qq)))])) _
              refine XS.iconst X156.here hx rfl (hb hby at_253) ?_
              show Steps p.tables e below (T156.setTop (mkF m 254 #[.val (.int p0), .val (.long q0), .second, .val (.int pg), .val (.int ph), .val (.int po), .val (.int nn), .val (.long q0), .second, .val (.long zz1), .second, .val (.long zz2), .second, .val (.long zz3), .second, .val (.long zz4), .second, .val (.long qq), .second, .val (.ref ol), .val (.int rr), .unset] [(.int (1 : Int32)), (.int (((((fn5 nn (0 : Int32) q0 qq) + (fn5 nn (1 : Int32) zz1 qq)) + (fn5 nn (2 : Int32) zz2 qq)) + (fn5 nn (3 : Int32) zz3 qq)) + (fn5 nn (4 : Int32) zz4 qq)))])) _
              refine XS.isub X156.here hx rfl (hb hby at_254) rfl ?_
              exact kt
            obtain ⟨ex, h_ex⟩ : ∃ z : Int32, z = ((((((fn5 nn (0 : Int32) q0 qq) + (fn5 nn (1 : Int32) zz1 qq)) + (fn5 nn (2 : Int32) zz2 qq)) + (fn5 nn (3 : Int32) zz3 qq)) + (fn5 nn (4 : Int32) zz4 qq)) - (1 : Int32)) := ⟨_, rfl⟩
            have pre158 : ∀ t, Steps p.tables e below (T156.setTop (mkF m 255 #[.val (.int p0), .val (.long q0), .second, .val (.int pg), .val (.int ph), .val (.int po), .val (.int nn), .val (.long q0), .second, .val (.long zz1), .second, .val (.long zz2), .second, .val (.long zz3), .second, .val (.long zz4), .second, .val (.long qq), .second, .val (.ref ol), .val (.int rr), .unset] [(.int ex)])) t → Steps p.tables e below (s₁.setTop (entryFrame m #[(.int p0), (.long q0), (.int pg), (.int ph), (.int po)] maxLocals)) t := by
              intro t kt
              rw [h_ex] at kt
              exact pre157 _ kt
            have pre159 : ∀ t, Steps p.tables e below (T156.setTop (mkF m 261 #[.val (.int p0), .val (.long q0), .second, .val (.int pg), .val (.int ph), .val (.int po), .val (.int nn), .val (.long q0), .second, .val (.long zz1), .second, .val (.long zz2), .second, .val (.long zz3), .second, .val (.long zz4), .second, .val (.long qq), .second, .val (.ref ol), .val (.int rr), .val (.int ex)] [(.int ex), (.int rr)])) t → Steps p.tables e below (s₁.setTop (entryFrame m #[(.int p0), (.long q0), (.int pg), (.int ph), (.int po)] maxLocals)) t := by
              intro t kt
              refine pre158 _ ?_
              show Steps p.tables e below (T156.setTop (mkF m 255 #[.val (.int p0), .val (.long q0), .second, .val (.int pg), .val (.int ph), .val (.int po), .val (.int nn), .val (.long q0), .second, .val (.long zz1), .second, .val (.long zz2), .second, .val (.long zz3), .second, .val (.long zz4), .second, .val (.long qq), .second, .val (.ref ol), .val (.int rr), .unset] [(.int ex)])) _
              refine XS.istore X156.here hx rfl (hb hby at_255) rfl (l' := #[.val (.int p0), .val (.long q0), .second, .val (.int pg), .val (.int ph), .val (.int po), .val (.int nn), .val (.long q0), .second, .val (.long zz1), .second, .val (.long zz2), .second, .val (.long zz3), .second, .val (.long zz4), .second, .val (.long qq), .second, .val (.ref ol), .val (.int rr), .val (.int ex)]) rfl ?_
              show Steps p.tables e below (T156.setTop (mkF m 257 #[.val (.int p0), .val (.long q0), .second, .val (.int pg), .val (.int ph), .val (.int po), .val (.int nn), .val (.long q0), .second, .val (.long zz1), .second, .val (.long zz2), .second, .val (.long zz3), .second, .val (.long zz4), .second, .val (.long qq), .second, .val (.ref ol), .val (.int rr), .val (.int ex)] [])) _
              refine XS.iload X156.here hx rfl (hb hby at_257) rfl ?_
              show Steps p.tables e below (T156.setTop (mkF m 259 #[.val (.int p0), .val (.long q0), .second, .val (.int pg), .val (.int ph), .val (.int po), .val (.int nn), .val (.long q0), .second, .val (.long zz1), .second, .val (.long zz2), .second, .val (.long zz3), .second, .val (.long zz4), .second, .val (.long qq), .second, .val (.ref ol), .val (.int rr), .val (.int ex)] [(.int rr)])) _
              refine XS.iload X156.here hx rfl (hb hby at_259) rfl ?_
              exact kt
            by_cases hc261_160 : rr = ex
            · skip
              have pre161 : ∀ t, Steps p.tables e below (T156.setTop (mkF m 269 #[.val (.int p0), .val (.long q0), .second, .val (.int pg), .val (.int ph), .val (.int po), .val (.int nn), .val (.long q0), .second, .val (.long zz1), .second, .val (.long zz2), .second, .val (.long zz3), .second, .val (.long zz4), .second, .val (.long qq), .second, .val (.ref ol), .val (.int rr), .val (.int ex)] [(.int (1 : Int32))])) t → Steps p.tables e below (s₁.setTop (entryFrame m #[(.int p0), (.long q0), (.int pg), (.int ph), (.int po)] maxLocals)) t := by
                intro t kt
                refine pre159 _ ?_
                show Steps p.tables e below (T156.setTop (mkF m 261 #[.val (.int p0), .val (.long q0), .second, .val (.int pg), .val (.int ph), .val (.int po), .val (.int nn), .val (.long q0), .second, .val (.long zz1), .second, .val (.long zz2), .second, .val (.long zz3), .second, .val (.long zz4), .second, .val (.long qq), .second, .val (.ref ol), .val (.int rr), .val (.int ex)] [(.int ex), (.int rr)])) _
                refine XS.icmpNo X156.here hx rfl (hb hby at_261) rfl (XT.ii_ne_f hc261_160) ?_
                show Steps p.tables e below (T156.setTop (mkF m 264 #[.val (.int p0), .val (.long q0), .second, .val (.int pg), .val (.int ph), .val (.int po), .val (.int nn), .val (.long q0), .second, .val (.long zz1), .second, .val (.long zz2), .second, .val (.long zz3), .second, .val (.long zz4), .second, .val (.long qq), .second, .val (.ref ol), .val (.int rr), .val (.int ex)] [])) _
                refine XS.iconst X156.here hx rfl (hb hby at_264) ?_
                show Steps p.tables e below (T156.setTop (mkF m 265 #[.val (.int p0), .val (.long q0), .second, .val (.int pg), .val (.int ph), .val (.int po), .val (.int nn), .val (.long q0), .second, .val (.long zz1), .second, .val (.long zz2), .second, .val (.long zz3), .second, .val (.long zz4), .second, .val (.long qq), .second, .val (.ref ol), .val (.int rr), .val (.int ex)] [(.int (1 : Int32))])) _
                refine XS.goto X156.here hx rfl (pc0 := 265) (pc' := 269) rfl (hb hby at_265) (by decide) (by decide) ?_
                exact kt
              obtain ⟨fs, hr, hrun, hended, hW, hsame⟩ := X156.leave (v := some (.int (1 : Int32))) (fun h => by rw [Bd.returns] at h; cases h)
              refine ⟨_, _, pre161 _ ?_, hrun, hended, _, _, rfl, ?_, ⟨_, rfl⟩, hW, hsame.mono (by decide) (by decide)⟩
              · show Steps p.tables e below (T156.setTop (mkF m 269 #[.val (.int p0), .val (.long q0), .second, .val (.int pg), .val (.int ph), .val (.int po), .val (.int nn), .val (.long q0), .second, .val (.long zz1), .second, .val (.long zz2), .second, .val (.long zz3), .second, .val (.long zz4), .second, .val (.long qq), .second, .val (.ref ol), .val (.int rr), .val (.int ex)] [(.int (1 : Int32))])) _
                exact retN X156 hx (t := .boolean) Bd.returns (by simp) (hb hby at_269) hr
              · show Q0 Z p0 q0 pg ph po h0 n0 _ T156.heap _
                rw [hE156]
                exact ⟨rfl, N156⟩
            · skip
              exact absurd (own_law0 nn q0 zz1 zz2 zz3 zz4 qq fz h_fz rr sp ex h_ex (by have r := own_nn _ _ h_nn; have a0 := hc110_37; rw [Int32.lt_iff_toInt_lt] at a0; have l0 : (0 : Int32).toInt = 0 := rfl; have l1 : (1 : Int32).toInt = 1 := rfl; have l2 : (2 : Int32).toInt = 2 := rfl; have l3 : (3 : Int32).toInt = 3 := rfl; have l4 : (4 : Int32).toInt = 4 := rfl; omega)) hc261_160
set_option maxRecDepth 65536 in
set_option maxHeartbeats 40000000 in
theorem comes_1 {Post : Tables → Env → Array Value → State → Outcome → State → Prop} (hpost : ∀ tb e args s v u, (limb_1_1.after args s (.returned v) u = true ∧ limb_1_2.after args s (.returned v) u = true ∧ True) → FrameEnd s (.returned v) u (Jvm.fieldLocs frame_1_writes args s ++ Jvm.arrayLocs frame_1_arrays args s ++ Jvm.staticLocs frame_1_statics s) 16 192 → Post tb e args s (.returned v) u) :
    ArmFor flags0 classFile x code maxLocals ret World_1 tables_1 room_1 Calls_1 rest_1 Pre_1 Post := by
  intro l hfl _ _ p e ha hc hk s m args below hf hA hF happ hP
  obtain ⟨hcalls, hrest, hpre⟩ := hP
  obtain ⟨-, -, -, hnamed, -, -, -, hat⟩ := (Spec.applies_iff hf).mp happ
  obtain ⟨hg, hn⟩ := and_e (Cond.before_iff.mp (show (Jvm.Cond.and given_1 narrow_1).before args s = true from hpre))
  obtain ⟨g1, g2⟩ := and_e hg
  obtain ⟨g3, g4⟩ := and_e g2
  obtain ⟨g5, g6⟩ := and_e g4
  obtain ⟨g7, g8⟩ := and_e g6
  obtain ⟨g9, g10⟩ := and_e g8
  obtain ⟨w0, w1, w2, w3, w4, rfl⟩ : ∃ w0 w1 w2 w3 w4 : Value, args = #[w0, w1, w2, w3, w4] := by
    have hs : args.size = 5 := by simpa [Cond.value, given_1] using g1
    obtain ⟨L⟩ := args
    match L, hs with
    | [w0, w1, w2, w3, w4], _ => exact ⟨w0, w1, w2, w3, w4, rfl⟩
  have hw := fun d (hd : d ∈ tables_1) => atoms_spec (ws := Jvm.Cond.code x code maxLocals ret :: tables_1) hat d (List.mem_cons_of_mem _ hd)
  have hfit : Fit s := fun {y c} hc i hi => by
    obtain ⟨ha, rfl⟩ := Array.getElem?_eq_some_iff.mp hc
    have q := List.all_eq_true.mp ((Array.all_eq_true_iff_forall_mem.mp hF) _ (Array.getElem_mem ha)) i (List.mem_range.mpr hi)
    simpa [Array.getElem?_eq_getElem hi] using q
  obtain ⟨i0, ei0⟩ := is_v g3
  obtain rfl : w0 = (.int i0) := Option.some.inj ei0
  obtain ⟨i1, ei1⟩ := isL_v g5
  obtain rfl : w1 = (.long i1) := Option.some.inj ei1
  obtain ⟨i2, ei2⟩ := is_v g7
  obtain rfl : w2 = (.int i2) := Option.some.inj ei2
  obtain ⟨i3, ei3⟩ := is_v g9
  obtain rfl : w3 = (.int i3) := Option.some.inj ei3
  obtain ⟨i4, ei4⟩ := is_v g10
  obtain rfl : w4 = (.int i4) := Option.some.inj ei4
  obtain ⟨n, o, h1, h2, h3, _, L, rfl, ⟨rfl, N⟩, hq⟩ := rm0 l s _ hw tables_1 i0 i1 i2 i3 i4 s.heap s.heap.size (Nat.le_refl _) p e ha hc hk s m _ below hf ((Spec.applies_iff_loose hf).mp happ).1 ⟨rfl, State.Warmed39.refl s, rfl⟩ trivial
  refine ⟨n, _, h1, h2, h3, hpost _ _ _ _ _ _ ⟨Cond.after_iff.mpr rfl, Cond.after_iff.mpr (eq_i res_at (Term.int_eval (1)) rfl), trivial⟩ ⟨hq.1, hq.2.1, (hq.2.2.sift fun y hy => Or.inr (N y hy)).mono (by decide) (by decide)⟩⟩
theorem main_1_1 : Claimed_1_1 := comes_1 fun _ _ _ _ _ _ h hF => ⟨h.1, hF⟩
theorem main_1_2 : Claimed_1_2 := comes_1 fun _ _ _ _ _ _ h hF => ⟨h.2.1, hF⟩
end Jvm.Pilot.@@N@@
namespace Jvm.Pilot.@@N@@
open Jvm Jvm.ClassFile Sem Op Lib Jvm.Free Jvm.Stand Jvm.Pilot.@@N@@.Jvm.D
/-! MADE BY PROGRAM (witnessworld.py) out of the Statement's table words and the real class files: 11 classes; the members and pool entries that the words name. The judged class is class 1, her method 1. -/
namespace start1
open Jvm.ClassFile
def u (s : String) : CpInfo := .utf8 (stringToUtf16 s)
/-- a pool by its gaps: so many unusable entries, then the entry; so many at the end -/
def gap : Nat → List CpInfo → List CpInfo
  | 0, r => r
  | n + 1, r => .unusable :: gap n r
def poolList (es : List (Nat × CpInfo)) (last : Nat) : List CpInfo := es.foldr (fun e r => gap e.1 (e.2 :: r)) (gap last [])
def pool (es : List (Nat × CpInfo)) (last : Nat) : Array CpInfo := ⟨poolList es last⟩
def fileOf (pool : Array CpInfo) (this : Nat) (attrs : Array Attribute := #[]) (ms : Array MethodInfo := #[]) (fl : Nat := 33) (sup : Nat := 0) (ifs : Array Nat := #[]) (fds : Array FieldInfo := #[]) : ClassFile where
  minorVersion := 0
  majorVersion := 65
  constantPool := pool
  accessFlags := fl
  thisClass := this
  superClass := sup
  interfaces := ifs
  fields := fds
  methods := ms
  attributes := attrs
def plain (name : String) (sup : Option ClassId) : Class where
  name := name
  kind := .ordinary
  loader := none
  accessFlags := 33
  super := sup
  interfaces := #[]
  cf := none
  fields := #[]
  methods := #[]
  instanceTypes := #[]
  staticTypes := #[]
  resolved := #[]
  callSites := []
  init := .initialized
  statics := none
  mirror := none

def pool0 : Array CpInfo := pool [(5, u "<init>"), (0, u "()V"), (1, .class_ 10), (1, u "java/lang/Object")] 113

def k0c0 : Code := { maxStack := 0, maxLocals := 1, code := object_method_1_code, exceptionTable := #[], attributes := #[] }
def k0m0 : Method := { name := "<init>", desc := "()V", sig := { parameters := [], returnType := none }, accessFlags := 1, code := some k0c0 }
/-- java/lang/Object -/
def k0 : Class := { plain "java/lang/Object" none with
  accessFlags := 33
  interfaces := #[]
  cf := some (fileOf pool0 8 #[] #[{ accessFlags := 1, nameIndex := 5, descriptorIndex := 6, attributes := #[] }] 33 0 #[] #[])
  fields := #[]
  methods := #[k0m0]
  instanceTypes := #[]
  staticTypes := #[]
  resolved := Array.replicate 124 none
  statics := none }

def pool1 : Array CpInfo := pool [(2, .class_ 4), (0, .nameAndType 5 6), (0, u "java/lang/Object"), (0, u "<init>"), (0, u "()V"), (0, .integer 2147483647), (0, .integer 65535), (0, .integer 300000), (0, .class_ 11), (0, u "com/example/quorumvote/quorumvote/simulation/SimulatedLog"), (0, .methodref 10 3), (0, .methodref 10 14), (0, .nameAndType 15 16), (0, u "append"), (0, u "(JJJ)V"), (0, .long 2), (1, .long 3), (1, .long 4), (1, .long 5), (1, .methodref 10 26), (0, .nameAndType 27 28), (0, u "placeAtOrBelow"), (0, u "(J)I"), (0, .methodref 30 31), (0, .class_ 32), (0, .nameAndType 33 34), (0, u "com/example/quorumvote/quorumvote/simulation/SimulatedLogPlaceAtOrBelowPinLaw"), (0, u "at"), (0, u "(IIJJ)I"), (2, u "law"), (0, u "(IJIII)Z")] 3

def k1m0 : Method := { name := "<init>", desc := "()V", sig := { parameters := [], returnType := none }, accessFlags := 1, code := none }
def k1c1 : Code := { maxStack := 7, maxLocals := 22, code := code, exceptionTable := #[], attributes := #[] }
def k1m1 : Method := { name := "law", desc := "(IJIII)Z", sig := { parameters := [.int, .long, .int, .int, .int], returnType := some .boolean }, accessFlags := 9, code := some k1c1 }
def k1c2 : Code := { maxStack := 4, maxLocals := 6, code := method_3_code, exceptionTable := #[], attributes := #[] }
def k1m2 : Method := { name := "at", desc := "(IIJJ)I", sig := { parameters := [.int, .int, .long, .long], returnType := some .int }, accessFlags := 10, code := some k1c2 }
/-- com/example/quorumvote/quorumvote/simulation/SimulatedLogPlaceAtOrBelowPinLaw -/
def k1 : Class := { plain "com/example/quorumvote/quorumvote/simulation/SimulatedLogPlaceAtOrBelowPinLaw" (some 0) with
  accessFlags := 49
  interfaces := #[]
  cf := some (fileOf pool1 30 #[] #[{ accessFlags := 1, nameIndex := 5, descriptorIndex := 6, attributes := #[] }, { accessFlags := 9, nameIndex := 37, descriptorIndex := 38, attributes := #[] }, { accessFlags := 10, nameIndex := 33, descriptorIndex := 34, attributes := #[] }] 49 2 #[] #[])
  fields := #[]
  methods := #[k1m0, k1m1, k1m2]
  instanceTypes := #[]
  staticTypes := #[]
  resolved := Array.replicate 42 none
  statics := none }

def pool2 : Array CpInfo := pool [(1, .methodref 2 3), (0, .class_ 4), (0, .nameAndType 5 6), (0, u "com/example/quorumvote/quorumvote/simulation/SimulatedLog"), (0, u "<init>"), (0, u "([J[JI)V"), (0, .methodref 8 9), (0, .class_ 10), (0, .nameAndType 5 11), (0, u "java/lang/Object"), (0, u "()V"), (0, .fieldref 2 13), (0, .nameAndType 14 15), (0, u "zxids"), (0, u "[J"), (0, .fieldref 2 17), (0, .nameAndType 18 15), (0, u "writes"), (0, .fieldref 2 20), (0, .nameAndType 21 15), (0, u "tags"), (0, .fieldref 2 23), (0, .nameAndType 24 25), (0, u "size"), (0, u "I"), (0, .fieldref 2 27), (0, .nameAndType 28 25), (0, u "onDisk"), (0, .fieldref 2 30), (0, .nameAndType 31 25), (0, u "applied"), (8, u "base"), (2, u "snapshot"), (11, u "truncations"), (0, u "J"), (8, u "placeAtOrBelow"), (0, u "(J)I"), (22, u "append"), (0, u "(JJJ)V")] 8

def k2c0 : Code := { maxStack := 4, maxLocals := 1, code := prog_203_method_1_code, exceptionTable := #[], attributes := #[] }
def k2m0 : Method := { name := "<init>", desc := "()V", sig := { parameters := [], returnType := none }, accessFlags := 0, code := some k2c0 }
def k2c1 : Code := { maxStack := 2, maxLocals := 4, code := prog_203_method_2_code, exceptionTable := #[], attributes := #[] }
def k2m1 : Method := { name := "<init>", desc := "([J[JI)V", sig := { parameters := [(.array .long), (.array .long), .int], returnType := none }, accessFlags := 2, code := some k2c1 }
def k2c2 : Code := { maxStack := 4, maxLocals := 6, code := prog_203_method_18_code, exceptionTable := #[], attributes := #[] }
def k2m2 : Method := { name := "placeAtOrBelow", desc := "(J)I", sig := { parameters := [.long], returnType := some .int }, accessFlags := 0, code := some k2c2 }
def k2c3 : Code := { maxStack := 4, maxLocals := 7, code := prog_203_method_19_code, exceptionTable := #[], attributes := #[] }
def k2m3 : Method := { name := "append", desc := "(JJJ)V", sig := { parameters := [.long, .long, .long], returnType := none }, accessFlags := 0, code := some k2c3 }
/-- com/example/quorumvote/quorumvote/simulation/SimulatedLog -/
def k2 : Class := { plain "com/example/quorumvote/quorumvote/simulation/SimulatedLog" (some 0) with
  accessFlags := 48
  interfaces := #[]
  cf := some (fileOf pool2 2 #[] #[{ accessFlags := 0, nameIndex := 5, descriptorIndex := 11, attributes := #[] }, { accessFlags := 2, nameIndex := 5, descriptorIndex := 6, attributes := #[] }, { accessFlags := 0, nameIndex := 65, descriptorIndex := 66, attributes := #[] }, { accessFlags := 0, nameIndex := 89, descriptorIndex := 90, attributes := #[] }] 48 8 #[] #[{ accessFlags := 2, nameIndex := 14, descriptorIndex := 15, attributes := #[] }, { accessFlags := 2, nameIndex := 18, descriptorIndex := 15, attributes := #[] }, { accessFlags := 2, nameIndex := 21, descriptorIndex := 15, attributes := #[] }, { accessFlags := 2, nameIndex := 24, descriptorIndex := 25, attributes := #[] }, { accessFlags := 2, nameIndex := 28, descriptorIndex := 25, attributes := #[] }, { accessFlags := 2, nameIndex := 31, descriptorIndex := 25, attributes := #[] }, { accessFlags := 2, nameIndex := 43, descriptorIndex := 25, attributes := #[] }, { accessFlags := 2, nameIndex := 40, descriptorIndex := 25, attributes := #[] }, { accessFlags := 2, nameIndex := 55, descriptorIndex := 56, attributes := #[] }])
  fields := #[{ name := "zxids", type := (.array .long), accessFlags := 2, slot := 0, constantValue := 0 }, { name := "writes", type := (.array .long), accessFlags := 2, slot := 1, constantValue := 0 }, { name := "tags", type := (.array .long), accessFlags := 2, slot := 2, constantValue := 0 }, { name := "size", type := .int, accessFlags := 2, slot := 3, constantValue := 0 }, { name := "onDisk", type := .int, accessFlags := 2, slot := 4, constantValue := 0 }, { name := "applied", type := .int, accessFlags := 2, slot := 5, constantValue := 0 }, { name := "snapshot", type := .int, accessFlags := 2, slot := 6, constantValue := 0 }, { name := "base", type := .int, accessFlags := 2, slot := 7, constantValue := 0 }, { name := "truncations", type := .long, accessFlags := 2, slot := 8, constantValue := 0 }]
  methods := #[k2m0, k2m1, k2m2, k2m3]
  instanceTypes := #[(.array .long), (.array .long), (.array .long), .int, .int, .int, .int, .int, .long]
  staticTypes := #[]
  resolved := Array.replicate 99 none
  statics := none }

def pool3 : Array CpInfo := pool [(1, u "java/lang/Cloneable"), (0, .class_ 1), (0, u "java/lang/Object"), (0, .class_ 3)] 3

/-- java/lang/Cloneable -/
def k3 : Class := { plain "java/lang/Cloneable" (some 0) with
  accessFlags := 1537
  interfaces := #[]
  cf := some (fileOf pool3 2 #[] #[] 1537 4 #[] #[])
  fields := #[]
  methods := #[]
  instanceTypes := #[]
  staticTypes := #[]
  resolved := Array.replicate 8 none
  statics := none }

def pool4 : Array CpInfo := pool [(1, u "java/io/Serializable"), (0, .class_ 1), (0, u "java/lang/Object"), (0, .class_ 3)] 3

/-- java/io/Serializable -/
def k4 : Class := { plain "java/io/Serializable" (some 0) with
  accessFlags := 1537
  interfaces := #[]
  cf := some (fileOf pool4 2 #[] #[] 1537 4 #[] #[])
  fields := #[]
  methods := #[]
  instanceTypes := #[]
  staticTypes := #[]
  resolved := Array.replicate 8 none
  statics := none }

/-- the primitive byte -/
def k5 : Class := { plain "byte" none with kind := .primitive 'B', accessFlags := 0x411 }
/-- [B -/
def k6 : Class := { plain "[B" (some 0) with kind := .array 5 .byte, interfaces := #[3, 4], accessFlags := 1041 }

/-- the primitive int -/
def k7 : Class := { plain "int" none with kind := .primitive 'I', accessFlags := 0x411 }
/-- [I -/
def k8 : Class := { plain "[I" (some 0) with kind := .array 7 .int, interfaces := #[3, 4], accessFlags := 1041 }

/-- the primitive long -/
def k9 : Class := { plain "long" none with kind := .primitive 'J', accessFlags := 0x411 }
/-- [J -/
def k10 : Class := { plain "[J" (some 0) with kind := .array 9 .long, interfaces := #[3, 4], accessFlags := 1041 }

def heap : Heap := #[]
def classes : Array Class := #[k0, k1, k2, k3, k4, k5, k6, k7, k8, k9, k10]
def interned : List (Array UInt16 × Addr) := []
def slotsUsed : Nat := 0
def theMethod : MethodId := ⟨1, 1⟩
def args0 : Array Value := #[.int 5, .long 6, .int 7, .int 8, .int 3]
def aboutOver (below : List Frame) : State where
  vm := { classes := classes, interned := interned.toArray }
  heap := heap
  slotsUsed := slotsUsed
  threads := #[{ frames := .invoking theMethod args0 :: below }]
def below0 : List Frame := [.native { method := ⟨0, 0⟩, args := #[] }]
def about1 : State := aboutOver below0
def p0 : Program := .bare "" "" ""
def e0 : Env := launch0.env 0 0 0
theorem w_frames : about1.frames = Frame.invoking theMethod args0 :: below0 := rfl
set_option maxRecDepth 65536 in
theorem w_args : argsFit about1.vm theMethod args0 = true := by decide +kernel
set_option maxRecDepth 65536 in
theorem w_heap : heapFits about1 = true := by decide +kernel
set_option maxRecDepth 65536 in
theorem w_runnable : about1.curStatus? = some .runnable := by decide +kernel
set_option maxRecDepth 65536 in
theorem w_alone : about1.alone = true := by decide +kernel
set_option maxRecDepth 65536 in
theorem w_named : about1.methodNamed? x = some theMethod := by decide +kernel
set_option maxRecDepth 65536 in
theorem w_hears : about1.hears theMethod below0 = true := by decide +kernel
set_option maxRecDepth 65536 in
theorem w_ripe : about1.ripe theMethod args0 below0 = true := by decide +kernel
theorem w_running : about1.status = .running := rfl
set_option maxRecDepth 65536 in
theorem w_room : about1.hasRoom e0.platform room_1 = true :=
  launch0.hasRoom_least _ room_1 (by decide +kernel) (by decide +kernel) (by decide +kernel) (by decide +kernel) (by decide +kernel) (by decide +kernel)
theorem allAtoms_all (ts : List Jvm.Cond) (a : Array Jvm.Value) (st : Jvm.State) : (allAtoms ts).before a st = ts.all (fun c => c.before a st) := by
  induction ts with
  | nil => rfl
  | cons c t ih =>
    show (Jvm.Cond.and c (allAtoms t)).before a st = _
    rw [Jvm.Cond.before_and, ih, List.all_cons]
def words1 : List Jvm.Cond := Jvm.Cond.code x code maxLocals ret :: tables_1
/-- a 'code' word, met by the world's own term for the bytes: nothing is compared byte by byte -/
theorem code_word {y : MethodName} {bytes : ByteArray} {mx : Nat} {rt : Option FieldType} {a : Array Value} {s : State} {m : MethodId} {meth : Method} {c : Code} (h1 : s.methodNamed? y = some m) (h2 : s.vm.method? m = some meth) (h3 : meth.code = some c) (h4 : c.code = bytes)
    (h5 : (c.maxLocals == mx && c.exceptionTable.isEmpty && decide (c.maxStack ≤ mostOperands) && decide (meth.sig.returnType = rt) && !meth.locks && decide (parseMethodDescriptor y.desc = some meth.sig)) = true) : (Jvm.Cond.code y bytes mx rt).before a s = true := by
  simp only [Bool.and_eq_true, beq_iff_eq, Bool.not_eq_true', decide_eq_true_eq] at h5
  obtain ⟨⟨⟨⟨⟨g1, g2⟩, g3⟩, g4⟩, g5⟩, g6⟩ := h5
  simp [Cond.before, Cond.holds, Cond.value, h1, h2, h3, h4, g1, g2, g3, g4, g5, g6]
def isCode : Jvm.Cond → Bool
  | .code _ _ _ _ => true
  | _ => false
theorem all_split {L : List Jvm.Cond} {P : Jvm.Cond → Bool} (h1 : L.all (fun c => isCode c || P c) = true) (h2 : ∀ c ∈ L.filter isCode, P c = true) : L.all P = true := by
  refine List.all_eq_true.mpr fun c hc => ?_
  have h := List.all_eq_true.mp h1 c hc
  rcases Bool.eq_false_or_eq_true (isCode c) with hi | hi
  · exact h2 c (List.mem_filter.mpr ⟨hc, hi⟩)
  · simpa [hi] using h
set_option maxRecDepth 65536 in
theorem w_c0 : (Jvm.Cond.code x code maxLocals ret).before args0 about1 = true := code_word (m := ⟨1, 1⟩) (meth := k1m1) (c := k1c1) (by decide +kernel) rfl rfl rfl (by decide +kernel)
set_option maxRecDepth 65536 in
theorem w_c1 : (Jvm.Cond.code ({ cls := "com/example/quorumvote/quorumvote/simulation/SimulatedLog", name := "<init>", desc := "()V" } : Jvm.MethodName) prog_203_method_1_code (1 : Nat) (Option.none : Option Jvm.ClassFile.FieldType)).before args0 about1 = true := code_word (m := ⟨2, 0⟩) (meth := k2m0) (c := k2c0) (by decide +kernel) rfl rfl rfl (by decide +kernel)
set_option maxRecDepth 65536 in
theorem w_c2 : (Jvm.Cond.code ({ cls := "com/example/quorumvote/quorumvote/simulation/SimulatedLog", name := "<init>", desc := "([J[JI)V" } : Jvm.MethodName) prog_203_method_2_code (4 : Nat) (Option.none : Option Jvm.ClassFile.FieldType)).before args0 about1 = true := code_word (m := ⟨2, 1⟩) (meth := k2m1) (c := k2c1) (by decide +kernel) rfl rfl rfl (by decide +kernel)
set_option maxRecDepth 65536 in
theorem w_c3 : (Jvm.Cond.code ({ cls := "java/lang/Object", name := "<init>", desc := "()V" } : Jvm.MethodName) object_method_1_code (1 : Nat) (Option.none : Option Jvm.ClassFile.FieldType)).before args0 about1 = true := code_word (m := ⟨0, 0⟩) (meth := k0m0) (c := k0c0) (by decide +kernel) rfl rfl rfl (by decide +kernel)
set_option maxRecDepth 65536 in
theorem w_c4 : (Jvm.Cond.code ({ cls := "com/example/quorumvote/quorumvote/simulation/SimulatedLog", name := "placeAtOrBelow", desc := "(J)I" } : Jvm.MethodName) prog_203_method_18_code (6 : Nat) (Option.some Jvm.ClassFile.FieldType.int)).before args0 about1 = true := code_word (m := ⟨2, 2⟩) (meth := k2m2) (c := k2c2) (by decide +kernel) rfl rfl rfl (by decide +kernel)
set_option maxRecDepth 65536 in
theorem w_c5 : (Jvm.Cond.code ({ cls := "com/example/quorumvote/quorumvote/simulation/SimulatedLogPlaceAtOrBelowPinLaw", name := "at", desc := "(IIJJ)I" } : Jvm.MethodName) method_3_code (6 : Nat) (Option.some Jvm.ClassFile.FieldType.int)).before args0 about1 = true := code_word (m := ⟨1, 2⟩) (meth := k1m2) (c := k1c2) (by decide +kernel) rfl rfl rfl (by decide +kernel)
set_option maxRecDepth 65536 in
theorem w_c6 : (Jvm.Cond.code ({ cls := "com/example/quorumvote/quorumvote/simulation/SimulatedLog", name := "append", desc := "(JJJ)V" } : Jvm.MethodName) prog_203_method_19_code (7 : Nat) (Option.none : Option Jvm.ClassFile.FieldType)).before args0 about1 = true := code_word (m := ⟨2, 3⟩) (meth := k2m3) (c := k2c3) (by decide +kernel) rfl rfl rfl (by decide +kernel)
def codes1 : List Jvm.Cond := [Jvm.Cond.code x code maxLocals ret, Jvm.Cond.code ({ cls := "com/example/quorumvote/quorumvote/simulation/SimulatedLog", name := "<init>", desc := "()V" } : Jvm.MethodName) prog_203_method_1_code (1 : Nat) (Option.none : Option Jvm.ClassFile.FieldType), Jvm.Cond.code ({ cls := "com/example/quorumvote/quorumvote/simulation/SimulatedLog", name := "<init>", desc := "([J[JI)V" } : Jvm.MethodName) prog_203_method_2_code (4 : Nat) (Option.none : Option Jvm.ClassFile.FieldType), Jvm.Cond.code ({ cls := "java/lang/Object", name := "<init>", desc := "()V" } : Jvm.MethodName) object_method_1_code (1 : Nat) (Option.none : Option Jvm.ClassFile.FieldType), Jvm.Cond.code ({ cls := "com/example/quorumvote/quorumvote/simulation/SimulatedLog", name := "placeAtOrBelow", desc := "(J)I" } : Jvm.MethodName) prog_203_method_18_code (6 : Nat) (Option.some Jvm.ClassFile.FieldType.int), Jvm.Cond.code ({ cls := "com/example/quorumvote/quorumvote/simulation/SimulatedLogPlaceAtOrBelowPinLaw", name := "at", desc := "(IIJJ)I" } : Jvm.MethodName) method_3_code (6 : Nat) (Option.some Jvm.ClassFile.FieldType.int), Jvm.Cond.code ({ cls := "com/example/quorumvote/quorumvote/simulation/SimulatedLog", name := "append", desc := "(JJJ)V" } : Jvm.MethodName) prog_203_method_19_code (7 : Nat) (Option.none : Option Jvm.ClassFile.FieldType)]
set_option maxRecDepth 65536 in
theorem codes_eq : words1.filter isCode = codes1 := rfl
theorem w_codes : ∀ c ∈ words1.filter isCode, c.before args0 about1 = true := by
  rw [codes_eq]
  intro c hc
  simp only [codes1, List.mem_cons, List.not_mem_nil, or_false] at hc
  rcases hc with rfl | rfl | rfl | rfl | rfl | rfl | rfl
  · exact w_c0
  · exact w_c1
  · exact w_c2
  · exact w_c3
  · exact w_c4
  · exact w_c5
  · exact w_c6
set_option maxRecDepth 65536 in
theorem w_t1 : (words1.take 24).all (fun c => isCode c || c.before args0 about1) = true := by decide +kernel
set_option maxRecDepth 65536 in
theorem w_t2 : (words1.drop 24).all (fun c => isCode c || c.before args0 about1) = true := by decide +kernel
theorem w_tables : (allAtoms (Jvm.Cond.code x code maxLocals ret :: tables_1)).before args0 about1 = true := by
  rw [allAtoms_all]
  show words1.all (fun c => c.before args0 about1) = true
  refine all_split ?_ w_codes
  rw [← List.take_append_drop 24 words1, List.all_append, w_t1, w_t2]
  rfl
set_option maxRecDepth 65536 in
theorem w_case : (Jvm.Cond.and given_1 narrow_1).before args0 about1 = true := by decide +kernel
theorem w_applies : (headSpec (Jvm.Cond.code x code maxLocals ret :: tables_1) room_1).applies x e0.platform about1 = true :=
  (Spec.applies_iff w_frames).mpr ⟨w_running, w_runnable, w_alone, w_named, w_hears, w_ripe, w_room, w_tables⟩
theorem atStart : AtStart classFile x code maxLocals ret World_1 tables_1 room_1 Calls_1 rest_1 Pre_1 launch0 p0 e0 about1 theMethod args0 below0 :=
  ⟨lists_1, trivial, launch0.admits_env _ _ _, launch0.least_env, fairChoices_fair.cas, fairChoices_fair.clock, w_frames, w_args, w_heap, w_applies, trivial, trivial, w_case⟩
end start1
theorem witness_1 : WitnessClaimed_1 := ⟨start1.p0, start1.e0, start1.about1, start1.theMethod, start1.args0, start1.below0, start1.atStart⟩
end Jvm.Pilot.@@N@@
