import JvmDerived
import JvmDerived.Pilot.@@N@@Statement
import JvmDerived.Pilot.@@N@@Code
set_option linter.unusedVariables false
set_option linter.unusedSimpArgs false
namespace Jvm.Pilot.@@N@@
open Jvm Jvm.ClassFile Sem Op Lib Jvm.Free Jvm.Stand Jvm.LawKit Jvm.RoadKit Bundle Jvm.Pilot.@@N@@.Jvm.D
section Own
variable {p : Program} {l : Launch} {e : Env} {R : Room} {s : State} {m : MethodId} {args : Array Value} {below : List Frame} {meth : Method} {c : Code} {T : State} {locs : List Loc} {cells slots : Nat} {Z : State} {h h' : Heap} {a b : Addr} {n k : Nat}
/-- a function with one place turned -/
def owUp {α : Type} (f : Nat → α) (k : Nat) (v : α) : Nat → α := fun i => if i = k then v else f i
theorem owUp_at {α : Type} {f : Nat → α} {k : Nat} {v : α} : owUp f k v k = v := if_pos rfl
theorem owUp_ne {α : Type} {f : Nat → α} {k i : Nat} {v : α} (q : i ≠ k) : owUp f k v i = f i := if_neg q
theorem owUpP {α : Type} {P : α → Prop} {f : Nat → α} {k : Nat} {v : α} (hf : ∀ i, P (f i)) (hv : P v) : ∀ i, P (owUp f k v i) := fun i => by
  by_cases q : i = k
  · rw [q, owUp_at]; exact hv
  · rw [owUp_ne q]; exact hf i
theorem owIdx {j : Int32} {k : Nat} (hj : j.toInt = (k : Int)) : j.toNatClampNeg = k := by
  have q : j.toNatClampNeg = j.toInt.toNat := rfl
  rw [q, hj]; rfl
theorem owIn {j : Int32} {k n sz : Nat} (hj : j.toInt = (k : Int)) (hk : k < n) (hs : sz = n) : ¬ (j < 0 ∨ sz ≤ j.toNatClampNeg) := by
  rw [owIdx hj, Int32.lt_iff_toInt_lt, hj, hs]
  have q : (0 : Int32).toInt = 0 := rfl
  omega
theorem owSlot {cl : Cell} {k i : Nat} {v : Value} (hk : k < cl.slots.size) : (cl.setSlot k v).slots[i]? = if i = k then some v else cl.slots[i]? := by
  by_cases q : i = k
  · subst q; rw [if_pos rfl]; simp [Cell.setSlot, hk]
  · rw [if_neg q]; exact Array.getElem?_setIfInBounds_ne (Ne.symm q)
/-- an array of ints (bytes, chars ..) whose components a function tells -/
def owAI (Z : State) (h : Heap) (a : Addr) (ty : FieldType) (n : Nat) (f : Nat → Int32) : Prop := ∃ c : Cell, Arr Z h a c ty ∧ c.slots.size = n ∧ ∀ i, i < n → c.slots[i]? = some (.int (f i))
/-- an array of longs -/
def owAJ (Z : State) (h : Heap) (a : Addr) (ty : FieldType) (n : Nat) (f : Nat → Int64) : Prop := ∃ c : Cell, Arr Z h a c ty ∧ c.slots.size = n ∧ ∀ i, i < n → c.slots[i]? = some (.long (f i))
theorem owAI.lt {ty : FieldType} {f : Nat → Int32} (F : owAI Z h a ty n f) : a < h.size := by obtain ⟨c, A, -⟩ := F; exact A.lt
theorem owAI.ext {ty : FieldType} {f : Nat → Int32} (F : owAI Z h a ty n f) (E : Ext h h') : owAI Z h' a ty n f := by obtain ⟨c, A, r⟩ := F; exact ⟨c, A.ext E, r⟩
theorem owAI.other {ty : FieldType} {f : Nat → Int32} {sl : Nat} {v : Value} (F : owAI Z h b ty n f) (W : Wr h h' a sl v) (q : b ≠ a) : owAI Z h' b ty n f := by obtain ⟨c, A, r⟩ := F; exact ⟨c, A.other W q, r⟩
theorem owAI.keep {ty : FieldType} {f : Nat → Int32} {ws : List Addr} (F : owAI Z h a ty n f) (K : Keep h h' ws) (q : a ∉ ws) : owAI Z h' a ty n f := by obtain ⟨c, A, r⟩ := F; exact ⟨c, ⟨K.2.1 a c A.1 q, A.2⟩, r⟩
theorem owAJ.lt {ty : FieldType} {f : Nat → Int64} (F : owAJ Z h a ty n f) : a < h.size := by obtain ⟨c, A, -⟩ := F; exact A.lt
theorem owAJ.ext {ty : FieldType} {f : Nat → Int64} (F : owAJ Z h a ty n f) (E : Ext h h') : owAJ Z h' a ty n f := by obtain ⟨c, A, r⟩ := F; exact ⟨c, A.ext E, r⟩
theorem owAJ.other {ty : FieldType} {f : Nat → Int64} {sl : Nat} {v : Value} (F : owAJ Z h b ty n f) (W : Wr h h' a sl v) (q : b ≠ a) : owAJ Z h' b ty n f := by obtain ⟨c, A, r⟩ := F; exact ⟨c, A.other W q, r⟩
theorem owAJ.keep {ty : FieldType} {f : Nat → Int64} {ws : List Addr} (F : owAJ Z h a ty n f) (K : Keep h h' ws) (q : a ∉ ws) : owAJ Z h' a ty n f := by obtain ⟨c, A, r⟩ := F; exact ⟨c, ⟨K.2.1 a c A.1 q, A.2⟩, r⟩
theorem owAI.new {ty : FieldType} {k : ClassId} {z : Int32} (A : Arr Z h a (newA k ty z) ty) (hz : z.toInt = (n : Int)) (hd : defaultValue ty = .int 0) : owAI Z h a ty n (fun _ => 0) :=
  ⟨_, A, by rw [sz_new]; exact owIdx hz, fun i hi => by rw [← hd]; simp [newA, owIdx hz, hi]⟩
theorem owAJ.new {ty : FieldType} {k : ClassId} {z : Int32} (A : Arr Z h a (newA k ty z) ty) (hz : z.toInt = (n : Int)) (hd : defaultValue ty = .long 0) : owAJ Z h a ty n (fun _ => 0) :=
  ⟨_, A, by rw [sz_new]; exact owIdx hz, fun i hi => by rw [← hd]; simp [newA, owIdx hz, hi]⟩
theorem owAI.to {ty : FieldType} {f g : Nat → Int32} (F : owAI Z h a ty n f) (q : ∀ i, i < n → f i = g i) : owAI Z h a ty n g := by
  obtain ⟨c, A, S, H⟩ := F; exact ⟨c, A, S, fun i hi => by rw [H i hi, q i hi]⟩
theorem owAJ.to {ty : FieldType} {f g : Nat → Int64} (F : owAJ Z h a ty n f) (q : ∀ i, i < n → f i = g i) : owAJ Z h a ty n g := by
  obtain ⟨c, A, S, H⟩ := F; exact ⟨c, A, S, fun i hi => by rw [H i hi, q i hi]⟩
theorem owLdB (X : Stand p l e R s m args below meth c T locs cells slots) (hx : p.tables.exec = Jvm.exec) (hZ : Z.Warmed39 s.vm) (eT : T.heap = h) {f : Nat → Int32} (A : owAI Z h a .byte n f) {j : Int32} (hj : j.toInt = (k : Int)) (hk : k < n) {g : JFrame} (hg : g.method = m) {rest : List Value} (hs : g.stack = .int j :: .ref a :: rest) (hd : decode c.code g.pc = .ok (.baload, 1)) (target : State) (kt : Steps p.tables e below (T.setTop { g with pc := g.pc + 1, stack := .int (f k) :: rest }) target) : Steps p.tables e below (T.setTop g) target := by
  obtain ⟨cl, Ar, S, H⟩ := A
  exact X.baloadBytes hx (by rw [eT]; exact Ar.1) (State.isArrayOf_alike hZ.alike Ar.2.1) Ar.2.2 (owIn hj hk S) (by rw [owIdx hj]; exact H k hk) hg hs hd target kt
theorem owLdC (X : Stand p l e R s m args below meth c T locs cells slots) (hx : p.tables.exec = Jvm.exec) (hZ : Z.Warmed39 s.vm) (eT : T.heap = h) {f : Nat → Int32} (A : owAI Z h a .char n f) {j : Int32} (hj : j.toInt = (k : Int)) (hk : k < n) {g : JFrame} (hg : g.method = m) {rest : List Value} (hs : g.stack = .int j :: .ref a :: rest) (hd : decode c.code g.pc = .ok (.caload, 1)) (target : State) (kt : Steps p.tables e below (T.setTop { g with pc := g.pc + 1, stack := .int (f k) :: rest }) target) : Steps p.tables e below (T.setTop g) target := by
  obtain ⟨cl, Ar, S, H⟩ := A
  exact X.caload hx (by rw [eT]; exact Ar.1) (State.isArrayOf_alike hZ.alike Ar.2.1) Ar.2.2 (owIn hj hk S) (by rw [owIdx hj]; exact H k hk) hg hs hd target kt
theorem owLdI (X : Stand p l e R s m args below meth c T locs cells slots) (hx : p.tables.exec = Jvm.exec) (hZ : Z.Warmed39 s.vm) (eT : T.heap = h) {f : Nat → Int32} (A : owAI Z h a .int n f) {j : Int32} (hj : j.toInt = (k : Int)) (hk : k < n) {g : JFrame} (hg : g.method = m) {rest : List Value} (hs : g.stack = .int j :: .ref a :: rest) (hd : decode c.code g.pc = .ok (.iaload, 1)) (target : State) (kt : Steps p.tables e below (T.setTop { g with pc := g.pc + 1, stack := .int (f k) :: rest }) target) : Steps p.tables e below (T.setTop g) target := by
  obtain ⟨cl, Ar, S, H⟩ := A
  exact X.iaload hx (by rw [eT]; exact Ar.1) (State.isArrayOf_alike hZ.alike Ar.2.1) Ar.2.2 (owIn hj hk S) (by rw [owIdx hj]; exact H k hk) hg hs hd target kt
theorem owLdJ (X : Stand p l e R s m args below meth c T locs cells slots) (hx : p.tables.exec = Jvm.exec) (hZ : Z.Warmed39 s.vm) (eT : T.heap = h) {f : Nat → Int64} (A : owAJ Z h a .long n f) {j : Int32} (hj : j.toInt = (k : Int)) (hk : k < n) {g : JFrame} (hg : g.method = m) {rest : List Value} (hs : g.stack = .int j :: .ref a :: rest) (hd : decode c.code g.pc = .ok (.laload, 1)) (target : State) (kt : Steps p.tables e below (T.setTop { g with pc := g.pc + 1, stack := .long (f k) :: rest }) target) : Steps p.tables e below (T.setTop g) target := by
  obtain ⟨cl, Ar, S, H⟩ := A
  exact X.laload hx (by rw [eT]; exact Ar.1) (State.isArrayOf_alike hZ.alike Ar.2.1) Ar.2.2 (owIn hj hk S) (by rw [owIdx hj]; exact H k hk) hg hs hd target kt
/-- an array of objects -/
def owAR (Z : State) (h : Heap) (a : Addr) (ty : FieldType) (n : Nat) (f : Nat → Addr) : Prop := ∃ c : Cell, Arr Z h a c ty ∧ c.slots.size = n ∧ ∀ i, i < n → c.slots[i]? = some (.ref (f i))
theorem owAR.lt {ty : FieldType} {f : Nat → Addr} (F : owAR Z h a ty n f) : a < h.size := by obtain ⟨c, A, -⟩ := F; exact A.lt
theorem owAR.ext {ty : FieldType} {f : Nat → Addr} (F : owAR Z h a ty n f) (E : Ext h h') : owAR Z h' a ty n f := by obtain ⟨c, A, r⟩ := F; exact ⟨c, A.ext E, r⟩
theorem owAR.other {ty : FieldType} {f : Nat → Addr} {sl : Nat} {v : Value} (F : owAR Z h b ty n f) (W : Wr h h' a sl v) (q : b ≠ a) : owAR Z h' b ty n f := by obtain ⟨c, A, r⟩ := F; exact ⟨c, A.other W q, r⟩
theorem owAR.keep {ty : FieldType} {f : Nat → Addr} {ws : List Addr} (F : owAR Z h a ty n f) (K : Keep h h' ws) (q : a ∉ ws) : owAR Z h' a ty n f := by obtain ⟨c, A, r⟩ := F; exact ⟨c, ⟨K.2.1 a c A.1 q, A.2⟩, r⟩
theorem owLdR (X : Stand p l e R s m args below meth c T locs cells slots) (hx : p.tables.exec = Jvm.exec) (hZ : Z.Warmed39 s.vm) (eT : T.heap = h) {ty : FieldType} {f : Nat → Addr} (A : owAR Z h a ty n f) (hty : ty.isReference = true) {j : Int32} (hj : j.toInt = (k : Int)) (hk : k < n) {g : JFrame} (hg : g.method = m) {rest : List Value} (hs : g.stack = .int j :: .ref a :: rest) (hd : decode c.code g.pc = .ok (.aaload, 1)) (target : State) (kt : Steps p.tables e below (T.setTop { g with pc := g.pc + 1, stack := .ref (f k) :: rest }) target) : Steps p.tables e below (T.setTop g) target := by
  obtain ⟨cl, Ar, S, H⟩ := A
  exact X.aaload hx (by rw [eT]; exact Ar.1) (State.isArrayOf_alike hZ.alike Ar.2.1) hty Ar.2.2 (owIn hj hk S) (by rw [owIdx hj]; exact H k hk) hg hs hd target kt
theorem owLenI (X : Stand p l e R s m args below meth c T locs cells slots) (hx : p.tables.exec = Jvm.exec) (hZ : Z.Warmed39 s.vm) (eT : T.heap = h) {ty : FieldType} {f : Nat → Int32} (A : owAI Z h a ty n f) {z : Int32} (hz : n.toInt32 = z) {g : JFrame} (hg : g.method = m) {rest : List Value} (hs : g.stack = .ref a :: rest) (hd : decode c.code g.pc = .ok (.arraylength, 1)) (target : State) (kt : Steps p.tables e below (T.setTop { g with pc := g.pc + 1, stack := .int z :: rest }) target) : Steps p.tables e below (T.setTop g) target := by
  obtain ⟨cl, Ar, S, H⟩ := A
  exact X.arraylength hx (by rw [eT]; exact Ar.1) (State.isArrayOf_alike hZ.alike Ar.2.1) hg hs hd target (by rw [S, hz]; exact kt)
theorem owLenJ (X : Stand p l e R s m args below meth c T locs cells slots) (hx : p.tables.exec = Jvm.exec) (hZ : Z.Warmed39 s.vm) (eT : T.heap = h) {ty : FieldType} {f : Nat → Int64} (A : owAJ Z h a ty n f) {z : Int32} (hz : n.toInt32 = z) {g : JFrame} (hg : g.method = m) {rest : List Value} (hs : g.stack = .ref a :: rest) (hd : decode c.code g.pc = .ok (.arraylength, 1)) (target : State) (kt : Steps p.tables e below (T.setTop { g with pc := g.pc + 1, stack := .int z :: rest }) target) : Steps p.tables e below (T.setTop g) target := by
  obtain ⟨cl, Ar, S, H⟩ := A
  exact X.arraylength hx (by rw [eT]; exact Ar.1) (State.isArrayOf_alike hZ.alike Ar.2.1) hg hs hd target (by rw [S, hz]; exact kt)
theorem owSetI {ty : FieldType} {f : Nat → Int32} {cl : Cell} {x : Int32} (Ar : Arr Z h a cl ty) (S : cl.slots.size = n) (H : ∀ i, i < n → cl.slots[i]? = some (.int (f i))) (hk : k < n) (W : Wr h h' a k (.int x)) : owAI Z h' a ty n (owUp f k x) :=
  ⟨cl.setSlot k (.int x), Ar.same W, by rw [sz_set]; exact S, fun i hi => by
    rw [owSlot (by omega)]
    by_cases q : i = k
    · rw [if_pos q, q, owUp_at]
    · rw [if_neg q, owUp_ne q]; exact H i hi⟩
theorem owSetJ {ty : FieldType} {f : Nat → Int64} {cl : Cell} {x : Int64} (Ar : Arr Z h a cl ty) (S : cl.slots.size = n) (H : ∀ i, i < n → cl.slots[i]? = some (.long (f i))) (hk : k < n) (W : Wr h h' a k (.long x)) : owAJ Z h' a ty n (owUp f k x) :=
  ⟨cl.setSlot k (.long x), Ar.same W, by rw [sz_set]; exact S, fun i hi => by
    rw [owSlot (by omega)]
    by_cases q : i = k
    · rw [if_pos q, q, owUp_at]
    · rw [if_neg q, owUp_ne q]; exact H i hi⟩
theorem owStB (X : Stand p l e R s m args below meth c T locs cells slots) (hx : p.tables.exec = Jvm.exec) (hZ : Z.Warmed39 s.vm) (eT : T.heap = h) {f : Nat → Int32} (A : owAI Z h a .byte n f) {j x : Int32} (hj : j.toInt = (k : Int)) (hk : k < n) {g : JFrame} (hg : g.method = m) {rest : List Value} (hs : g.stack = .int x :: .int j :: .ref a :: rest) (hd : decode c.code g.pc = .ok (.bastore, 1)) :
    ∃ T' h', Stand p l e R s m args below meth c T' (locs ++ [⟨a, k⟩]) cells slots ∧ T'.heap = h' ∧ Wr h h' a k (.int x.toInt8.toInt32) ∧ owAI Z h' a .byte n (owUp f k x.toInt8.toInt32) ∧ ∀ target, Steps p.tables e below (T'.setTop { g with pc := g.pc + 1, stack := rest }) target → Steps p.tables e below (T.setTop g) target := by
  obtain ⟨cl, Ar, S, H⟩ := A
  have st := stB X hx hZ eT Ar (j := j) (owIn hj hk S) hg hs hd
  rw [owIdx hj] at st
  obtain ⟨T', h', X', e', W, st⟩ := st
  exact ⟨T', h', X', e', W, owSetI Ar S H hk W, st⟩
theorem owStC (X : Stand p l e R s m args below meth c T locs cells slots) (hx : p.tables.exec = Jvm.exec) (hZ : Z.Warmed39 s.vm) (eT : T.heap = h) {f : Nat → Int32} (A : owAI Z h a .char n f) {j x : Int32} (hj : j.toInt = (k : Int)) (hk : k < n) {g : JFrame} (hg : g.method = m) {rest : List Value} (hs : g.stack = .int x :: .int j :: .ref a :: rest) (hd : decode c.code g.pc = .ok (.castore, 1)) :
    ∃ T' h', Stand p l e R s m args below meth c T' (locs ++ [⟨a, k⟩]) cells slots ∧ T'.heap = h' ∧ Wr h h' a k (.int x.toUInt32.toUInt16.toUInt32.toInt32) ∧ owAI Z h' a .char n (owUp f k x.toUInt32.toUInt16.toUInt32.toInt32) ∧ ∀ target, Steps p.tables e below (T'.setTop { g with pc := g.pc + 1, stack := rest }) target → Steps p.tables e below (T.setTop g) target := by
  obtain ⟨cl, Ar, S, H⟩ := A
  have st := stC X hx hZ eT Ar (j := j) (owIn hj hk S) hg hs hd
  rw [owIdx hj] at st
  obtain ⟨T', h', X', e', W, st⟩ := st
  exact ⟨T', h', X', e', W, owSetI Ar S H hk W, st⟩
theorem owStI (X : Stand p l e R s m args below meth c T locs cells slots) (hx : p.tables.exec = Jvm.exec) (hZ : Z.Warmed39 s.vm) (eT : T.heap = h) {f : Nat → Int32} (A : owAI Z h a .int n f) {j x : Int32} (hj : j.toInt = (k : Int)) (hk : k < n) {g : JFrame} (hg : g.method = m) {rest : List Value} (hs : g.stack = .int x :: .int j :: .ref a :: rest) (hd : decode c.code g.pc = .ok (.iastore, 1)) :
    ∃ T' h', Stand p l e R s m args below meth c T' (locs ++ [⟨a, k⟩]) cells slots ∧ T'.heap = h' ∧ Wr h h' a k (.int x) ∧ owAI Z h' a .int n (owUp f k x) ∧ ∀ target, Steps p.tables e below (T'.setTop { g with pc := g.pc + 1, stack := rest }) target → Steps p.tables e below (T.setTop g) target := by
  obtain ⟨cl, Ar, S, H⟩ := A
  have st := stI X hx hZ eT Ar (j := j) (owIn hj hk S) hg hs hd
  rw [owIdx hj] at st
  obtain ⟨T', h', X', e', W, st⟩ := st
  exact ⟨T', h', X', e', W, owSetI Ar S H hk W, st⟩
theorem owStJ (X : Stand p l e R s m args below meth c T locs cells slots) (hx : p.tables.exec = Jvm.exec) (hZ : Z.Warmed39 s.vm) (eT : T.heap = h) {f : Nat → Int64} (A : owAJ Z h a .long n f) {j : Int32} {x : Int64} (hj : j.toInt = (k : Int)) (hk : k < n) {g : JFrame} (hg : g.method = m) {rest : List Value} (hs : g.stack = .long x :: .int j :: .ref a :: rest) (hd : decode c.code g.pc = .ok (.lastore, 1)) :
    ∃ T' h', Stand p l e R s m args below meth c T' (locs ++ [⟨a, k⟩]) cells slots ∧ T'.heap = h' ∧ Wr h h' a k (.long x) ∧ owAJ Z h' a .long n (owUp f k x) ∧ ∀ target, Steps p.tables e below (T'.setTop { g with pc := g.pc + 1, stack := rest }) target → Steps p.tables e below (T.setTop g) target := by
  obtain ⟨cl, Ar, S, H⟩ := A
  have st := stJ X hx hZ eT Ar (j := j) (owIn hj hk S) hg hs hd
  rw [owIdx hj] at st
  obtain ⟨T', h', X', e', W, st⟩ := st
  exact ⟨T', h', X', e', W, owSetJ Ar S H hk W, st⟩
theorem owSel {s : State} {args : Array Value} {y : MethodName} {n : Nat} (hi : (Cond.instantiable y.cls n).before args s = true) (hpriv : s.PrivateAt y) (hinst : (Cond.instanceMethod y).before args s = true) (hy : y.cls ≠ "java/lang/invoke/MethodHandle" ∧ y.cls ≠ "java/lang/invoke/VarHandle") : (Cond.selects y.cls y y).before args s = true := by
  obtain ⟨c, k, h1, h2, -, h4, -⟩ := Cond.instantiable_spec hi
  have h5 : k.isInterface = false := by cases hq : k.isInterface <;> simp_all
  exact selects_self_of_private h1 h2 h5 hpriv hinst hy
theorem owRetI (X : Stand p l e R s m args below meth c T locs cells slots) (hx : p.tables.exec = Jvm.exec) {pc : Nat} {Ls : Array Slot} {z : Int32} (hret : meth.sig.returnType = some .int) (hd : decode c.code pc = .ok (.ireturn, 1)) {fs : List Frame}
    (hl : ∀ (f : JFrame) (acts : List Action), f.method = m → f.locked = none → f.entered = [] → (doReturn e (T.setTop f) acts (some (.int z))).1 = T.setFrames fs) : Steps p.tables e below (T.setTop (mkF m pc Ls [.int z])) (T.setFrames fs) :=
  X.ireturnOut hx hret rfl (Or.inl rfl) hd hl
end Own
section OwnCopy
variable {p : Program} {l : Launch} {e : Env} {R : Room} {s : State} {m : MethodId} {args : Array Value} {below : List Frame} {meth : Method} {c : Code} {T : State} {locs : List Loc} {cells slots : Nat} {Z : State} {h h' : Heap} {a b : Addr} {n k : Nat}
theorem owArv {ty : FieldType} {f : Nat → Int32} {z : Int32} (A : owAI Z h a ty n f) (hz : z.toInt = (n : Int)) (hf : ∀ i, i < n → fits ty (.int (f i)) = true) : ∃ k, Arv Z h a k ty z ((List.range n).map fun i => Value.int (f i)) (.int 0) := by
  obtain ⟨c, Ar, S, H⟩ := A
  have g : ∀ i, i < n → ((List.range n).map fun i => Value.int (f i)).getD i (.int 0) = .int (f i) := fun i hi => by simp [List.getD, hi]
  refine ⟨c.cls, c, Ar, rfl, by rw [owIdx hz]; exact S, ?_, fun i hi => ?_, fun i hi => ?_⟩
  · rw [Int32.lt_iff_toInt_lt, hz]
    have q : (0 : Int32).toInt = 0 := rfl
    omega
  · rw [S] at hi; rw [H i hi, g i hi]
  · rw [S] at hi; rw [g i hi]; exact hf i hi
theorem owAI.of_arv {ty : FieldType} {z : Int32} {vs : List Value} {d : Value} {k : ClassId} {g : Nat → Int32} (F : Arv Z h a k ty z vs d) (hz : z.toInt = (n : Int)) (hv : ∀ i, i < n → vs.getD i d = .int (g i)) : owAI Z h a ty n g := by
  obtain ⟨c, A, q, S, N, H, G⟩ := F
  exact ⟨c, A, by rw [S]; exact owIdx hz, fun i hi => by rw [H i (by rw [S, owIdx hz]; exact hi), hv i hi]⟩
theorem owCp (X : Stand p l e R s m args below meth c T locs cells slots) (hx : p.tables.exec = Jvm.exec) (hZ : Z.Warmed39 s.vm) {a0 : Array Value} {own : String} {index : Nat} (hown : s.vm.findClass own = some m.cls)
    (w1 : (Cond.methodLink own index Jvm.Stand.acN).before a0 Z = true) (w2 : (Cond.native Jvm.Stand.acN).before a0 Z = true) (w3 : (Cond.static Jvm.Stand.acN).before a0 Z = true) (w4 : (Cond.initialized "java/lang/System").before a0 Z = true) (eT : T.heap = h)
    {ty : FieldType} (hty : refKind ty = false) {na nb : Nat} {fa fb : Nat → Int32} (A : owAI Z h a ty na fa) (B : owAI Z h b ty nb fb) (ga : ∀ i, i < na → fits ty (.int (fa i)) = true) (gb : ∀ i, i < nb → fits ty (.int (fb i)) = true)
    {sp dp nn : Int32} {ks kd kn : Nat} (h1 : sp.toInt = (ks : Int)) (h2 : dp.toInt = (kd : Int)) (h3 : nn.toInt = (kn : Int)) (h4 : ks + kn ≤ na) (h5 : kd + kn ≤ nb) (hna : na < 2147483648) (hnb : nb < 2147483648) {n0 : Nat} (N : Fr n0 locs) (ge : n0 ≤ b)
    {g : JFrame} (hg : g.method = m) (hsize : g.locals.size = c.maxLocals) {rest : List Value} (hs : g.stack = .int nn :: .int dp :: .ref b :: .int sp :: .ref a :: rest) (hd : decode c.code g.pc = .ok (.invokestatic index, 3))
    (hf : 1 ≤ R.frames) {W : Nat} (hW : 2 * g.monitorRoom + (rest.map fun v => v.category).sum ≤ W) (hlo : W + (nativeFrameWords "java/lang/System" "arraycopy" 5 + 11) ≤ R.locals) :
    ∃ T' h' L, Stand p l e R s m args below meth c T' L cells slots ∧ T'.heap = h' ∧ Fr n0 L ∧ Keep h h' [b] ∧ owAI Z h' b ty nb (fun i => if kd ≤ i ∧ i < kd + kn then fa (ks + (i - kd)) else fb i) ∧
      ∀ target, Steps p.tables e below (T'.setTop { g with pc := g.pc + 3, stack := rest }) target → Steps p.tables e below (T.setTop g) target := by
  have za : (Int32.ofNat na).toInt = (na : Int) := Int32.toInt_ofNat_of_lt (by omega)
  have zb : (Int32.ofNat nb).toInt = (nb : Int) := Int32.toInt_ofNat_of_lt (by omega)
  obtain ⟨ka, VA⟩ := owArv A za ga
  obtain ⟨kb, VB⟩ := owArv B zb gb
  have neg : ∀ {x : Int32} {j : Nat}, x.toInt = (j : Int) → ¬ x < 0 := fun {x j} hq => by
    rw [Int32.lt_iff_toInt_lt, hq]
    have q : (0 : Int32).toInt = 0 := rfl
    omega
  obtain ⟨T', h', L, X', e', N', K', V', st⟩ := cpA X hx hZ hown w1 w2 w3 w4 eT (us := (List.range nn.toNatClampNeg).map fun i => ((List.range na).map fun i => Value.int (fa i)).getD (sp.toNatClampNeg + i) (.int 0)) VA VB (Or.inl ⟨rfl, hty⟩) (neg h1) (neg h2) (neg h3) (by rw [owIdx h1, owIdx h3, owIdx za]; exact h4) (by rw [owIdx h2, owIdx h3, owIdx zb]; exact h5) rfl (by rw [owIdx h2, owIdx h3]; simpa using h5) N ge hg hsize hs hd hf hW hlo
  refine ⟨T', h', L, X', e', N', K', owAI.of_arv V' zb fun i hi => ?_, st⟩
  rw [owIdx h1, owIdx h2, owIdx h3]
  by_cases q1 : i < kd
  · have q2 : ¬ (kd ≤ i ∧ i < kd + kn) := by omega
    rw [if_neg q2]
    have l1 : i < min kd nb := by omega
    simp [List.getD, List.getElem?_append, List.getElem?_take, q1, hi, l1]
  · by_cases q3 : i < kd + kn
    · rw [if_pos ⟨by omega, q3⟩]
      have l1 : ¬ i < min kd nb := by omega
      have l2 : i - min kd nb < kn := by omega
      have l3 : ks + (i - min kd nb) < na := by omega
      have l4 : min kd nb = kd := by omega
      have l5 : ks + (i - kd) < na := by omega
      have l6 : i - kd < kn := by omega
      have l7 : i < min kd nb + kn := by omega
      simp [List.getD, List.getElem?_append, List.getElem?_drop, l1, l4, l5, l6, q1, q3]
    · rw [if_neg (by omega)]
      have l4 : min kd nb = kd := by omega
      have l6 : ¬ i - kd < kn := by omega
      have l8 : kd + kn + (i - (kd + kn)) = i := by omega
      have l9 : kd + kn + (i - kd - kn) = i := by omega
      simp [List.getD, List.getElem?_append, List.getElem?_drop, l4, l6, q1, q3, hi, l8, l9]
theorem owSel2 {s : State} {args : Array Value} {C : String} {y y' : MethodName} (hs : (Cond.selects C y' y').before args s = true) (hc : y'.cls = y.cls) (hpriv : s.PrivateAt y) (hinst : (Cond.instanceMethod y).before args s = true) (hy : y.cls ≠ "java/lang/invoke/MethodHandle" ∧ y.cls ≠ "java/lang/invoke/VarHandle") : (Cond.selects y.cls y y).before args s = true := by
  obtain ⟨c2, r2, m2, -, -, q3, -, kP, hkP, hkPi⟩ := Cond.selects_spec hs
  have q := findClass_of_methodNamed q3
  rw [hc] at q
  exact selects_self_of_private q hkP hkPi hpriv hinst hy
end OwnCopy

def EL1 : List (String × Nat) := [("com/example/fama/fama/table/JsonLineAtStringPinLaw", 30)]
theorem own_mem : (("com/example/fama/fama/table/JsonLineAtStringPinLaw", 30) : String × Nat) ∈ EL1 := List.mem_cons_self ..
theorem own_EW {Z : State} {a0 : Array Value} (hw : ∀ d ∈ tables_1, d.before a0 Z = true) : EW Z a0 EL1 := EW.cons (hw _ (List.mem_of_getElem? (i := 119) rfl)) (by decide) EW.nil
theorem own_wS {Z : State} {a0 : Array Value} (hw : ∀ d ∈ tables_1, d.before a0 Z = true) : ∀ a ∈ Bundle.stringAtoms, a.before a0 Z = true := by
  intro a h
  simp only [Bundle.stringAtoms, List.mem_cons, List.not_mem_nil, or_false] at h
  rcases h with rfl | rfl | rfl | rfl | rfl | rfl | rfl
  · exact (hw _ (List.mem_of_getElem? (i := 58) rfl))
  · exact (hw _ (List.mem_of_getElem? (i := 57) rfl))
  · exact (hw _ (List.mem_of_getElem? (i := 0) rfl))
  · exact (hw _ (List.mem_of_getElem? (i := 109) rfl))
  · exact (hw _ (List.mem_of_getElem? (i := 111) rfl))
  · exact (hw _ (List.mem_of_getElem? (i := 113) rfl))
  · exact (hw _ (List.mem_of_getElem? (i := 114) rfl))
def OB (fb : Nat → Int32) : Prop := fb 1 = (123 : Int32) ∧ fb 2 = (34 : Int32) ∧ fb 3 = (107 : Int32) ∧ fb 4 = (34 : Int32) ∧ fb 5 = (58 : Int32) ∧ ∀ i, -128 ≤ (fb i).toInt ∧ (fb i).toInt < 128
def OE (ie : Int32) : Prop := 6 ≤ ie.toInt ∧ ie.toInt ≤ 8
theorem own_lt {ie k : Int32} (h : OE ie) (hk : k.toInt < 6) : k < ie := by rw [Int32.lt_iff_toInt_lt]; have := h.1; omega
theorem own_nlt {ie : Int32} (h : OE ie) : ¬ (8 : Int32) < ie := by
  rw [Int32.lt_iff_toInt_lt]
  have := h.2
  have q : (8 : Int32).toInt = 8 := rfl
  omega
theorem own_ne {ie k : Int32} (h : OE ie) (hk : k.toInt < 6) : ¬ k = ie := by
  intro q
  rw [q] at hk
  have := h.1
  omega
theorem own_sub {ie : Int32} (h : OE ie) : ¬ (ie - (1 : Int32)) < (3 : Int32) := by
  have h1 := c_isub ie 1
  have h2 := rng32 ie
  have l1 : (1 : Int32).toInt = 1 := rfl
  have l3 : (3 : Int32).toInt = 3 := rfl
  have := h.1
  have := h.2
  have := rng32 (ie - 1)
  rw [Int32.lt_iff_toInt_lt]
  omega
def OST (Z : State) (u8 : Addr) (cs : Int32) (fmv : Value) : Prop := Sta Z Z.heap "java/nio/charset/StandardCharsets" "UTF_8" "Ljava/nio/charset/Charset;" (.ref u8) ∧ Sta Z Z.heap "sun/nio/cs/UTF_8" "INSTANCE" "Lsun/nio/cs/UTF_8;" (.ref u8) ∧ Exa Z Z.heap u8 "sun/nio/cs/UTF_8" ∧ Sta Z Z.heap "java/lang/String" "COMPACT_STRINGS" "Z" (.int cs) ∧ ¬ cs = (0 : Int32) ∧ Sta Z Z.heap "jdk/internal/util/Preconditions" "SIOOBE_FORMATTER" "Ljava/util/function/BiFunction;" fmv ∧ fmv.isRef = true
theorem own_fitb {n : Nat} {f : Nat → Int32} (h : ∀ i, -128 ≤ (f i).toInt ∧ (f i).toInt < 128) : ∀ i, i < n → fits .byte (.int (f i)) = true := fun i _ => by
  have q := h i
  simp only [fits, Bool.and_eq_true, decide_eq_true_eq, Int32.le_iff_toInt_le]
  have o : (-128 : Int32).toInt = -128 := rfl
  have o2 : (127 : Int32).toInt = 127 := rfl
  omega

theorem d1_0 : decode prog_30_method_1_code 0 = .ok (.aload_n 0, 1) := by decide +kernel
theorem d1_1 : decode prog_30_method_1_code 1 = .ok (.invokespecial 1, 3) := by decide +kernel
theorem d1_4 : decode prog_30_method_1_code 4 = .ok (.aload_n 0, 1) := by decide +kernel
theorem d1_5 : decode prog_30_method_1_code 5 = .ok (.iconst 1, 1) := by decide +kernel
theorem d1_6 : decode prog_30_method_1_code 6 = .ok (.putfield 7, 3) := by decide +kernel
theorem d1_9 : decode prog_30_method_1_code 9 = .ok (.aload_n 0, 1) := by decide +kernel
theorem d1_10 : decode prog_30_method_1_code 10 = .ok (.aload_n 1, 1) := by decide +kernel
theorem d1_11 : decode prog_30_method_1_code 11 = .ok (.putfield 13, 3) := by decide +kernel
theorem d1_14 : decode prog_30_method_1_code 14 = .ok (.aload_n 0, 1) := by decide +kernel
theorem d1_15 : decode prog_30_method_1_code 15 = .ok (.iload_n 2, 1) := by decide +kernel
theorem d1_16 : decode prog_30_method_1_code 16 = .ok (.putfield 17, 3) := by decide +kernel
theorem d1_19 : decode prog_30_method_1_code 19 = .ok (.aload_n 0, 1) := by decide +kernel
theorem d1_20 : decode prog_30_method_1_code 20 = .ok (.iload_n 3, 1) := by decide +kernel
theorem d1_21 : decode prog_30_method_1_code 21 = .ok (.putfield 21, 3) := by decide +kernel
theorem d1_24 : decode prog_30_method_1_code 24 = .ok (.aload_n 0, 1) := by decide +kernel
theorem d1_25 : decode prog_30_method_1_code 25 = .ok (.iload_n 2, 1) := by decide +kernel
theorem d1_26 : decode prog_30_method_1_code 26 = .ok (.putfield 24, 3) := by decide +kernel
theorem d1_29 : decode prog_30_method_1_code 29 = .ok (.return_, 1) := by decide +kernel
theorem pn_1 : plainName "com/example/fama/fama/table/JsonLine" = true := by first | (simp [plainName, overriddenIn]; done) | decide +kernel
theorem ef_1 (m : MethodId) (x0 : Addr) (x1 : Addr) (x2 : Int32) (x3 : Int32) : entryFrame m #[(.ref x0), (.ref x1), (.int x2), (.int x3)] 4 = mkF m 0 #[.val (.ref x0), .val (.ref x1), .val (.int x2), .val (.int x3)] [] := by first | (simp [entryFrame, mkF, argsToLocals, Value.category]; done) | rfl
def Q1 (Z : State) (a1 : Addr) (a2 : Addr) (p3 : Int32) (p4 : Int32) (h0 : Heap) (n0 : Nat) (v : Option Value) (h : Heap) (L : List Loc) : Prop := v = none ∧ Fr n0 L ∧ Keep h0 h [a1] ∧ Exa Z h a1 "com/example/fama/fama/table/JsonLine" ∧ Fld Z h a1 "com/example/fama/fama/table/JsonLine" "first" "Z" (.int (1 : Int32)) ∧ Fld Z h a1 "com/example/fama/fama/table/JsonLine" "bytes" "[B" (.ref a2) ∧ Fld Z h a1 "com/example/fama/fama/table/JsonLine" "start" "I" (.int p3) ∧ Fld Z h a1 "com/example/fama/fama/table/JsonLine" "end" "I" (.int p4) ∧ Fld Z h a1 "com/example/fama/fama/table/JsonLine" "at" "I" (.int p3)
set_option maxRecDepth 65536 in
set_option maxHeartbeats 40000000 in
theorem rm1 (l : Launch) (Z : State) (a0 : Array Value) (hw : ∀ d ∈ tables_1, d.before a0 Z = true) (ws : List Jvm.Cond) (a1 : Addr) (a2 : Addr) (p3 : Int32) (p4 : Int32) (h0 : Heap) (n0 : Nat) (Z0 : n0 ≤ h0.size) (E_a1 : Exa Z h0 a1 "com/example/fama/fama/table/JsonLine") (F_first : Fld Z h0 a1 "com/example/fama/fama/table/JsonLine" "first" "Z" (.int (0 : Int32))) (F_bytes : Fld Z h0 a1 "com/example/fama/fama/table/JsonLine" "bytes" "[B" .null) (F_start : Fld Z h0 a1 "com/example/fama/fama/table/JsonLine" "start" "I" (.int (0 : Int32))) (F_end : Fld Z h0 a1 "com/example/fama/fama/table/JsonLine" "end" "I" (.int (0 : Int32))) (F_at : Fld Z h0 a1 "com/example/fama/fama/table/JsonLine" "at" "I" (.int (0 : Int32))) (g_a1 : n0 ≤ a1) :
    MetFree l (⟨"com/example/fama/fama/table/JsonLine", "<init>", "([BII)V"⟩ : MethodName) (head1 (Jvm.Cond.code (⟨"com/example/fama/fama/table/JsonLine", "<init>", "([BII)V"⟩ : MethodName) prog_30_method_1_code 4 none :: ws) ({ frames := 1, cells := 0, slots := 0, locals := 12 } : Room)) (fun a U => a = #[(.ref a1), (.ref a2), (.int p3), (.int p4)] ∧ Z.Warmed39 U.vm ∧ U.heap = h0) (fun _ _ _ _ _ => True) (fun _ U o U' => ∃ v L, o = .returned v ∧ Q1 Z a1 a2 p3 p4 h0 n0 v U'.heap L ∧ FrameEnd U o U' L ({ frames := 1, cells := 0, slots := 0, locals := 12 } : Room).cells ({ frames := 1, cells := 0, slots := 0, locals := 12 } : Room).slots) := by
  refine MetFree.of_bodySF (plainFor_of_name pn_1) hisR ?_
  intro p e s m args below meth c s₁ Bd hml0 hP hK
  obtain ⟨rfl, hZ, hh⟩ := hP
  have hx := Bd.exec
  have hby := Bd.bytes
  have hml : c.maxLocals = 4 := hml0
  have hown : s.vm.findClass "com/example/fama/fama/table/JsonLine" = some m.cls := findClass_of_methodNamed Bd.named
  have hnm := (name_of_methodNamed Bd.named Bd.method).1
  have X0 : Stand p l e ({ frames := 1, cells := 0, slots := 0, locals := 12 } : Room) s m #[(.ref a1), (.ref a2), (.int p3), (.int p4)] below meth c s₁ [] 0 0 := Stand.of_body Bd
  have e0 : s₁.heap = h0 := by rw [← hh, Bd.state]; rfl
  have N0 := Fr.nil n0
  have pre0 : ∀ t, Steps p.tables e below (s₁.setTop (mkF m 0 #[.val (.ref a1), .val (.ref a2), .val (.int p3), .val (.int p4)] [])) t → Steps p.tables e below (s₁.setTop (entryFrame m #[(.ref a1), (.ref a2), (.int p3), (.int p4)] 4)) t := fun t k => castTop (ef_1 m a1 a2 p3 p4) k
  obtain ⟨T1, X1, hE1, st1⟩ := initO X0 hx hZ hown (hw _ (List.mem_of_getElem? (i := 8) rfl)) (hw _ (List.mem_of_getElem? (i := 9) rfl)) (hw _ (List.mem_of_getElem? (i := 10) rfl)) e0 (g := (mkF m 1 #[.val (.ref a1), .val (.ref a2), .val (.int p3), .val (.int p4)] [(.ref a1)])) rfl (by rw [hml]; rfl) rfl (hb hby d1_1) (by decide) (W := 0) (by show 2 * 0 + _ ≤ _; exact Nat.le_of_eq rfl) (by decide)
  obtain ⟨T2, gh2, X2, hE2, W2, st2⟩ := putFN X1 hx hZ hown (hw _ (List.mem_of_getElem? (i := 11) rfl)) Via.refl hE1 F_first E_a1 (Or.inl (hw _ (List.mem_of_getElem? (i := 12) rfl))) (hw _ (List.mem_of_getElem? (i := 3) rfl)) (ty := .boolean) (v' := (.int (1 : Int32))) (by decide) rfl rfl (g := (mkF m 6 #[.val (.ref a1), .val (.ref a2), .val (.int p3), .val (.int p4)] [(.int (1 : Int32)), (.ref a1)])) rfl rfl (hb hby d1_6)
  have Fw2 := F_first.same W2
  have f3 := E_a1.wr W2
  have f5 := F_bytes.other W2 (Or.inr (slot_ne (Or.inr (hw _ (List.mem_of_getElem? (i := 14) rfl))) (Or.inl (hw _ (List.mem_of_getElem? (i := 12) rfl))) (by decide) (t := (.array .byte)) (t' := .boolean) (by decide) (by decide)))
  have f6 := F_start.other W2 (Or.inr (slot_ne (Or.inr (hw _ (List.mem_of_getElem? (i := 16) rfl))) (Or.inl (hw _ (List.mem_of_getElem? (i := 12) rfl))) (by decide) (t := .int) (t' := .boolean) (by decide) (by decide)))
  have f7 := F_end.other W2 (Or.inr (slot_ne (Or.inr (hw _ (List.mem_of_getElem? (i := 18) rfl))) (Or.inl (hw _ (List.mem_of_getElem? (i := 12) rfl))) (by decide) (t := .int) (t' := .boolean) (by decide) (by decide)))
  have f8 := F_at.other W2 (Or.inr (slot_ne (Or.inl (hw _ (List.mem_of_getElem? (i := 20) rfl))) (Or.inl (hw _ (List.mem_of_getElem? (i := 12) rfl))) (by decide) (t := .int) (t' := .boolean) (by decide) (by decide)))
  have Z9 := Nat.le_trans Z0 (Keep.of_wr W2).1
  have N10 := Fr.snoc X2 N0 g_a1
  have K11 := (Keep.refl h0 [a1]).wr W2 (Or.inl (List.mem_of_getElem? (i := 0) rfl))
  obtain ⟨T12, gh12, X12, hE12, W12, st12⟩ := putF X2 hx hZ hown (host := "") (Or.inl (hw _ (List.mem_of_getElem? (i := 13) rfl))) Via.refl hE2 f5 f3 (Or.inr ⟨(hw _ (List.mem_of_getElem? (i := 14) rfl)), rfl, hnm⟩) (hw _ (List.mem_of_getElem? (i := 3) rfl)) (ty := (.array .byte)) (by decide) rfl rfl (g := (mkF m 11 #[.val (.ref a1), .val (.ref a2), .val (.int p3), .val (.int p4)] [(.ref a2), (.ref a1)])) rfl rfl (hb hby d1_11)
  have Fw12 := f5.same W12
  have f13 := f3.wr W12
  have f14 := Fw2.other W12 (Or.inr (slot_ne (Or.inl (hw _ (List.mem_of_getElem? (i := 12) rfl))) (Or.inr (hw _ (List.mem_of_getElem? (i := 14) rfl))) (by decide) (t := .boolean) (t' := (.array .byte)) (by decide) (by decide)))
  have f16 := f6.other W12 (Or.inr (slot_ne (Or.inr (hw _ (List.mem_of_getElem? (i := 16) rfl))) (Or.inr (hw _ (List.mem_of_getElem? (i := 14) rfl))) (by decide) (t := .int) (t' := (.array .byte)) (by decide) (by decide)))
  have f17 := f7.other W12 (Or.inr (slot_ne (Or.inr (hw _ (List.mem_of_getElem? (i := 18) rfl))) (Or.inr (hw _ (List.mem_of_getElem? (i := 14) rfl))) (by decide) (t := .int) (t' := (.array .byte)) (by decide) (by decide)))
  have f18 := f8.other W12 (Or.inr (slot_ne (Or.inl (hw _ (List.mem_of_getElem? (i := 20) rfl))) (Or.inr (hw _ (List.mem_of_getElem? (i := 14) rfl))) (by decide) (t := .int) (t' := (.array .byte)) (by decide) (by decide)))
  have Z19 := Nat.le_trans Z9 (Keep.of_wr W12).1
  have N20 := Fr.snoc X12 N10 g_a1
  have K21 := K11.wr W12 (Or.inl (List.mem_of_getElem? (i := 0) rfl))
  obtain ⟨T22, gh22, X22, hE22, W22, st22⟩ := putF X12 hx hZ hown (host := "") (Or.inl (hw _ (List.mem_of_getElem? (i := 15) rfl))) Via.refl hE12 f16 f13 (Or.inr ⟨(hw _ (List.mem_of_getElem? (i := 16) rfl)), rfl, hnm⟩) (hw _ (List.mem_of_getElem? (i := 3) rfl)) (ty := .int) (by decide) rfl rfl (g := (mkF m 16 #[.val (.ref a1), .val (.ref a2), .val (.int p3), .val (.int p4)] [(.int p3), (.ref a1)])) rfl rfl (hb hby d1_16)
  have Fw22 := f16.same W22
  have f23 := f13.wr W22
  have f24 := f14.other W22 (Or.inr (slot_ne (Or.inl (hw _ (List.mem_of_getElem? (i := 12) rfl))) (Or.inr (hw _ (List.mem_of_getElem? (i := 16) rfl))) (by decide) (t := .boolean) (t' := .int) (by decide) (by decide)))
  have f25 := Fw12.other W22 (Or.inr (slot_ne (Or.inr (hw _ (List.mem_of_getElem? (i := 14) rfl))) (Or.inr (hw _ (List.mem_of_getElem? (i := 16) rfl))) (by decide) (t := (.array .byte)) (t' := .int) (by decide) (by decide)))
  have f27 := f17.other W22 (Or.inr (slot_ne (Or.inr (hw _ (List.mem_of_getElem? (i := 18) rfl))) (Or.inr (hw _ (List.mem_of_getElem? (i := 16) rfl))) (by decide) (t := .int) (t' := .int) (by decide) (by decide)))
  have f28 := f18.other W22 (Or.inr (slot_ne (Or.inl (hw _ (List.mem_of_getElem? (i := 20) rfl))) (Or.inr (hw _ (List.mem_of_getElem? (i := 16) rfl))) (by decide) (t := .int) (t' := .int) (by decide) (by decide)))
  have Z29 := Nat.le_trans Z19 (Keep.of_wr W22).1
  have N30 := Fr.snoc X22 N20 g_a1
  have K31 := K21.wr W22 (Or.inl (List.mem_of_getElem? (i := 0) rfl))
  obtain ⟨T32, gh32, X32, hE32, W32, st32⟩ := putF X22 hx hZ hown (host := "") (Or.inl (hw _ (List.mem_of_getElem? (i := 17) rfl))) Via.refl hE22 f27 f23 (Or.inr ⟨(hw _ (List.mem_of_getElem? (i := 18) rfl)), rfl, hnm⟩) (hw _ (List.mem_of_getElem? (i := 3) rfl)) (ty := .int) (by decide) rfl rfl (g := (mkF m 21 #[.val (.ref a1), .val (.ref a2), .val (.int p3), .val (.int p4)] [(.int p4), (.ref a1)])) rfl rfl (hb hby d1_21)
  have Fw32 := f27.same W32
  have f33 := f23.wr W32
  have f34 := f24.other W32 (Or.inr (slot_ne (Or.inl (hw _ (List.mem_of_getElem? (i := 12) rfl))) (Or.inr (hw _ (List.mem_of_getElem? (i := 18) rfl))) (by decide) (t := .boolean) (t' := .int) (by decide) (by decide)))
  have f35 := f25.other W32 (Or.inr (slot_ne (Or.inr (hw _ (List.mem_of_getElem? (i := 14) rfl))) (Or.inr (hw _ (List.mem_of_getElem? (i := 18) rfl))) (by decide) (t := (.array .byte)) (t' := .int) (by decide) (by decide)))
  have f36 := Fw22.other W32 (Or.inr (slot_ne (Or.inr (hw _ (List.mem_of_getElem? (i := 16) rfl))) (Or.inr (hw _ (List.mem_of_getElem? (i := 18) rfl))) (by decide) (t := .int) (t' := .int) (by decide) (by decide)))
  have f38 := f28.other W32 (Or.inr (slot_ne (Or.inl (hw _ (List.mem_of_getElem? (i := 20) rfl))) (Or.inr (hw _ (List.mem_of_getElem? (i := 18) rfl))) (by decide) (t := .int) (t' := .int) (by decide) (by decide)))
  have Z39 := Nat.le_trans Z29 (Keep.of_wr W32).1
  have N40 := Fr.snoc X32 N30 g_a1
  have K41 := K31.wr W32 (Or.inl (List.mem_of_getElem? (i := 0) rfl))
  obtain ⟨T42, gh42, X42, hE42, W42, st42⟩ := putF X32 hx hZ hown (host := "") (Or.inl (hw _ (List.mem_of_getElem? (i := 19) rfl))) Via.refl hE32 f38 f33 (Or.inl (hw _ (List.mem_of_getElem? (i := 20) rfl))) (hw _ (List.mem_of_getElem? (i := 3) rfl)) (ty := .int) (by decide) rfl rfl (g := (mkF m 26 #[.val (.ref a1), .val (.ref a2), .val (.int p3), .val (.int p4)] [(.int p3), (.ref a1)])) rfl rfl (hb hby d1_26)
  have Fw42 := f38.same W42
  have f43 := f33.wr W42
  have f44 := f34.other W42 (Or.inr (slot_ne (Or.inl (hw _ (List.mem_of_getElem? (i := 12) rfl))) (Or.inl (hw _ (List.mem_of_getElem? (i := 20) rfl))) (by decide) (t := .boolean) (t' := .int) (by decide) (by decide)))
  have f45 := f35.other W42 (Or.inr (slot_ne (Or.inr (hw _ (List.mem_of_getElem? (i := 14) rfl))) (Or.inl (hw _ (List.mem_of_getElem? (i := 20) rfl))) (by decide) (t := (.array .byte)) (t' := .int) (by decide) (by decide)))
  have f46 := f36.other W42 (Or.inr (slot_ne (Or.inr (hw _ (List.mem_of_getElem? (i := 16) rfl))) (Or.inl (hw _ (List.mem_of_getElem? (i := 20) rfl))) (by decide) (t := .int) (t' := .int) (by decide) (by decide)))
  have f47 := Fw32.other W42 (Or.inr (slot_ne (Or.inr (hw _ (List.mem_of_getElem? (i := 18) rfl))) (Or.inl (hw _ (List.mem_of_getElem? (i := 20) rfl))) (by decide) (t := .int) (t' := .int) (by decide) (by decide)))
  have Z49 := Nat.le_trans Z39 (Keep.of_wr W42).1
  have N50 := Fr.snoc X42 N40 g_a1
  have K51 := K41.wr W42 (Or.inl (List.mem_of_getElem? (i := 0) rfl))
  have pre52 : ∀ t, Steps p.tables e below (T42.setTop (mkF m 29 #[.val (.ref a1), .val (.ref a2), .val (.int p3), .val (.int p4)] [])) t → Steps p.tables e below (s₁.setTop (entryFrame m #[(.ref a1), (.ref a2), (.int p3), (.int p4)] 4)) t := by
    intro t kt
    refine pre0 _ ?_
    show Steps p.tables e below (s₁.setTop (mkF m 0 #[.val (.ref a1), .val (.ref a2), .val (.int p3), .val (.int p4)] [])) _
    refine XS.aloadN X0.here hx rfl (hb hby d1_0) rfl rfl ?_
    show Steps p.tables e below (s₁.setTop (mkF m 1 #[.val (.ref a1), .val (.ref a2), .val (.int p3), .val (.int p4)] [(.ref a1)])) _
    refine st1 _ ?_
    show Steps p.tables e below (T1.setTop (mkF m 4 #[.val (.ref a1), .val (.ref a2), .val (.int p3), .val (.int p4)] [])) _
    refine XS.aloadN X1.here hx rfl (hb hby d1_4) rfl rfl ?_
    show Steps p.tables e below (T1.setTop (mkF m 5 #[.val (.ref a1), .val (.ref a2), .val (.int p3), .val (.int p4)] [(.ref a1)])) _
    refine XS.iconst X1.here hx rfl (hb hby d1_5) ?_
    show Steps p.tables e below (T1.setTop (mkF m 6 #[.val (.ref a1), .val (.ref a2), .val (.int p3), .val (.int p4)] [(.int (1 : Int32)), (.ref a1)])) _
    refine st2 _ ?_
    show Steps p.tables e below (T2.setTop (mkF m 9 #[.val (.ref a1), .val (.ref a2), .val (.int p3), .val (.int p4)] [])) _
    refine XS.aloadN X2.here hx rfl (hb hby d1_9) rfl rfl ?_
    show Steps p.tables e below (T2.setTop (mkF m 10 #[.val (.ref a1), .val (.ref a2), .val (.int p3), .val (.int p4)] [(.ref a1)])) _
    refine XS.aloadN X2.here hx rfl (hb hby d1_10) rfl rfl ?_
    show Steps p.tables e below (T2.setTop (mkF m 11 #[.val (.ref a1), .val (.ref a2), .val (.int p3), .val (.int p4)] [(.ref a2), (.ref a1)])) _
    refine st12 _ ?_
    show Steps p.tables e below (T12.setTop (mkF m 14 #[.val (.ref a1), .val (.ref a2), .val (.int p3), .val (.int p4)] [])) _
    refine XS.aloadN X12.here hx rfl (hb hby d1_14) rfl rfl ?_
    show Steps p.tables e below (T12.setTop (mkF m 15 #[.val (.ref a1), .val (.ref a2), .val (.int p3), .val (.int p4)] [(.ref a1)])) _
    refine XS.iloadN X12.here hx rfl (hb hby d1_15) rfl ?_
    show Steps p.tables e below (T12.setTop (mkF m 16 #[.val (.ref a1), .val (.ref a2), .val (.int p3), .val (.int p4)] [(.int p3), (.ref a1)])) _
    refine st22 _ ?_
    show Steps p.tables e below (T22.setTop (mkF m 19 #[.val (.ref a1), .val (.ref a2), .val (.int p3), .val (.int p4)] [])) _
    refine XS.aloadN X22.here hx rfl (hb hby d1_19) rfl rfl ?_
    show Steps p.tables e below (T22.setTop (mkF m 20 #[.val (.ref a1), .val (.ref a2), .val (.int p3), .val (.int p4)] [(.ref a1)])) _
    refine XS.iloadN X22.here hx rfl (hb hby d1_20) rfl ?_
    show Steps p.tables e below (T22.setTop (mkF m 21 #[.val (.ref a1), .val (.ref a2), .val (.int p3), .val (.int p4)] [(.int p4), (.ref a1)])) _
    refine st32 _ ?_
    show Steps p.tables e below (T32.setTop (mkF m 24 #[.val (.ref a1), .val (.ref a2), .val (.int p3), .val (.int p4)] [])) _
    refine XS.aloadN X32.here hx rfl (hb hby d1_24) rfl rfl ?_
    show Steps p.tables e below (T32.setTop (mkF m 25 #[.val (.ref a1), .val (.ref a2), .val (.int p3), .val (.int p4)] [(.ref a1)])) _
    refine XS.iloadN X32.here hx rfl (hb hby d1_25) rfl ?_
    show Steps p.tables e below (T32.setTop (mkF m 26 #[.val (.ref a1), .val (.ref a2), .val (.int p3), .val (.int p4)] [(.int p3), (.ref a1)])) _
    refine st42 _ ?_
    exact kt
  obtain ⟨fs, hr, hrun, hended, hW, hsame⟩ := X42.leave (v := none) (fun _ => rfl)
  refine ⟨_, _, pre52 _ ?_, hrun, hended, _, _, rfl, ?_, ⟨_, rfl⟩, hW, hsame.mono (by decide) (by decide)⟩
  · show Steps p.tables e below (T42.setTop (mkF m 29 #[.val (.ref a1), .val (.ref a2), .val (.int p3), .val (.int p4)] [])) _
    exact X42.returnOut hx Bd.returns (hb hby d1_29) hr
  · show Q1 Z a1 a2 p3 p4 h0 n0 _ T42.heap _
    rw [hE42]
    exact ⟨rfl, N50, K51, f43, f44, f45, f46, f47, Fw42⟩
theorem d6_0 : decode prog_30_method_22_code 0 = .ok (.iload_n 0, 1) := by decide +kernel
theorem d6_1 : decode prog_30_method_22_code 1 = .ok (.bipush 32, 2) := by decide +kernel
theorem d6_3 : decode prog_30_method_22_code 3 = .ok (.if_icmp .eq 21, 3) := by decide +kernel
theorem d6_6 : decode prog_30_method_22_code 6 = .ok (.iload_n 0, 1) := by decide +kernel
theorem d6_7 : decode prog_30_method_22_code 7 = .ok (.bipush 9, 2) := by decide +kernel
theorem d6_9 : decode prog_30_method_22_code 9 = .ok (.if_icmp .eq 15, 3) := by decide +kernel
theorem d6_12 : decode prog_30_method_22_code 12 = .ok (.iload_n 0, 1) := by decide +kernel
theorem d6_13 : decode prog_30_method_22_code 13 = .ok (.bipush 10, 2) := by decide +kernel
theorem d6_15 : decode prog_30_method_22_code 15 = .ok (.if_icmp .eq 9, 3) := by decide +kernel
theorem d6_18 : decode prog_30_method_22_code 18 = .ok (.iload_n 0, 1) := by decide +kernel
theorem d6_19 : decode prog_30_method_22_code 19 = .ok (.bipush 13, 2) := by decide +kernel
theorem d6_21 : decode prog_30_method_22_code 21 = .ok (.if_icmp .ne 7, 3) := by decide +kernel
theorem d6_24 : decode prog_30_method_22_code 24 = .ok (.iconst 1, 1) := by decide +kernel
theorem d6_25 : decode prog_30_method_22_code 25 = .ok (.goto 4, 3) := by decide +kernel
theorem d6_28 : decode prog_30_method_22_code 28 = .ok (.iconst 0, 1) := by decide +kernel
theorem d6_29 : decode prog_30_method_22_code 29 = .ok (.ireturn, 1) := by decide +kernel
theorem pn_6 : plainName "com/example/fama/fama/table/JsonLine" = true := by first | (simp [plainName, overriddenIn]; done) | decide +kernel
theorem ef_6 (m : MethodId) (x0 : Int32) : entryFrame m #[(.int x0)] 1 = mkF m 0 #[.val (.int x0)] [] := by first | (simp [entryFrame, mkF, argsToLocals, Value.category]; done) | rfl
def fn6 (p1 : Int32) : Int32 := (if p1 = (32 : Int32) then (1 : Int32) else (if p1 = (9 : Int32) then (1 : Int32) else (if p1 = (10 : Int32) then (1 : Int32) else (if p1 = (13 : Int32) then (1 : Int32) else (0 : Int32)))))
def Q6 (Z : State) (p1 : Int32) (h0 : Heap) (n0 : Nat) (v : Option Value) (h : Heap) (L : List Loc) : Prop := v = some (.int (fn6 p1)) ∧ Fr n0 L ∧ h = h0
set_option maxRecDepth 65536 in
set_option maxHeartbeats 40000000 in
theorem rm6 (l : Launch) (Z : State) (a0 : Array Value) (hw : ∀ d ∈ tables_1, d.before a0 Z = true) (ws : List Jvm.Cond) (p1 : Int32) (h0 : Heap) (n0 : Nat) (Z0 : n0 ≤ h0.size) :
    MetFree l (⟨"com/example/fama/fama/table/JsonLine", "isWhitespace", "(B)Z"⟩ : MethodName) (head1 (Jvm.Cond.code (⟨"com/example/fama/fama/table/JsonLine", "isWhitespace", "(B)Z"⟩ : MethodName) prog_30_method_22_code 1 (some .boolean) :: ws) ({ frames := 0, cells := 0, slots := 0, locals := 0 } : Room)) (fun a U => a = #[(.int p1)] ∧ Z.Warmed39 U.vm ∧ U.heap = h0) (fun _ _ _ _ _ => True) (fun _ U o U' => ∃ v L, o = .returned v ∧ Q6 Z p1 h0 n0 v U'.heap L ∧ FrameEnd U o U' L ({ frames := 0, cells := 0, slots := 0, locals := 0 } : Room).cells ({ frames := 0, cells := 0, slots := 0, locals := 0 } : Room).slots) := by
  refine MetFree.of_bodySF (plainFor_of_name pn_6) hisR ?_
  intro p e s m args below meth c s₁ Bd hml0 hP hK
  obtain ⟨rfl, hZ, hh⟩ := hP
  have hx := Bd.exec
  have hby := Bd.bytes
  have hml : c.maxLocals = 1 := hml0
  have hown : s.vm.findClass "com/example/fama/fama/table/JsonLine" = some m.cls := findClass_of_methodNamed Bd.named
  have hnm := (name_of_methodNamed Bd.named Bd.method).1
  have X0 : Stand p l e ({ frames := 0, cells := 0, slots := 0, locals := 0 } : Room) s m #[(.int p1)] below meth c s₁ [] 0 0 := Stand.of_body Bd
  have e0 : s₁.heap = h0 := by rw [← hh, Bd.state]; rfl
  have N0 := Fr.nil n0
  have pre0 : ∀ t, Steps p.tables e below (s₁.setTop (mkF m 0 #[.val (.int p1)] [])) t → Steps p.tables e below (s₁.setTop (entryFrame m #[(.int p1)] 1)) t := fun t k => castTop (ef_6 m p1) k
  have pre1 : ∀ t, Steps p.tables e below (s₁.setTop (mkF m 3 #[.val (.int p1)] [(.int (32 : Int32)), (.int p1)])) t → Steps p.tables e below (s₁.setTop (entryFrame m #[(.int p1)] 1)) t := by
    intro t kt
    refine pre0 _ ?_
    show Steps p.tables e below (s₁.setTop (mkF m 0 #[.val (.int p1)] [])) _
    refine XS.iloadN X0.here hx rfl (hb hby d6_0) rfl ?_
    show Steps p.tables e below (s₁.setTop (mkF m 1 #[.val (.int p1)] [(.int p1)])) _
    refine XS.bipush X0.here hx rfl (hb hby d6_1) ?_
    exact kt
  by_cases hc3_2 : p1 = (32 : Int32)
  · skip
    have pre3 : ∀ t, Steps p.tables e below (s₁.setTop (mkF m 29 #[.val (.int p1)] [(.int (1 : Int32))])) t → Steps p.tables e below (s₁.setTop (entryFrame m #[(.int p1)] 1)) t := by
      intro t kt
      refine pre1 _ ?_
      show Steps p.tables e below (s₁.setTop (mkF m 3 #[.val (.int p1)] [(.int (32 : Int32)), (.int p1)])) _
      refine XS.icmpYes X0.here hx rfl (pc0 := 3) (pc' := 24) rfl (hb hby d6_3) rfl (XT.ii_eq_t hc3_2) (by decide) (by decide) ?_
      show Steps p.tables e below (s₁.setTop (mkF m 24 #[.val (.int p1)] [])) _
      refine XS.iconst X0.here hx rfl (hb hby d6_24) ?_
      show Steps p.tables e below (s₁.setTop (mkF m 25 #[.val (.int p1)] [(.int (1 : Int32))])) _
      refine XS.goto X0.here hx rfl (pc0 := 25) (pc' := 29) rfl (hb hby d6_25) (by decide) (by decide) ?_
      exact kt
    obtain ⟨fs, hr, hrun, hended, hW, hsame⟩ := X0.leave (v := some (.int (1 : Int32))) (fun h => by rw [Bd.returns] at h; cases h)
    refine ⟨_, _, pre3 _ ?_, hrun, hended, _, _, rfl, ?_, ⟨_, rfl⟩, hW, hsame.mono (by decide) (by decide)⟩
    · show Steps p.tables e below (s₁.setTop (mkF m 29 #[.val (.int p1)] [(.int (1 : Int32))])) _
      exact retN X0 hx (t := .boolean) Bd.returns (by simp) (hb hby d6_29) hr
    · show Q6 Z p1 h0 n0 _ s₁.heap _
      rw [e0]
      exact ⟨by unfold fn6; rw [if_pos hc3_2], N0, rfl⟩
  · skip
    have pre4 : ∀ t, Steps p.tables e below (s₁.setTop (mkF m 9 #[.val (.int p1)] [(.int (9 : Int32)), (.int p1)])) t → Steps p.tables e below (s₁.setTop (entryFrame m #[(.int p1)] 1)) t := by
      intro t kt
      refine pre1 _ ?_
      show Steps p.tables e below (s₁.setTop (mkF m 3 #[.val (.int p1)] [(.int (32 : Int32)), (.int p1)])) _
      refine XS.icmpNo X0.here hx rfl (hb hby d6_3) rfl (XT.ii_eq_f hc3_2) ?_
      show Steps p.tables e below (s₁.setTop (mkF m 6 #[.val (.int p1)] [])) _
      refine XS.iloadN X0.here hx rfl (hb hby d6_6) rfl ?_
      show Steps p.tables e below (s₁.setTop (mkF m 7 #[.val (.int p1)] [(.int p1)])) _
      refine XS.bipush X0.here hx rfl (hb hby d6_7) ?_
      exact kt
    by_cases hc9_5 : p1 = (9 : Int32)
    · skip
      have pre6 : ∀ t, Steps p.tables e below (s₁.setTop (mkF m 29 #[.val (.int p1)] [(.int (1 : Int32))])) t → Steps p.tables e below (s₁.setTop (entryFrame m #[(.int p1)] 1)) t := by
        intro t kt
        refine pre4 _ ?_
        show Steps p.tables e below (s₁.setTop (mkF m 9 #[.val (.int p1)] [(.int (9 : Int32)), (.int p1)])) _
        refine XS.icmpYes X0.here hx rfl (pc0 := 9) (pc' := 24) rfl (hb hby d6_9) rfl (XT.ii_eq_t hc9_5) (by decide) (by decide) ?_
        show Steps p.tables e below (s₁.setTop (mkF m 24 #[.val (.int p1)] [])) _
        refine XS.iconst X0.here hx rfl (hb hby d6_24) ?_
        show Steps p.tables e below (s₁.setTop (mkF m 25 #[.val (.int p1)] [(.int (1 : Int32))])) _
        refine XS.goto X0.here hx rfl (pc0 := 25) (pc' := 29) rfl (hb hby d6_25) (by decide) (by decide) ?_
        exact kt
      obtain ⟨fs, hr, hrun, hended, hW, hsame⟩ := X0.leave (v := some (.int (1 : Int32))) (fun h => by rw [Bd.returns] at h; cases h)
      refine ⟨_, _, pre6 _ ?_, hrun, hended, _, _, rfl, ?_, ⟨_, rfl⟩, hW, hsame.mono (by decide) (by decide)⟩
      · show Steps p.tables e below (s₁.setTop (mkF m 29 #[.val (.int p1)] [(.int (1 : Int32))])) _
        exact retN X0 hx (t := .boolean) Bd.returns (by simp) (hb hby d6_29) hr
      · show Q6 Z p1 h0 n0 _ s₁.heap _
        rw [e0]
        exact ⟨by unfold fn6; rw [if_neg hc3_2, if_pos hc9_5], N0, rfl⟩
    · skip
      have pre7 : ∀ t, Steps p.tables e below (s₁.setTop (mkF m 15 #[.val (.int p1)] [(.int (10 : Int32)), (.int p1)])) t → Steps p.tables e below (s₁.setTop (entryFrame m #[(.int p1)] 1)) t := by
        intro t kt
        refine pre4 _ ?_
        show Steps p.tables e below (s₁.setTop (mkF m 9 #[.val (.int p1)] [(.int (9 : Int32)), (.int p1)])) _
        refine XS.icmpNo X0.here hx rfl (hb hby d6_9) rfl (XT.ii_eq_f hc9_5) ?_
        show Steps p.tables e below (s₁.setTop (mkF m 12 #[.val (.int p1)] [])) _
        refine XS.iloadN X0.here hx rfl (hb hby d6_12) rfl ?_
        show Steps p.tables e below (s₁.setTop (mkF m 13 #[.val (.int p1)] [(.int p1)])) _
        refine XS.bipush X0.here hx rfl (hb hby d6_13) ?_
        exact kt
      by_cases hc15_8 : p1 = (10 : Int32)
      · skip
        have pre9 : ∀ t, Steps p.tables e below (s₁.setTop (mkF m 29 #[.val (.int p1)] [(.int (1 : Int32))])) t → Steps p.tables e below (s₁.setTop (entryFrame m #[(.int p1)] 1)) t := by
          intro t kt
          refine pre7 _ ?_
          show Steps p.tables e below (s₁.setTop (mkF m 15 #[.val (.int p1)] [(.int (10 : Int32)), (.int p1)])) _
          refine XS.icmpYes X0.here hx rfl (pc0 := 15) (pc' := 24) rfl (hb hby d6_15) rfl (XT.ii_eq_t hc15_8) (by decide) (by decide) ?_
          show Steps p.tables e below (s₁.setTop (mkF m 24 #[.val (.int p1)] [])) _
          refine XS.iconst X0.here hx rfl (hb hby d6_24) ?_
          show Steps p.tables e below (s₁.setTop (mkF m 25 #[.val (.int p1)] [(.int (1 : Int32))])) _
          refine XS.goto X0.here hx rfl (pc0 := 25) (pc' := 29) rfl (hb hby d6_25) (by decide) (by decide) ?_
          exact kt
        obtain ⟨fs, hr, hrun, hended, hW, hsame⟩ := X0.leave (v := some (.int (1 : Int32))) (fun h => by rw [Bd.returns] at h; cases h)
        refine ⟨_, _, pre9 _ ?_, hrun, hended, _, _, rfl, ?_, ⟨_, rfl⟩, hW, hsame.mono (by decide) (by decide)⟩
        · show Steps p.tables e below (s₁.setTop (mkF m 29 #[.val (.int p1)] [(.int (1 : Int32))])) _
          exact retN X0 hx (t := .boolean) Bd.returns (by simp) (hb hby d6_29) hr
        · show Q6 Z p1 h0 n0 _ s₁.heap _
          rw [e0]
          exact ⟨by unfold fn6; rw [if_neg hc3_2, if_neg hc9_5, if_pos hc15_8], N0, rfl⟩
      · skip
        have pre10 : ∀ t, Steps p.tables e below (s₁.setTop (mkF m 21 #[.val (.int p1)] [(.int (13 : Int32)), (.int p1)])) t → Steps p.tables e below (s₁.setTop (entryFrame m #[(.int p1)] 1)) t := by
          intro t kt
          refine pre7 _ ?_
          show Steps p.tables e below (s₁.setTop (mkF m 15 #[.val (.int p1)] [(.int (10 : Int32)), (.int p1)])) _
          refine XS.icmpNo X0.here hx rfl (hb hby d6_15) rfl (XT.ii_eq_f hc15_8) ?_
          show Steps p.tables e below (s₁.setTop (mkF m 18 #[.val (.int p1)] [])) _
          refine XS.iloadN X0.here hx rfl (hb hby d6_18) rfl ?_
          show Steps p.tables e below (s₁.setTop (mkF m 19 #[.val (.int p1)] [(.int p1)])) _
          refine XS.bipush X0.here hx rfl (hb hby d6_19) ?_
          exact kt
        by_cases hc21_11 : p1 = (13 : Int32)
        · skip
          have pre12 : ∀ t, Steps p.tables e below (s₁.setTop (mkF m 29 #[.val (.int p1)] [(.int (1 : Int32))])) t → Steps p.tables e below (s₁.setTop (entryFrame m #[(.int p1)] 1)) t := by
            intro t kt
            refine pre10 _ ?_
            show Steps p.tables e below (s₁.setTop (mkF m 21 #[.val (.int p1)] [(.int (13 : Int32)), (.int p1)])) _
            refine XS.icmpNo X0.here hx rfl (hb hby d6_21) rfl (XT.ii_ne_f hc21_11) ?_
            show Steps p.tables e below (s₁.setTop (mkF m 24 #[.val (.int p1)] [])) _
            refine XS.iconst X0.here hx rfl (hb hby d6_24) ?_
            show Steps p.tables e below (s₁.setTop (mkF m 25 #[.val (.int p1)] [(.int (1 : Int32))])) _
            refine XS.goto X0.here hx rfl (pc0 := 25) (pc' := 29) rfl (hb hby d6_25) (by decide) (by decide) ?_
            exact kt
          obtain ⟨fs, hr, hrun, hended, hW, hsame⟩ := X0.leave (v := some (.int (1 : Int32))) (fun h => by rw [Bd.returns] at h; cases h)
          refine ⟨_, _, pre12 _ ?_, hrun, hended, _, _, rfl, ?_, ⟨_, rfl⟩, hW, hsame.mono (by decide) (by decide)⟩
          · show Steps p.tables e below (s₁.setTop (mkF m 29 #[.val (.int p1)] [(.int (1 : Int32))])) _
            exact retN X0 hx (t := .boolean) Bd.returns (by simp) (hb hby d6_29) hr
          · show Q6 Z p1 h0 n0 _ s₁.heap _
            rw [e0]
            exact ⟨by unfold fn6; rw [if_neg hc3_2, if_neg hc9_5, if_neg hc15_8, if_pos hc21_11], N0, rfl⟩
        · skip
          have pre13 : ∀ t, Steps p.tables e below (s₁.setTop (mkF m 29 #[.val (.int p1)] [(.int (0 : Int32))])) t → Steps p.tables e below (s₁.setTop (entryFrame m #[(.int p1)] 1)) t := by
            intro t kt
            refine pre10 _ ?_
            show Steps p.tables e below (s₁.setTop (mkF m 21 #[.val (.int p1)] [(.int (13 : Int32)), (.int p1)])) _
            refine XS.icmpYes X0.here hx rfl (pc0 := 21) (pc' := 28) rfl (hb hby d6_21) rfl (XT.ii_ne_t hc21_11) (by decide) (by decide) ?_
            show Steps p.tables e below (s₁.setTop (mkF m 28 #[.val (.int p1)] [])) _
            refine XS.iconst X0.here hx rfl (hb hby d6_28) ?_
            exact kt
          obtain ⟨fs, hr, hrun, hended, hW, hsame⟩ := X0.leave (v := some (.int (0 : Int32))) (fun h => by rw [Bd.returns] at h; cases h)
          refine ⟨_, _, pre13 _ ?_, hrun, hended, _, _, rfl, ?_, ⟨_, rfl⟩, hW, hsame.mono (by decide) (by decide)⟩
          · show Steps p.tables e below (s₁.setTop (mkF m 29 #[.val (.int p1)] [(.int (0 : Int32))])) _
            exact retN X0 hx (t := .boolean) Bd.returns (by simp) (hb hby d6_29) hr
          · show Q6 Z p1 h0 n0 _ s₁.heap _
            rw [e0]
            exact ⟨by unfold fn6; rw [if_neg hc3_2, if_neg hc9_5, if_neg hc15_8, if_neg hc21_11], N0, rfl⟩
theorem d24_0 : decode method_2_code 0 = .ok (.iload_n 0, 1) := by decide +kernel
theorem d24_1 : decode method_2_code 1 = .ok (.bipush 32, 2) := by decide +kernel
theorem d24_3 : decode method_2_code 3 = .ok (.if_icmp .eq 21, 3) := by decide +kernel
theorem d24_6 : decode method_2_code 6 = .ok (.iload_n 0, 1) := by decide +kernel
theorem d24_7 : decode method_2_code 7 = .ok (.bipush 9, 2) := by decide +kernel
theorem d24_9 : decode method_2_code 9 = .ok (.if_icmp .eq 15, 3) := by decide +kernel
theorem d24_12 : decode method_2_code 12 = .ok (.iload_n 0, 1) := by decide +kernel
theorem d24_13 : decode method_2_code 13 = .ok (.bipush 10, 2) := by decide +kernel
theorem d24_15 : decode method_2_code 15 = .ok (.if_icmp .eq 9, 3) := by decide +kernel
theorem d24_18 : decode method_2_code 18 = .ok (.iload_n 0, 1) := by decide +kernel
theorem d24_19 : decode method_2_code 19 = .ok (.bipush 13, 2) := by decide +kernel
theorem d24_21 : decode method_2_code 21 = .ok (.if_icmp .ne 7, 3) := by decide +kernel
theorem d24_24 : decode method_2_code 24 = .ok (.iconst 1, 1) := by decide +kernel
theorem d24_25 : decode method_2_code 25 = .ok (.goto 4, 3) := by decide +kernel
theorem d24_28 : decode method_2_code 28 = .ok (.iconst 0, 1) := by decide +kernel
theorem d24_29 : decode method_2_code 29 = .ok (.ireturn, 1) := by decide +kernel
theorem pn_24 : plainName "com/example/fama/fama/table/JsonLineAtStringPinLaw" = true := by first | (simp [plainName, overriddenIn]; done) | decide +kernel
theorem ef_24 (m : MethodId) (x0 : Int32) : entryFrame m #[(.int x0)] 1 = mkF m 0 #[.val (.int x0)] [] := by first | (simp [entryFrame, mkF, argsToLocals, Value.category]; done) | rfl
def fn24 (p1 : Int32) : Int32 := (if p1 = (32 : Int32) then (1 : Int32) else (if p1 = (9 : Int32) then (1 : Int32) else (if p1 = (10 : Int32) then (1 : Int32) else (if p1 = (13 : Int32) then (1 : Int32) else (0 : Int32)))))
def Q24 (Z : State) (p1 : Int32) (h0 : Heap) (n0 : Nat) (v : Option Value) (h : Heap) (L : List Loc) : Prop := v = some (.int (fn24 p1)) ∧ Fr n0 L ∧ h = h0
set_option maxRecDepth 65536 in
set_option maxHeartbeats 40000000 in
theorem rm24 (l : Launch) (Z : State) (a0 : Array Value) (hw : ∀ d ∈ tables_1, d.before a0 Z = true) (ws : List Jvm.Cond) (p1 : Int32) (h0 : Heap) (n0 : Nat) (Z0 : n0 ≤ h0.size) :
    MetFree l (⟨"com/example/fama/fama/table/JsonLineAtStringPinLaw", "ws", "(B)Z"⟩ : MethodName) (head1 (Jvm.Cond.code (⟨"com/example/fama/fama/table/JsonLineAtStringPinLaw", "ws", "(B)Z"⟩ : MethodName) method_2_code 1 (some .boolean) :: ws) ({ frames := 0, cells := 0, slots := 0, locals := 0 } : Room)) (fun a U => a = #[(.int p1)] ∧ Z.Warmed39 U.vm ∧ U.heap = h0) (fun _ _ _ _ _ => True) (fun _ U o U' => ∃ v L, o = .returned v ∧ Q24 Z p1 h0 n0 v U'.heap L ∧ FrameEnd U o U' L ({ frames := 0, cells := 0, slots := 0, locals := 0 } : Room).cells ({ frames := 0, cells := 0, slots := 0, locals := 0 } : Room).slots) := by
  refine MetFree.of_bodySF (plainFor_of_name pn_24) hisR ?_
  intro p e s m args below meth c s₁ Bd hml0 hP hK
  obtain ⟨rfl, hZ, hh⟩ := hP
  have hx := Bd.exec
  have hby := Bd.bytes
  have hml : c.maxLocals = 1 := hml0
  have hown : s.vm.findClass "com/example/fama/fama/table/JsonLineAtStringPinLaw" = some m.cls := findClass_of_methodNamed Bd.named
  have hnm := (name_of_methodNamed Bd.named Bd.method).1
  have X0 : Stand p l e ({ frames := 0, cells := 0, slots := 0, locals := 0 } : Room) s m #[(.int p1)] below meth c s₁ [] 0 0 := Stand.of_body Bd
  have e0 : s₁.heap = h0 := by rw [← hh, Bd.state]; rfl
  have N0 := Fr.nil n0
  have pre0 : ∀ t, Steps p.tables e below (s₁.setTop (mkF m 0 #[.val (.int p1)] [])) t → Steps p.tables e below (s₁.setTop (entryFrame m #[(.int p1)] 1)) t := fun t k => castTop (ef_24 m p1) k
  have pre1 : ∀ t, Steps p.tables e below (s₁.setTop (mkF m 3 #[.val (.int p1)] [(.int (32 : Int32)), (.int p1)])) t → Steps p.tables e below (s₁.setTop (entryFrame m #[(.int p1)] 1)) t := by
    intro t kt
    refine pre0 _ ?_
    show Steps p.tables e below (s₁.setTop (mkF m 0 #[.val (.int p1)] [])) _
    refine XS.iloadN X0.here hx rfl (hb hby d24_0) rfl ?_
    show Steps p.tables e below (s₁.setTop (mkF m 1 #[.val (.int p1)] [(.int p1)])) _
    refine XS.bipush X0.here hx rfl (hb hby d24_1) ?_
    exact kt
  by_cases hc3_2 : p1 = (32 : Int32)
  · skip
    have pre3 : ∀ t, Steps p.tables e below (s₁.setTop (mkF m 29 #[.val (.int p1)] [(.int (1 : Int32))])) t → Steps p.tables e below (s₁.setTop (entryFrame m #[(.int p1)] 1)) t := by
      intro t kt
      refine pre1 _ ?_
      show Steps p.tables e below (s₁.setTop (mkF m 3 #[.val (.int p1)] [(.int (32 : Int32)), (.int p1)])) _
      refine XS.icmpYes X0.here hx rfl (pc0 := 3) (pc' := 24) rfl (hb hby d24_3) rfl (XT.ii_eq_t hc3_2) (by decide) (by decide) ?_
      show Steps p.tables e below (s₁.setTop (mkF m 24 #[.val (.int p1)] [])) _
      refine XS.iconst X0.here hx rfl (hb hby d24_24) ?_
      show Steps p.tables e below (s₁.setTop (mkF m 25 #[.val (.int p1)] [(.int (1 : Int32))])) _
      refine XS.goto X0.here hx rfl (pc0 := 25) (pc' := 29) rfl (hb hby d24_25) (by decide) (by decide) ?_
      exact kt
    obtain ⟨fs, hr, hrun, hended, hW, hsame⟩ := X0.leave (v := some (.int (1 : Int32))) (fun h => by rw [Bd.returns] at h; cases h)
    refine ⟨_, _, pre3 _ ?_, hrun, hended, _, _, rfl, ?_, ⟨_, rfl⟩, hW, hsame.mono (by decide) (by decide)⟩
    · show Steps p.tables e below (s₁.setTop (mkF m 29 #[.val (.int p1)] [(.int (1 : Int32))])) _
      exact retN X0 hx (t := .boolean) Bd.returns (by simp) (hb hby d24_29) hr
    · show Q24 Z p1 h0 n0 _ s₁.heap _
      rw [e0]
      exact ⟨by unfold fn24; rw [if_pos hc3_2], N0, rfl⟩
  · skip
    have pre4 : ∀ t, Steps p.tables e below (s₁.setTop (mkF m 9 #[.val (.int p1)] [(.int (9 : Int32)), (.int p1)])) t → Steps p.tables e below (s₁.setTop (entryFrame m #[(.int p1)] 1)) t := by
      intro t kt
      refine pre1 _ ?_
      show Steps p.tables e below (s₁.setTop (mkF m 3 #[.val (.int p1)] [(.int (32 : Int32)), (.int p1)])) _
      refine XS.icmpNo X0.here hx rfl (hb hby d24_3) rfl (XT.ii_eq_f hc3_2) ?_
      show Steps p.tables e below (s₁.setTop (mkF m 6 #[.val (.int p1)] [])) _
      refine XS.iloadN X0.here hx rfl (hb hby d24_6) rfl ?_
      show Steps p.tables e below (s₁.setTop (mkF m 7 #[.val (.int p1)] [(.int p1)])) _
      refine XS.bipush X0.here hx rfl (hb hby d24_7) ?_
      exact kt
    by_cases hc9_5 : p1 = (9 : Int32)
    · skip
      have pre6 : ∀ t, Steps p.tables e below (s₁.setTop (mkF m 29 #[.val (.int p1)] [(.int (1 : Int32))])) t → Steps p.tables e below (s₁.setTop (entryFrame m #[(.int p1)] 1)) t := by
        intro t kt
        refine pre4 _ ?_
        show Steps p.tables e below (s₁.setTop (mkF m 9 #[.val (.int p1)] [(.int (9 : Int32)), (.int p1)])) _
        refine XS.icmpYes X0.here hx rfl (pc0 := 9) (pc' := 24) rfl (hb hby d24_9) rfl (XT.ii_eq_t hc9_5) (by decide) (by decide) ?_
        show Steps p.tables e below (s₁.setTop (mkF m 24 #[.val (.int p1)] [])) _
        refine XS.iconst X0.here hx rfl (hb hby d24_24) ?_
        show Steps p.tables e below (s₁.setTop (mkF m 25 #[.val (.int p1)] [(.int (1 : Int32))])) _
        refine XS.goto X0.here hx rfl (pc0 := 25) (pc' := 29) rfl (hb hby d24_25) (by decide) (by decide) ?_
        exact kt
      obtain ⟨fs, hr, hrun, hended, hW, hsame⟩ := X0.leave (v := some (.int (1 : Int32))) (fun h => by rw [Bd.returns] at h; cases h)
      refine ⟨_, _, pre6 _ ?_, hrun, hended, _, _, rfl, ?_, ⟨_, rfl⟩, hW, hsame.mono (by decide) (by decide)⟩
      · show Steps p.tables e below (s₁.setTop (mkF m 29 #[.val (.int p1)] [(.int (1 : Int32))])) _
        exact retN X0 hx (t := .boolean) Bd.returns (by simp) (hb hby d24_29) hr
      · show Q24 Z p1 h0 n0 _ s₁.heap _
        rw [e0]
        exact ⟨by unfold fn24; rw [if_neg hc3_2, if_pos hc9_5], N0, rfl⟩
    · skip
      have pre7 : ∀ t, Steps p.tables e below (s₁.setTop (mkF m 15 #[.val (.int p1)] [(.int (10 : Int32)), (.int p1)])) t → Steps p.tables e below (s₁.setTop (entryFrame m #[(.int p1)] 1)) t := by
        intro t kt
        refine pre4 _ ?_
        show Steps p.tables e below (s₁.setTop (mkF m 9 #[.val (.int p1)] [(.int (9 : Int32)), (.int p1)])) _
        refine XS.icmpNo X0.here hx rfl (hb hby d24_9) rfl (XT.ii_eq_f hc9_5) ?_
        show Steps p.tables e below (s₁.setTop (mkF m 12 #[.val (.int p1)] [])) _
        refine XS.iloadN X0.here hx rfl (hb hby d24_12) rfl ?_
        show Steps p.tables e below (s₁.setTop (mkF m 13 #[.val (.int p1)] [(.int p1)])) _
        refine XS.bipush X0.here hx rfl (hb hby d24_13) ?_
        exact kt
      by_cases hc15_8 : p1 = (10 : Int32)
      · skip
        have pre9 : ∀ t, Steps p.tables e below (s₁.setTop (mkF m 29 #[.val (.int p1)] [(.int (1 : Int32))])) t → Steps p.tables e below (s₁.setTop (entryFrame m #[(.int p1)] 1)) t := by
          intro t kt
          refine pre7 _ ?_
          show Steps p.tables e below (s₁.setTop (mkF m 15 #[.val (.int p1)] [(.int (10 : Int32)), (.int p1)])) _
          refine XS.icmpYes X0.here hx rfl (pc0 := 15) (pc' := 24) rfl (hb hby d24_15) rfl (XT.ii_eq_t hc15_8) (by decide) (by decide) ?_
          show Steps p.tables e below (s₁.setTop (mkF m 24 #[.val (.int p1)] [])) _
          refine XS.iconst X0.here hx rfl (hb hby d24_24) ?_
          show Steps p.tables e below (s₁.setTop (mkF m 25 #[.val (.int p1)] [(.int (1 : Int32))])) _
          refine XS.goto X0.here hx rfl (pc0 := 25) (pc' := 29) rfl (hb hby d24_25) (by decide) (by decide) ?_
          exact kt
        obtain ⟨fs, hr, hrun, hended, hW, hsame⟩ := X0.leave (v := some (.int (1 : Int32))) (fun h => by rw [Bd.returns] at h; cases h)
        refine ⟨_, _, pre9 _ ?_, hrun, hended, _, _, rfl, ?_, ⟨_, rfl⟩, hW, hsame.mono (by decide) (by decide)⟩
        · show Steps p.tables e below (s₁.setTop (mkF m 29 #[.val (.int p1)] [(.int (1 : Int32))])) _
          exact retN X0 hx (t := .boolean) Bd.returns (by simp) (hb hby d24_29) hr
        · show Q24 Z p1 h0 n0 _ s₁.heap _
          rw [e0]
          exact ⟨by unfold fn24; rw [if_neg hc3_2, if_neg hc9_5, if_pos hc15_8], N0, rfl⟩
      · skip
        have pre10 : ∀ t, Steps p.tables e below (s₁.setTop (mkF m 21 #[.val (.int p1)] [(.int (13 : Int32)), (.int p1)])) t → Steps p.tables e below (s₁.setTop (entryFrame m #[(.int p1)] 1)) t := by
          intro t kt
          refine pre7 _ ?_
          show Steps p.tables e below (s₁.setTop (mkF m 15 #[.val (.int p1)] [(.int (10 : Int32)), (.int p1)])) _
          refine XS.icmpNo X0.here hx rfl (hb hby d24_15) rfl (XT.ii_eq_f hc15_8) ?_
          show Steps p.tables e below (s₁.setTop (mkF m 18 #[.val (.int p1)] [])) _
          refine XS.iloadN X0.here hx rfl (hb hby d24_18) rfl ?_
          show Steps p.tables e below (s₁.setTop (mkF m 19 #[.val (.int p1)] [(.int p1)])) _
          refine XS.bipush X0.here hx rfl (hb hby d24_19) ?_
          exact kt
        by_cases hc21_11 : p1 = (13 : Int32)
        · skip
          have pre12 : ∀ t, Steps p.tables e below (s₁.setTop (mkF m 29 #[.val (.int p1)] [(.int (1 : Int32))])) t → Steps p.tables e below (s₁.setTop (entryFrame m #[(.int p1)] 1)) t := by
            intro t kt
            refine pre10 _ ?_
            show Steps p.tables e below (s₁.setTop (mkF m 21 #[.val (.int p1)] [(.int (13 : Int32)), (.int p1)])) _
            refine XS.icmpNo X0.here hx rfl (hb hby d24_21) rfl (XT.ii_ne_f hc21_11) ?_
            show Steps p.tables e below (s₁.setTop (mkF m 24 #[.val (.int p1)] [])) _
            refine XS.iconst X0.here hx rfl (hb hby d24_24) ?_
            show Steps p.tables e below (s₁.setTop (mkF m 25 #[.val (.int p1)] [(.int (1 : Int32))])) _
            refine XS.goto X0.here hx rfl (pc0 := 25) (pc' := 29) rfl (hb hby d24_25) (by decide) (by decide) ?_
            exact kt
          obtain ⟨fs, hr, hrun, hended, hW, hsame⟩ := X0.leave (v := some (.int (1 : Int32))) (fun h => by rw [Bd.returns] at h; cases h)
          refine ⟨_, _, pre12 _ ?_, hrun, hended, _, _, rfl, ?_, ⟨_, rfl⟩, hW, hsame.mono (by decide) (by decide)⟩
          · show Steps p.tables e below (s₁.setTop (mkF m 29 #[.val (.int p1)] [(.int (1 : Int32))])) _
            exact retN X0 hx (t := .boolean) Bd.returns (by simp) (hb hby d24_29) hr
          · show Q24 Z p1 h0 n0 _ s₁.heap _
            rw [e0]
            exact ⟨by unfold fn24; rw [if_neg hc3_2, if_neg hc9_5, if_neg hc15_8, if_pos hc21_11], N0, rfl⟩
        · skip
          have pre13 : ∀ t, Steps p.tables e below (s₁.setTop (mkF m 29 #[.val (.int p1)] [(.int (0 : Int32))])) t → Steps p.tables e below (s₁.setTop (entryFrame m #[(.int p1)] 1)) t := by
            intro t kt
            refine pre10 _ ?_
            show Steps p.tables e below (s₁.setTop (mkF m 21 #[.val (.int p1)] [(.int (13 : Int32)), (.int p1)])) _
            refine XS.icmpYes X0.here hx rfl (pc0 := 21) (pc' := 28) rfl (hb hby d24_21) rfl (XT.ii_ne_t hc21_11) (by decide) (by decide) ?_
            show Steps p.tables e below (s₁.setTop (mkF m 28 #[.val (.int p1)] [])) _
            refine XS.iconst X0.here hx rfl (hb hby d24_28) ?_
            exact kt
          obtain ⟨fs, hr, hrun, hended, hW, hsame⟩ := X0.leave (v := some (.int (0 : Int32))) (fun h => by rw [Bd.returns] at h; cases h)
          refine ⟨_, _, pre13 _ ?_, hrun, hended, _, _, rfl, ?_, ⟨_, rfl⟩, hW, hsame.mono (by decide) (by decide)⟩
          · show Steps p.tables e below (s₁.setTop (mkF m 29 #[.val (.int p1)] [(.int (0 : Int32))])) _
            exact retN X0 hx (t := .boolean) Bd.returns (by simp) (hb hby d24_29) hr
          · show Q24 Z p1 h0 n0 _ s₁.heap _
            rw [e0]
            exact ⟨by unfold fn24; rw [if_neg hc3_2, if_neg hc9_5, if_neg hc15_8, if_neg hc21_11], N0, rfl⟩
theorem ef_20 (m : MethodId) (x0 : Int32) (x1 : Int32) : entryFrame m #[(.int x0), (.int x1)] 2 = mkF m 0 #[.val (.int x0), .val (.int x1)] [] := by first | (simp [entryFrame, mkF, argsToLocals, Value.category]; done) | rfl
theorem d20_0 : decode jdk_29_method_69_code 0 = .ok (.iload_n 0, 1) := by decide +kernel
theorem d20_1 : decode jdk_29_method_69_code 1 = .ok (.iload_n 1, 1) := by decide +kernel
theorem d20_2 : decode jdk_29_method_69_code 2 = .ok (.if_icmp .gt 7, 3) := by decide +kernel
theorem d20_9 : decode jdk_29_method_69_code 9 = .ok (.iload_n 1, 1) := by decide +kernel
theorem d20_10 : decode jdk_29_method_69_code 10 = .ok (.ireturn, 1) := by decide +kernel
theorem d20_5 : decode jdk_29_method_69_code 5 = .ok (.iload_n 0, 1) := by decide +kernel
theorem d20_6 : decode jdk_29_method_69_code 6 = .ok (.goto 4, 3) := by decide +kernel
def fn20 (p1 : Int32) (p2 : Int32) : Int32 := (if p2 < p1 then p2 else p1)
def Q20 (Z : State) (p1 : Int32) (p2 : Int32) (h0 : Heap) (n0 : Nat) (v : Option Value) (h : Heap) (L : List Loc) : Prop := v = some (.int (fn20 p1 p2)) ∧ Fr n0 L ∧ h = h0
set_option maxRecDepth 65536 in
set_option maxHeartbeats 40000000 in
theorem rm20 (l : Launch) (Z : State) (a0 : Array Value) (hw : ∀ d ∈ tables_1, d.before a0 Z = true) (ws : List Jvm.Cond) (p1 : Int32) (p2 : Int32) (h0 : Heap) (n0 : Nat) (Z0 : n0 ≤ h0.size) :
    MetFree l (⟨"java/lang/Math", "min", "(II)I"⟩ : MethodName) (head1 (Jvm.Cond.code (⟨"java/lang/Math", "min", "(II)I"⟩ : MethodName) jdk_29_method_69_code 2 (some .int) :: ws) ({ frames := 0, cells := 0, slots := 0, locals := 0 } : Room)) (fun a U => a = #[(.int p1), (.int p2)] ∧ Z.Warmed39 U.vm ∧ U.heap = h0) (fun _ _ _ _ _ => True) (fun _ U o U' => ∃ v L, o = .returned v ∧ Q20 Z p1 p2 h0 n0 v U'.heap L ∧ FrameEnd U o U' L ({ frames := 0, cells := 0, slots := 0, locals := 0 } : Room).cells ({ frames := 0, cells := 0, slots := 0, locals := 0 } : Room).slots) := by
  refine MetFree.of_bodySF (Jvm.Free.JP.mathPlain rfl (by decide +kernel)) hisR ?_
  intro p e s m args below meth c s₁ Bd hml0 hP hK
  obtain ⟨rfl, hZ, hh⟩ := hP
  have hx := Bd.exec
  have hby := Bd.bytes
  have hml : c.maxLocals = 2 := hml0
  have hown : s.vm.findClass "java/lang/Math" = some m.cls := findClass_of_methodNamed Bd.named
  have hnm := (name_of_methodNamed Bd.named Bd.method).1
  have X0 : Stand p l e ({ frames := 0, cells := 0, slots := 0, locals := 0 } : Room) s m #[(.int p1), (.int p2)] below meth c s₁ [] 0 0 := Stand.of_body Bd
  have e0 : s₁.heap = h0 := by rw [← hh, Bd.state]; rfl
  have N0 := Fr.nil n0
  have pre0 : ∀ t, Steps p.tables e below (s₁.setTop (mkF m 0 #[.val (.int p1), .val (.int p2)] [])) t → Steps p.tables e below (s₁.setTop (entryFrame m #[(.int p1), (.int p2)] 2)) t := fun t k => castTop (ef_20 m p1 p2) k
  have pre1 : ∀ t, Steps p.tables e below (s₁.setTop (mkF m 2 #[.val (.int p1), .val (.int p2)] [(.int p2), (.int p1)])) t → Steps p.tables e below (s₁.setTop (entryFrame m #[(.int p1), (.int p2)] 2)) t := by
    intro t kt
    refine pre0 _ ?_
    show Steps p.tables e below (s₁.setTop (mkF m 0 #[.val (.int p1), .val (.int p2)] [])) _
    refine XS.iloadN X0.here hx rfl (hb hby d20_0) rfl ?_
    show Steps p.tables e below (s₁.setTop (mkF m 1 #[.val (.int p1), .val (.int p2)] [(.int p1)])) _
    refine XS.iloadN X0.here hx rfl (hb hby d20_1) rfl ?_
    exact kt
  by_cases hc2_2 : p2 < p1
  · skip
    have pre3 : ∀ t, Steps p.tables e below (s₁.setTop (mkF m 10 #[.val (.int p1), .val (.int p2)] [(.int p2)])) t → Steps p.tables e below (s₁.setTop (entryFrame m #[(.int p1), (.int p2)] 2)) t := by
      intro t kt
      refine pre1 _ ?_
      show Steps p.tables e below (s₁.setTop (mkF m 2 #[.val (.int p1), .val (.int p2)] [(.int p2), (.int p1)])) _
      refine XS.icmpYes X0.here hx rfl (pc0 := 2) (pc' := 9) rfl (hb hby d20_2) rfl (XT.ii_gt_t hc2_2) (by decide) (by decide) ?_
      show Steps p.tables e below (s₁.setTop (mkF m 9 #[.val (.int p1), .val (.int p2)] [])) _
      refine XS.iloadN X0.here hx rfl (hb hby d20_9) rfl ?_
      exact kt
    obtain ⟨fs, hr, hrun, hended, hW, hsame⟩ := X0.leave (v := some (.int p2)) (fun h => by rw [Bd.returns] at h; cases h)
    refine ⟨_, _, pre3 _ ?_, hrun, hended, _, _, rfl, ?_, ⟨_, rfl⟩, hW, hsame.mono (by decide) (by decide)⟩
    · show Steps p.tables e below (s₁.setTop (mkF m 10 #[.val (.int p1), .val (.int p2)] [(.int p2)])) _
      exact owRetI X0 hx Bd.returns (hb hby d20_10) hr
    · show Q20 Z p1 p2 h0 n0 _ s₁.heap _
      rw [e0]
      exact ⟨by unfold fn20; rw [if_pos hc2_2], N0, rfl⟩
  · skip
    have pre4 : ∀ t, Steps p.tables e below (s₁.setTop (mkF m 10 #[.val (.int p1), .val (.int p2)] [(.int p1)])) t → Steps p.tables e below (s₁.setTop (entryFrame m #[(.int p1), (.int p2)] 2)) t := by
      intro t kt
      refine pre1 _ ?_
      show Steps p.tables e below (s₁.setTop (mkF m 2 #[.val (.int p1), .val (.int p2)] [(.int p2), (.int p1)])) _
      refine XS.icmpNo X0.here hx rfl (hb hby d20_2) rfl (XT.ii_gt_f hc2_2) ?_
      show Steps p.tables e below (s₁.setTop (mkF m 5 #[.val (.int p1), .val (.int p2)] [])) _
      refine XS.iloadN X0.here hx rfl (hb hby d20_5) rfl ?_
      show Steps p.tables e below (s₁.setTop (mkF m 6 #[.val (.int p1), .val (.int p2)] [(.int p1)])) _
      refine XS.goto X0.here hx rfl (pc0 := 6) (pc' := 10) rfl (hb hby d20_6) (by decide) (by decide) ?_
      exact kt
    obtain ⟨fs, hr, hrun, hended, hW, hsame⟩ := X0.leave (v := some (.int p1)) (fun h => by rw [Bd.returns] at h; cases h)
    refine ⟨_, _, pre4 _ ?_, hrun, hended, _, _, rfl, ?_, ⟨_, rfl⟩, hW, hsame.mono (by decide) (by decide)⟩
    · show Steps p.tables e below (s₁.setTop (mkF m 10 #[.val (.int p1), .val (.int p2)] [(.int p1)])) _
      exact owRetI X0 hx Bd.returns (hb hby d20_10) hr
    · show Q20 Z p1 p2 h0 n0 _ s₁.heap _
      rw [e0]
      exact ⟨by unfold fn20; rw [if_neg hc2_2], N0, rfl⟩
theorem own_w (x : Int32) : fn24 x = fn6 x := rfl
theorem own_w1 {fb : Nat → Int32} (h : OB fb) : fn6 (fb 1) = (0 : Int32) := by rw [h.1]; rfl
theorem own_w2 {fb : Nat → Int32} (h : OB fb) : fn6 (fb 2) = (0 : Int32) := by rw [h.2.1]; rfl
theorem own_w5 {fb : Nat → Int32} (h : OB fb) : fn6 (fb 5) = (0 : Int32) := by rw [h.2.2.2.2.1]; rfl
def own_pos (ie b6 b7 : Int32) : Int32 := if (6 : Int32) < ie then (if (fn6 b6) = (0 : Int32) then (6 : Int32) else (if (7 : Int32) < ie then (if (fn6 b7) = (0 : Int32) then (7 : Int32) else (8 : Int32)) else (7 : Int32))) else (6 : Int32)
theorem d3_0 : decode prog_30_method_4_code 0 = .ok (.aload_n 0, 1) := by decide +kernel
theorem d3_1 : decode prog_30_method_4_code 1 = .ok (.getfield 24, 3) := by decide +kernel
theorem d3_4 : decode prog_30_method_4_code 4 = .ok (.aload_n 0, 1) := by decide +kernel
theorem d3_5 : decode prog_30_method_4_code 5 = .ok (.getfield 21, 3) := by decide +kernel
theorem d3_8 : decode prog_30_method_4_code 8 = .ok (.if_icmp .ge 21, 3) := by decide +kernel
theorem d3_11 : decode prog_30_method_4_code 11 = .ok (.aload_n 0, 1) := by decide +kernel
theorem d3_12 : decode prog_30_method_4_code 12 = .ok (.getfield 13, 3) := by decide +kernel
theorem d3_15 : decode prog_30_method_4_code 15 = .ok (.aload_n 0, 1) := by decide +kernel
theorem d3_16 : decode prog_30_method_4_code 16 = .ok (.getfield 24, 3) := by decide +kernel
theorem d3_19 : decode prog_30_method_4_code 19 = .ok (.baload, 1) := by decide +kernel
theorem d3_20 : decode prog_30_method_4_code 20 = .ok (.bipush 34, 2) := by decide +kernel
theorem d3_22 : decode prog_30_method_4_code 22 = .ok (.if_icmp .ne 7, 3) := by decide +kernel
theorem d3_25 : decode prog_30_method_4_code 25 = .ok (.iconst 1, 1) := by decide +kernel
theorem d3_26 : decode prog_30_method_4_code 26 = .ok (.goto 4, 3) := by decide +kernel
theorem d3_29 : decode prog_30_method_4_code 29 = .ok (.iconst 0, 1) := by decide +kernel
theorem d3_30 : decode prog_30_method_4_code 30 = .ok (.ireturn, 1) := by decide +kernel
theorem pn_3 : plainName "com/example/fama/fama/table/JsonLine" = true := by first | (simp [plainName, overriddenIn]; done) | decide +kernel
theorem ef_3 (m : MethodId) (x0 : Addr) : entryFrame m #[(.ref x0)] 1 = mkF m 0 #[.val (.ref x0)] [] := by first | (simp [entryFrame, mkF, argsToLocals, Value.category]; done) | rfl
def fn3 (a1 : Addr) (ab : Addr) (ia ie : Int32) (fb : Nat → Int32) (kb : Nat) : Int32 := (if ia < ie then (if (fb kb) = (34 : Int32) then (1 : Int32) else (0 : Int32)) else (0 : Int32))
def Q3 (Z : State) (a1 : Addr) (ab : Addr) (ia ie : Int32) (fb : Nat → Int32) (kb : Nat) (h0 : Heap) (n0 : Nat) (v : Option Value) (h : Heap) (L : List Loc) : Prop := v = some (.int (fn3 a1 ab ia ie fb kb)) ∧ Fr n0 L ∧ h = h0
set_option maxRecDepth 65536 in
set_option maxHeartbeats 40000000 in
theorem rm3 (l : Launch) (Z : State) (a0 : Array Value) (hw : ∀ d ∈ tables_1, d.before a0 Z = true) (ws : List Jvm.Cond) (a1 : Addr) (ab : Addr) (ia ie : Int32) (fb : Nat → Int32) (kb : Nat) (h0 : Heap) (n0 : Nat) (Z0 : n0 ≤ h0.size) (F_at : Fld Z h0 a1 "com/example/fama/fama/table/JsonLine" "at" "I" (.int ia)) (F_end : Fld Z h0 a1 "com/example/fama/fama/table/JsonLine" "end" "I" (.int ie)) (F_bytes : Fld Z h0 a1 "com/example/fama/fama/table/JsonLine" "bytes" "[B" (.ref ab)) (A_ab : owAI Z h0 ab .byte 9 fb) (hin : ia < ie → ia.toInt = (kb : Int) ∧ kb < 9) :
    MetFree l (⟨"com/example/fama/fama/table/JsonLine", "atString", "()Z"⟩ : MethodName) (head1 (Jvm.Cond.code (⟨"com/example/fama/fama/table/JsonLine", "atString", "()Z"⟩ : MethodName) prog_30_method_4_code 1 (some .boolean) :: ws) ({ frames := 0, cells := 0, slots := 0, locals := 0 } : Room)) (fun a U => a = #[(.ref a1)] ∧ Z.Warmed39 U.vm ∧ U.heap = h0) (fun _ _ _ _ _ => True) (fun _ U o U' => ∃ v L, o = .returned v ∧ Q3 Z a1 ab ia ie fb kb h0 n0 v U'.heap L ∧ FrameEnd U o U' L ({ frames := 0, cells := 0, slots := 0, locals := 0 } : Room).cells ({ frames := 0, cells := 0, slots := 0, locals := 0 } : Room).slots) := by
  refine MetFree.of_bodySF (plainFor_of_name pn_3) hisR ?_
  intro p e s m args below meth c s₁ Bd hml0 hP hK
  obtain ⟨rfl, hZ, hh⟩ := hP
  have hx := Bd.exec
  have hby := Bd.bytes
  have hml : c.maxLocals = 1 := hml0
  have hown : s.vm.findClass "com/example/fama/fama/table/JsonLine" = some m.cls := findClass_of_methodNamed Bd.named
  have hnm := (name_of_methodNamed Bd.named Bd.method).1
  have X0 : Stand p l e ({ frames := 0, cells := 0, slots := 0, locals := 0 } : Room) s m #[(.ref a1)] below meth c s₁ [] 0 0 := Stand.of_body Bd
  have e0 : s₁.heap = h0 := by rw [← hh, Bd.state]; rfl
  have N0 := Fr.nil n0
  have pre0 : ∀ t, Steps p.tables e below (s₁.setTop (mkF m 0 #[.val (.ref a1)] [])) t → Steps p.tables e below (s₁.setTop (entryFrame m #[(.ref a1)] 1)) t := fun t k => castTop (ef_3 m a1) k
  obtain ⟨T1, X1, hE1, st1⟩ := getF X0 hx hZ hown (host := "") (Or.inl (hw _ (List.mem_of_getElem? (i := 19) rfl))) Via.refl e0 F_at (g := (mkF m 1 #[.val (.ref a1)] [(.ref a1)])) rfl rfl (hb hby d3_1)
  obtain ⟨T2, X2, hE2, st2⟩ := getF X1 hx hZ hown (host := "") (Or.inl (hw _ (List.mem_of_getElem? (i := 17) rfl))) Via.refl hE1 F_end (g := (mkF m 5 #[.val (.ref a1)] [(.ref a1), (.int ia)])) rfl rfl (hb hby d3_5)
  have pre3 : ∀ t, Steps p.tables e below (T2.setTop (mkF m 8 #[.val (.ref a1)] [(.int ie), (.int ia)])) t → Steps p.tables e below (s₁.setTop (entryFrame m #[(.ref a1)] 1)) t := by
    intro t kt
    refine pre0 _ ?_
    show Steps p.tables e below (s₁.setTop (mkF m 0 #[.val (.ref a1)] [])) _
    refine XS.aloadN X0.here hx rfl (hb hby d3_0) rfl rfl ?_
    show Steps p.tables e below (s₁.setTop (mkF m 1 #[.val (.ref a1)] [(.ref a1)])) _
    refine st1 _ ?_
    show Steps p.tables e below (T1.setTop (mkF m 4 #[.val (.ref a1)] [(.int ia)])) _
    refine XS.aloadN X1.here hx rfl (hb hby d3_4) rfl rfl ?_
    show Steps p.tables e below (T1.setTop (mkF m 5 #[.val (.ref a1)] [(.ref a1), (.int ia)])) _
    refine st2 _ ?_
    exact kt
  by_cases hc8_4 : ia < ie
  · skip
    obtain ⟨T5, X5, hE5, st5⟩ := getF X2 hx hZ hown (host := "") (Or.inl (hw _ (List.mem_of_getElem? (i := 13) rfl))) Via.refl hE2 F_bytes (g := (mkF m 12 #[.val (.ref a1)] [(.ref a1)])) rfl rfl (hb hby d3_12)
    obtain ⟨T6, X6, hE6, st6⟩ := getF X5 hx hZ hown (host := "") (Or.inl (hw _ (List.mem_of_getElem? (i := 19) rfl))) Via.refl hE5 F_at (g := (mkF m 16 #[.val (.ref a1)] [(.ref a1), (.ref ab)])) rfl rfl (hb hby d3_16)
    have pre7 : ∀ t, Steps p.tables e below (T6.setTop (mkF m 22 #[.val (.ref a1)] [(.int (34 : Int32)), (.int (fb kb))])) t → Steps p.tables e below (s₁.setTop (entryFrame m #[(.ref a1)] 1)) t := by
      intro t kt
      refine pre3 _ ?_
      show Steps p.tables e below (T2.setTop (mkF m 8 #[.val (.ref a1)] [(.int ie), (.int ia)])) _
      refine XS.icmpNo X2.here hx rfl (hb hby d3_8) rfl (XT.ii_ge_f hc8_4) ?_
      show Steps p.tables e below (T2.setTop (mkF m 11 #[.val (.ref a1)] [])) _
      refine XS.aloadN X2.here hx rfl (hb hby d3_11) rfl rfl ?_
      show Steps p.tables e below (T2.setTop (mkF m 12 #[.val (.ref a1)] [(.ref a1)])) _
      refine st5 _ ?_
      show Steps p.tables e below (T5.setTop (mkF m 15 #[.val (.ref a1)] [(.ref ab)])) _
      refine XS.aloadN X5.here hx rfl (hb hby d3_15) rfl rfl ?_
      show Steps p.tables e below (T5.setTop (mkF m 16 #[.val (.ref a1)] [(.ref a1), (.ref ab)])) _
      refine st6 _ ?_
      show Steps p.tables e below (T6.setTop (mkF m 19 #[.val (.ref a1)] [(.int ia), (.ref ab)])) _
      refine owLdB (k := kb) X6 hx hZ hE6 A_ab (j := ia) (hin hc8_4).1 (hin hc8_4).2 (g := (mkF m 19 #[.val (.ref a1)] [(.int ia), (.ref ab)])) rfl rfl (hb hby d3_19) _ ?_
      show Steps p.tables e below (T6.setTop (mkF m 20 #[.val (.ref a1)] [(.int (fb kb))])) _
      refine XS.bipush X6.here hx rfl (hb hby d3_20) ?_
      exact kt
    by_cases hc22_8 : (fb kb) = (34 : Int32)
    · skip
      have pre9 : ∀ t, Steps p.tables e below (T6.setTop (mkF m 30 #[.val (.ref a1)] [(.int (1 : Int32))])) t → Steps p.tables e below (s₁.setTop (entryFrame m #[(.ref a1)] 1)) t := by
        intro t kt
        refine pre7 _ ?_
        show Steps p.tables e below (T6.setTop (mkF m 22 #[.val (.ref a1)] [(.int (34 : Int32)), (.int (fb kb))])) _
        refine XS.icmpNo X6.here hx rfl (hb hby d3_22) rfl (XT.ii_ne_f hc22_8) ?_
        show Steps p.tables e below (T6.setTop (mkF m 25 #[.val (.ref a1)] [])) _
        refine XS.iconst X6.here hx rfl (hb hby d3_25) ?_
        show Steps p.tables e below (T6.setTop (mkF m 26 #[.val (.ref a1)] [(.int (1 : Int32))])) _
        refine XS.goto X6.here hx rfl (pc0 := 26) (pc' := 30) rfl (hb hby d3_26) (by decide) (by decide) ?_
        exact kt
      obtain ⟨fs, hr, hrun, hended, hW, hsame⟩ := X6.leave (v := some (.int (1 : Int32))) (fun h => by rw [Bd.returns] at h; cases h)
      refine ⟨_, _, pre9 _ ?_, hrun, hended, _, _, rfl, ?_, ⟨_, rfl⟩, hW, hsame.mono (by decide) (by decide)⟩
      · show Steps p.tables e below (T6.setTop (mkF m 30 #[.val (.ref a1)] [(.int (1 : Int32))])) _
        exact retN X6 hx (t := .boolean) Bd.returns (by simp) (hb hby d3_30) hr
      · show Q3 Z a1 ab ia ie fb kb h0 n0 _ T6.heap _
        rw [hE6]
        exact ⟨by unfold fn3; rw [if_pos hc8_4, if_pos hc22_8], N0, rfl⟩
    · skip
      have pre10 : ∀ t, Steps p.tables e below (T6.setTop (mkF m 30 #[.val (.ref a1)] [(.int (0 : Int32))])) t → Steps p.tables e below (s₁.setTop (entryFrame m #[(.ref a1)] 1)) t := by
        intro t kt
        refine pre7 _ ?_
        show Steps p.tables e below (T6.setTop (mkF m 22 #[.val (.ref a1)] [(.int (34 : Int32)), (.int (fb kb))])) _
        refine XS.icmpYes X6.here hx rfl (pc0 := 22) (pc' := 29) rfl (hb hby d3_22) rfl (XT.ii_ne_t hc22_8) (by decide) (by decide) ?_
        show Steps p.tables e below (T6.setTop (mkF m 29 #[.val (.ref a1)] [])) _
        refine XS.iconst X6.here hx rfl (hb hby d3_29) ?_
        exact kt
      obtain ⟨fs, hr, hrun, hended, hW, hsame⟩ := X6.leave (v := some (.int (0 : Int32))) (fun h => by rw [Bd.returns] at h; cases h)
      refine ⟨_, _, pre10 _ ?_, hrun, hended, _, _, rfl, ?_, ⟨_, rfl⟩, hW, hsame.mono (by decide) (by decide)⟩
      · show Steps p.tables e below (T6.setTop (mkF m 30 #[.val (.ref a1)] [(.int (0 : Int32))])) _
        exact retN X6 hx (t := .boolean) Bd.returns (by simp) (hb hby d3_30) hr
      · show Q3 Z a1 ab ia ie fb kb h0 n0 _ T6.heap _
        rw [hE6]
        exact ⟨by unfold fn3; rw [if_pos hc8_4, if_neg hc22_8], N0, rfl⟩
  · skip
    have pre11 : ∀ t, Steps p.tables e below (T2.setTop (mkF m 30 #[.val (.ref a1)] [(.int (0 : Int32))])) t → Steps p.tables e below (s₁.setTop (entryFrame m #[(.ref a1)] 1)) t := by
      intro t kt
      refine pre3 _ ?_
      show Steps p.tables e below (T2.setTop (mkF m 8 #[.val (.ref a1)] [(.int ie), (.int ia)])) _
      refine XS.icmpYes X2.here hx rfl (pc0 := 8) (pc' := 29) rfl (hb hby d3_8) rfl (XT.ii_ge_t hc8_4) (by decide) (by decide) ?_
      show Steps p.tables e below (T2.setTop (mkF m 29 #[.val (.ref a1)] [])) _
      refine XS.iconst X2.here hx rfl (hb hby d3_29) ?_
      exact kt
    obtain ⟨fs, hr, hrun, hended, hW, hsame⟩ := X2.leave (v := some (.int (0 : Int32))) (fun h => by rw [Bd.returns] at h; cases h)
    refine ⟨_, _, pre11 _ ?_, hrun, hended, _, _, rfl, ?_, ⟨_, rfl⟩, hW, hsame.mono (by decide) (by decide)⟩
    · show Steps p.tables e below (T2.setTop (mkF m 30 #[.val (.ref a1)] [(.int (0 : Int32))])) _
      exact retN X2 hx (t := .boolean) Bd.returns (by simp) (hb hby d3_30) hr
    · show Q3 Z a1 ab ia ie fb kb h0 n0 _ T2.heap _
      rw [hE2]
      exact ⟨by unfold fn3; rw [if_neg hc8_4], N0, rfl⟩
theorem d5_0 : decode prog_30_method_18_code 0 = .ok (.aload_n 0, 1) := by decide +kernel
theorem d5_1 : decode prog_30_method_18_code 1 = .ok (.getfield 24, 3) := by decide +kernel
theorem d5_4 : decode prog_30_method_18_code 4 = .ok (.aload_n 0, 1) := by decide +kernel
theorem d5_5 : decode prog_30_method_18_code 5 = .ok (.getfield 21, 3) := by decide +kernel
theorem d5_8 : decode prog_30_method_18_code 8 = .ok (.if_icmp .ge 31, 3) := by decide +kernel
theorem d5_11 : decode prog_30_method_18_code 11 = .ok (.aload_n 0, 1) := by decide +kernel
theorem d5_12 : decode prog_30_method_18_code 12 = .ok (.getfield 13, 3) := by decide +kernel
theorem d5_15 : decode prog_30_method_18_code 15 = .ok (.aload_n 0, 1) := by decide +kernel
theorem d5_16 : decode prog_30_method_18_code 16 = .ok (.getfield 24, 3) := by decide +kernel
theorem d5_19 : decode prog_30_method_18_code 19 = .ok (.baload, 1) := by decide +kernel
theorem d5_20 : decode prog_30_method_18_code 20 = .ok (.invokestatic 173, 3) := by decide +kernel
theorem d5_23 : decode prog_30_method_18_code 23 = .ok (.ifCond .eq 16, 3) := by decide +kernel
theorem d5_26 : decode prog_30_method_18_code 26 = .ok (.aload_n 0, 1) := by decide +kernel
theorem d5_27 : decode prog_30_method_18_code 27 = .ok (.dup, 1) := by decide +kernel
theorem d5_28 : decode prog_30_method_18_code 28 = .ok (.getfield 24, 3) := by decide +kernel
theorem d5_31 : decode prog_30_method_18_code 31 = .ok (.iconst 1, 1) := by decide +kernel
theorem d5_32 : decode prog_30_method_18_code 32 = .ok (.iadd, 1) := by decide +kernel
theorem d5_33 : decode prog_30_method_18_code 33 = .ok (.putfield 24, 3) := by decide +kernel
theorem d5_36 : decode prog_30_method_18_code 36 = .ok (.goto (-36), 3) := by decide +kernel
theorem d5_39 : decode prog_30_method_18_code 39 = .ok (.return_, 1) := by decide +kernel
theorem pn_5 : plainName "com/example/fama/fama/table/JsonLine" = true := by first | (simp [plainName, overriddenIn]; done) | decide +kernel
theorem ef_5 (m : MethodId) (x0 : Addr) : entryFrame m #[(.ref x0)] 1 = mkF m 0 #[.val (.ref x0)] [] := by first | (simp [entryFrame, mkF, argsToLocals, Value.category]; done) | rfl
theorem pd_0 : parseMethodDescriptor "(B)Z" = some ⟨[.byte], some .boolean⟩ := by decide +kernel
def Q5 (Z : State) (a1 : Addr) (ab : Addr) (ia ie : Int32) (fb : Nat → Int32) (ka : Nat) (h0 : Heap) (n0 : Nat) (v : Option Value) (h : Heap) (L : List Loc) : Prop := v = none ∧ Fr n0 L ∧ h = h0
set_option maxRecDepth 65536 in
set_option maxHeartbeats 40000000 in
theorem rm5 (l : Launch) (Z : State) (a0 : Array Value) (hw : ∀ d ∈ tables_1, d.before a0 Z = true) (ws : List Jvm.Cond) (a1 : Addr) (ab : Addr) (ia ie : Int32) (fb : Nat → Int32) (ka : Nat) (h0 : Heap) (n0 : Nat) (Z0 : n0 ≤ h0.size) (F_at : Fld Z h0 a1 "com/example/fama/fama/table/JsonLine" "at" "I" (.int ia)) (F_end : Fld Z h0 a1 "com/example/fama/fama/table/JsonLine" "end" "I" (.int ie)) (F_bytes : Fld Z h0 a1 "com/example/fama/fama/table/JsonLine" "bytes" "[B" (.ref ab)) (A_ab : owAI Z h0 ab .byte 9 fb) (hin : ia < ie) (hka : ia.toInt = (ka : Int)) (hk9 : ka < 9) (hws : fn6 (fb ka) = (0 : Int32)) :
    MetFree l (⟨"com/example/fama/fama/table/JsonLine", "skipWhitespace", "()V"⟩ : MethodName) (head1 (Jvm.Cond.code (⟨"com/example/fama/fama/table/JsonLine", "skipWhitespace", "()V"⟩ : MethodName) prog_30_method_18_code 1 none :: ws) ({ frames := 1, cells := 0, slots := 0, locals := 12 } : Room)) (fun a U => a = #[(.ref a1)] ∧ Z.Warmed39 U.vm ∧ U.heap = h0) (fun _ _ _ _ _ => True) (fun _ U o U' => ∃ v L, o = .returned v ∧ Q5 Z a1 ab ia ie fb ka h0 n0 v U'.heap L ∧ FrameEnd U o U' L ({ frames := 1, cells := 0, slots := 0, locals := 12 } : Room).cells ({ frames := 1, cells := 0, slots := 0, locals := 12 } : Room).slots) := by
  refine MetFree.of_bodySF (plainFor_of_name pn_5) hisR ?_
  intro p e s m args below meth c s₁ Bd hml0 hP hK
  obtain ⟨rfl, hZ, hh⟩ := hP
  have hx := Bd.exec
  have hby := Bd.bytes
  have hml : c.maxLocals = 1 := hml0
  have hown : s.vm.findClass "com/example/fama/fama/table/JsonLine" = some m.cls := findClass_of_methodNamed Bd.named
  have hnm := (name_of_methodNamed Bd.named Bd.method).1
  have X0 : Stand p l e ({ frames := 1, cells := 0, slots := 0, locals := 12 } : Room) s m #[(.ref a1)] below meth c s₁ [] 0 0 := Stand.of_body Bd
  have e0 : s₁.heap = h0 := by rw [← hh, Bd.state]; rfl
  have N0 := Fr.nil n0
  have pre0 : ∀ t, Steps p.tables e below (s₁.setTop (mkF m 0 #[.val (.ref a1)] [])) t → Steps p.tables e below (s₁.setTop (entryFrame m #[(.ref a1)] 1)) t := fun t k => castTop (ef_5 m a1) k
  obtain ⟨T1, X1, hE1, st1⟩ := getF X0 hx hZ hown (host := "") (Or.inl (hw _ (List.mem_of_getElem? (i := 19) rfl))) Via.refl e0 F_at (g := (mkF m 1 #[.val (.ref a1)] [(.ref a1)])) rfl rfl (hb hby d5_1)
  obtain ⟨T2, X2, hE2, st2⟩ := getF X1 hx hZ hown (host := "") (Or.inl (hw _ (List.mem_of_getElem? (i := 17) rfl))) Via.refl hE1 F_end (g := (mkF m 5 #[.val (.ref a1)] [(.ref a1), (.int ia)])) rfl rfl (hb hby d5_5)
  obtain ⟨T3, X3, hE3, st3⟩ := getF X2 hx hZ hown (host := "") (Or.inl (hw _ (List.mem_of_getElem? (i := 13) rfl))) Via.refl hE2 F_bytes (g := (mkF m 12 #[.val (.ref a1)] [(.ref a1)])) rfl rfl (hb hby d5_12)
  obtain ⟨T4, X4, hE4, st4⟩ := getF X3 hx hZ hown (host := "") (Or.inl (hw _ (List.mem_of_getElem? (i := 19) rfl))) Via.refl hE3 F_at (g := (mkF m 16 #[.val (.ref a1)] [(.ref a1), (.ref ab)])) rfl rfl (hb hby d5_16)
  obtain ⟨_, _, ⟨T5, L5, k5, n5⟩, -, X5, ⟨Lc5, hQ5, l5, y5, z5⟩, st5⟩ := Jvm.LawKit.callS X4 hx (y := (⟨"com/example/fama/fama/table/JsonLine", "isWhitespace", "(B)Z"⟩ : MethodName)) hown (mvT hZ (hw _ (List.mem_of_getElem? (i := 35) rfl))) (mvT hZ (hw _ (List.mem_of_getElem? (i := 36) rfl))) (mvT hZ (hw _ (List.mem_of_getElem? (i := 4) rfl))) (mvT hZ (hw _ (List.mem_of_getElem? (i := 37) rfl))) (by decide) (backOf (W := 0) (rm6 l Z a0 hw [] (fb ka) h0 n0 Z0) hZ (hw _ (List.mem_of_getElem? (i := 37) rfl)) (hw _ (List.mem_of_getElem? (i := 4) rfl)) (by decide) (by decide)) (g := (mkF m 20 #[.val (.ref a1)] [(.int (fb ka))])) rfl (by rw [hml]; rfl) (argsL := [(.int (fb ka))]) (rest := []) (lenOf pd_0 rfl) rfl (by show 2 * 0 + _ ≤ _; exact Nat.le_of_eq rfl) (hb hby d5_20) (fun _ _ => ⟨rfl, hE4, (by decide : 0 + 0 ≤ _), (by decide : 0 + 0 ≤ _)⟩)
  dsimp only [Pt.U, Pt.locs, Pt.cells, Pt.slots] at X5 l5 y5 z5 st5 hQ5
  subst l5 y5 z5
  obtain ⟨rfl, N5q, hE5⟩ := hQ5
  have N5 := Fr.app N0 N5q
  have pre6 : ∀ t, Steps p.tables e below (T5.setTop (mkF m 39 #[.val (.ref a1)] [])) t → Steps p.tables e below (s₁.setTop (entryFrame m #[(.ref a1)] 1)) t := by
    intro t kt
    refine pre0 _ ?_
    show Steps p.tables e below (s₁.setTop (mkF m 0 #[.val (.ref a1)] [])) _
    refine XS.aloadN X0.here hx rfl (hb hby d5_0) rfl rfl ?_
    show Steps p.tables e below (s₁.setTop (mkF m 1 #[.val (.ref a1)] [(.ref a1)])) _
    refine st1 _ ?_
    show Steps p.tables e below (T1.setTop (mkF m 4 #[.val (.ref a1)] [(.int ia)])) _
    refine XS.aloadN X1.here hx rfl (hb hby d5_4) rfl rfl ?_
    show Steps p.tables e below (T1.setTop (mkF m 5 #[.val (.ref a1)] [(.ref a1), (.int ia)])) _
    refine st2 _ ?_
    show Steps p.tables e below (T2.setTop (mkF m 8 #[.val (.ref a1)] [(.int ie), (.int ia)])) _
    refine XS.icmpNo X2.here hx rfl (hb hby d5_8) rfl (XT.ii_ge_f hin) ?_
    show Steps p.tables e below (T2.setTop (mkF m 11 #[.val (.ref a1)] [])) _
    refine XS.aloadN X2.here hx rfl (hb hby d5_11) rfl rfl ?_
    show Steps p.tables e below (T2.setTop (mkF m 12 #[.val (.ref a1)] [(.ref a1)])) _
    refine st3 _ ?_
    show Steps p.tables e below (T3.setTop (mkF m 15 #[.val (.ref a1)] [(.ref ab)])) _
    refine XS.aloadN X3.here hx rfl (hb hby d5_15) rfl rfl ?_
    show Steps p.tables e below (T3.setTop (mkF m 16 #[.val (.ref a1)] [(.ref a1), (.ref ab)])) _
    refine st4 _ ?_
    show Steps p.tables e below (T4.setTop (mkF m 19 #[.val (.ref a1)] [(.int ia), (.ref ab)])) _
    refine owLdB (k := ka) X4 hx hZ hE4 A_ab (j := ia) hka hk9 (g := (mkF m 19 #[.val (.ref a1)] [(.int ia), (.ref ab)])) rfl rfl (hb hby d5_19) _ ?_
    show Steps p.tables e below (T4.setTop (mkF m 20 #[.val (.ref a1)] [(.int (fb ka))])) _
    refine st5 _ ?_
    show Steps p.tables e below (T5.setTop (mkF m 23 #[.val (.ref a1)] [(.int (fn6 (fb ka)))])) _
    refine XS.ifYes X5.here hx rfl (pc0 := 23) (pc' := 39) rfl (hb hby d5_23) rfl (XT.i0_eq_t hws) (by decide) (by decide) ?_
    exact kt
  obtain ⟨fs, hr, hrun, hended, hW, hsame⟩ := X5.leave (v := none) (fun _ => rfl)
  refine ⟨_, _, pre6 _ ?_, hrun, hended, _, _, rfl, ?_, ⟨_, rfl⟩, hW, hsame.mono (by decide) (by decide)⟩
  · show Steps p.tables e below (T5.setTop (mkF m 39 #[.val (.ref a1)] [])) _
    exact X5.returnOut hx Bd.returns (hb hby d5_39) hr
  · show Q5 Z a1 ab ia ie fb ka h0 n0 _ T5.heap _
    rw [hE5]
    exact ⟨rfl, N5, rfl⟩
theorem pn_5x : plainName "com/example/fama/fama/table/JsonLine" = true := by first | (simp [plainName, overriddenIn]; done) | decide +kernel
theorem ef_5x (m : MethodId) (x0 : Addr) : entryFrame m #[(.ref x0)] 1 = mkF m 0 #[.val (.ref x0)] [] := by first | (simp [entryFrame, mkF, argsToLocals, Value.category]; done) | rfl
def Q5x (Z : State) (a1 : Addr) (ab : Addr) (ie : Int32) (fb : Nat → Int32) (h0 : Heap) (n0 : Nat) (v : Option Value) (h : Heap) (L : List Loc) : Prop := v = none ∧ Fr n0 L ∧ Keep h0 h [a1] ∧ Exa Z h a1 "com/example/fama/fama/table/JsonLine" ∧ Fld Z h a1 "com/example/fama/fama/table/JsonLine" "at" "I" (.int (own_pos ie (fb 6) (fb 7))) ∧ Fld Z h a1 "com/example/fama/fama/table/JsonLine" "end" "I" (.int ie) ∧ Fld Z h a1 "com/example/fama/fama/table/JsonLine" "bytes" "[B" (.ref ab) ∧ Fld Z h a1 "com/example/fama/fama/table/JsonLine" "first" "Z" (.int (0 : Int32))
set_option maxRecDepth 65536 in
set_option maxHeartbeats 40000000 in
theorem rm5x (l : Launch) (Z : State) (a0 : Array Value) (hw : ∀ d ∈ tables_1, d.before a0 Z = true) (ws : List Jvm.Cond) (a1 : Addr) (ab : Addr) (ie : Int32) (fb : Nat → Int32) (h0 : Heap) (n0 : Nat) (Z0 : n0 ≤ h0.size) (E_a1 : Exa Z h0 a1 "com/example/fama/fama/table/JsonLine") (F_at : Fld Z h0 a1 "com/example/fama/fama/table/JsonLine" "at" "I" (.int (6 : Int32))) (F_end : Fld Z h0 a1 "com/example/fama/fama/table/JsonLine" "end" "I" (.int ie)) (F_bytes : Fld Z h0 a1 "com/example/fama/fama/table/JsonLine" "bytes" "[B" (.ref ab)) (F_first : Fld Z h0 a1 "com/example/fama/fama/table/JsonLine" "first" "Z" (.int (0 : Int32))) (A_ab : owAI Z h0 ab .byte 9 fb) (g_a1 : n0 ≤ a1) (n1b : a1 ≠ ab) (hoe : OE ie) (hob : OB fb) :
    MetFree l (⟨"com/example/fama/fama/table/JsonLine", "skipWhitespace", "()V"⟩ : MethodName) (head1 (Jvm.Cond.code (⟨"com/example/fama/fama/table/JsonLine", "skipWhitespace", "()V"⟩ : MethodName) prog_30_method_18_code 1 none :: ws) ({ frames := 1, cells := 0, slots := 0, locals := 12 } : Room)) (fun a U => a = #[(.ref a1)] ∧ Z.Warmed39 U.vm ∧ U.heap = h0) (fun _ _ _ _ _ => True) (fun _ U o U' => ∃ v L, o = .returned v ∧ Q5x Z a1 ab ie fb h0 n0 v U'.heap L ∧ FrameEnd U o U' L ({ frames := 1, cells := 0, slots := 0, locals := 12 } : Room).cells ({ frames := 1, cells := 0, slots := 0, locals := 12 } : Room).slots) := by
  refine MetFree.of_bodySF (plainFor_of_name pn_5x) hisR ?_
  intro p e s m args below meth c s₁ Bd hml0 hP hK
  obtain ⟨rfl, hZ, hh⟩ := hP
  have hx := Bd.exec
  have hby := Bd.bytes
  have hml : c.maxLocals = 1 := hml0
  have hown : s.vm.findClass "com/example/fama/fama/table/JsonLine" = some m.cls := findClass_of_methodNamed Bd.named
  have hnm := (name_of_methodNamed Bd.named Bd.method).1
  have X0 : Stand p l e ({ frames := 1, cells := 0, slots := 0, locals := 12 } : Room) s m #[(.ref a1)] below meth c s₁ [] 0 0 := Stand.of_body Bd
  have e0 : s₁.heap = h0 := by rw [← hh, Bd.state]; rfl
  have N0 := Fr.nil n0
  have pre0 : ∀ t, Steps p.tables e below (s₁.setTop (mkF m 0 #[.val (.ref a1)] [])) t → Steps p.tables e below (s₁.setTop (entryFrame m #[(.ref a1)] 1)) t := fun t k => castTop (ef_5x m a1) k
  obtain ⟨T1, X1, hE1, st1⟩ := getF X0 hx hZ hown (host := "") (Or.inl (hw _ (List.mem_of_getElem? (i := 19) rfl))) Via.refl e0 F_at (g := (mkF m 1 #[.val (.ref a1)] [(.ref a1)])) rfl rfl (hb hby d5_1)
  obtain ⟨T2, X2, hE2, st2⟩ := getF X1 hx hZ hown (host := "") (Or.inl (hw _ (List.mem_of_getElem? (i := 17) rfl))) Via.refl hE1 F_end (g := (mkF m 5 #[.val (.ref a1)] [(.ref a1), (.int (6 : Int32))])) rfl rfl (hb hby d5_5)
  have pre3 : ∀ t, Steps p.tables e below (T2.setTop (mkF m 8 #[.val (.ref a1)] [(.int ie), (.int (6 : Int32))])) t → Steps p.tables e below (s₁.setTop (entryFrame m #[(.ref a1)] 1)) t := by
    intro t kt
    refine pre0 _ ?_
    show Steps p.tables e below (s₁.setTop (mkF m 0 #[.val (.ref a1)] [])) _
    refine XS.aloadN X0.here hx rfl (hb hby d5_0) rfl rfl ?_
    show Steps p.tables e below (s₁.setTop (mkF m 1 #[.val (.ref a1)] [(.ref a1)])) _
    refine st1 _ ?_
    show Steps p.tables e below (T1.setTop (mkF m 4 #[.val (.ref a1)] [(.int (6 : Int32))])) _
    refine XS.aloadN X1.here hx rfl (hb hby d5_4) rfl rfl ?_
    show Steps p.tables e below (T1.setTop (mkF m 5 #[.val (.ref a1)] [(.ref a1), (.int (6 : Int32))])) _
    refine st2 _ ?_
    exact kt
  by_cases hc8_4 : (6 : Int32) < ie
  · skip
    obtain ⟨T5, X5, hE5, st5⟩ := getF X2 hx hZ hown (host := "") (Or.inl (hw _ (List.mem_of_getElem? (i := 13) rfl))) Via.refl hE2 F_bytes (g := (mkF m 12 #[.val (.ref a1)] [(.ref a1)])) rfl rfl (hb hby d5_12)
    obtain ⟨T6, X6, hE6, st6⟩ := getF X5 hx hZ hown (host := "") (Or.inl (hw _ (List.mem_of_getElem? (i := 19) rfl))) Via.refl hE5 F_at (g := (mkF m 16 #[.val (.ref a1)] [(.ref a1), (.ref ab)])) rfl rfl (hb hby d5_16)
    obtain ⟨_, _, ⟨T7, L7, k7, n7⟩, -, X7, ⟨Lc7, hQ7, l7, y7, z7⟩, st7⟩ := Jvm.LawKit.callS X6 hx (y := (⟨"com/example/fama/fama/table/JsonLine", "isWhitespace", "(B)Z"⟩ : MethodName)) hown (mvT hZ (hw _ (List.mem_of_getElem? (i := 35) rfl))) (mvT hZ (hw _ (List.mem_of_getElem? (i := 36) rfl))) (mvT hZ (hw _ (List.mem_of_getElem? (i := 4) rfl))) (mvT hZ (hw _ (List.mem_of_getElem? (i := 37) rfl))) (by decide) (backOf (W := 0) (rm6 l Z a0 hw [] (fb 6) h0 n0 Z0) hZ (hw _ (List.mem_of_getElem? (i := 37) rfl)) (hw _ (List.mem_of_getElem? (i := 4) rfl)) (by decide) (by decide)) (g := (mkF m 20 #[.val (.ref a1)] [(.int (fb 6))])) rfl (by rw [hml]; rfl) (argsL := [(.int (fb 6))]) (rest := []) (lenOf pd_0 rfl) rfl (by show 2 * 0 + _ ≤ _; exact Nat.le_of_eq rfl) (hb hby d5_20) (fun _ _ => ⟨rfl, hE6, (by decide : 0 + 0 ≤ _), (by decide : 0 + 0 ≤ _)⟩)
    dsimp only [Pt.U, Pt.locs, Pt.cells, Pt.slots] at X7 l7 y7 z7 st7 hQ7
    subst l7 y7 z7
    obtain ⟨rfl, N7q, hE7⟩ := hQ7
    have N7 := Fr.app N0 N7q
    have pre8 : ∀ t, Steps p.tables e below (T7.setTop (mkF m 23 #[.val (.ref a1)] [(.int (fn6 (fb 6)))])) t → Steps p.tables e below (s₁.setTop (entryFrame m #[(.ref a1)] 1)) t := by
      intro t kt
      refine pre3 _ ?_
      show Steps p.tables e below (T2.setTop (mkF m 8 #[.val (.ref a1)] [(.int ie), (.int (6 : Int32))])) _
      refine XS.icmpNo X2.here hx rfl (hb hby d5_8) rfl (XT.ii_ge_f hc8_4) ?_
      show Steps p.tables e below (T2.setTop (mkF m 11 #[.val (.ref a1)] [])) _
      refine XS.aloadN X2.here hx rfl (hb hby d5_11) rfl rfl ?_
      show Steps p.tables e below (T2.setTop (mkF m 12 #[.val (.ref a1)] [(.ref a1)])) _
      refine st5 _ ?_
      show Steps p.tables e below (T5.setTop (mkF m 15 #[.val (.ref a1)] [(.ref ab)])) _
      refine XS.aloadN X5.here hx rfl (hb hby d5_15) rfl rfl ?_
      show Steps p.tables e below (T5.setTop (mkF m 16 #[.val (.ref a1)] [(.ref a1), (.ref ab)])) _
      refine st6 _ ?_
      show Steps p.tables e below (T6.setTop (mkF m 19 #[.val (.ref a1)] [(.int (6 : Int32)), (.ref ab)])) _
      refine owLdB (k := 6) X6 hx hZ hE6 A_ab (j := (6 : Int32)) rfl (by decide) (g := (mkF m 19 #[.val (.ref a1)] [(.int (6 : Int32)), (.ref ab)])) rfl rfl (hb hby d5_19) _ ?_
      show Steps p.tables e below (T6.setTop (mkF m 20 #[.val (.ref a1)] [(.int (fb 6))])) _
      refine st7 _ ?_
      exact kt
    by_cases hc23_9 : (fn6 (fb 6)) = (0 : Int32)
    · skip
      have pre10 : ∀ t, Steps p.tables e below (T7.setTop (mkF m 39 #[.val (.ref a1)] [])) t → Steps p.tables e below (s₁.setTop (entryFrame m #[(.ref a1)] 1)) t := by
        intro t kt
        refine pre8 _ ?_
        show Steps p.tables e below (T7.setTop (mkF m 23 #[.val (.ref a1)] [(.int (fn6 (fb 6)))])) _
        refine XS.ifYes X7.here hx rfl (pc0 := 23) (pc' := 39) rfl (hb hby d5_23) rfl (XT.i0_eq_t hc23_9) (by decide) (by decide) ?_
        exact kt
      obtain ⟨fs, hr, hrun, hended, hW, hsame⟩ := X7.leave (v := none) (fun _ => rfl)
      refine ⟨_, _, pre10 _ ?_, hrun, hended, _, _, rfl, ?_, ⟨_, rfl⟩, hW, hsame.mono (by decide) (by decide)⟩
      · show Steps p.tables e below (T7.setTop (mkF m 39 #[.val (.ref a1)] [])) _
        exact X7.returnOut hx Bd.returns (hb hby d5_39) hr
      · show Q5x Z a1 ab ie fb h0 n0 _ T7.heap _
        rw [hE7]
        exact ⟨rfl, N7, (Keep.refl h0 [a1]), E_a1, (by unfold own_pos; rw [if_pos hc8_4, if_pos hc23_9]; exact F_at), F_end, F_bytes, F_first⟩
    · skip
      obtain ⟨T11, X11, hE11, st11⟩ := getF X7 hx hZ hown (host := "") (Or.inl (hw _ (List.mem_of_getElem? (i := 19) rfl))) Via.refl hE7 F_at (g := (mkF m 28 #[.val (.ref a1)] [(.ref a1), (.ref a1)])) rfl rfl (hb hby d5_28)
      have pre12 : ∀ t, Steps p.tables e below (T11.setTop (mkF m 33 #[.val (.ref a1)] [(.int ((6 : Int32) + (1 : Int32))), (.ref a1)])) t → Steps p.tables e below (s₁.setTop (entryFrame m #[(.ref a1)] 1)) t := by
        intro t kt
        refine pre8 _ ?_
        show Steps p.tables e below (T7.setTop (mkF m 23 #[.val (.ref a1)] [(.int (fn6 (fb 6)))])) _
        refine XS.ifNo X7.here hx rfl (hb hby d5_23) rfl (XT.i0_eq_f hc23_9) ?_
        show Steps p.tables e below (T7.setTop (mkF m 26 #[.val (.ref a1)] [])) _
        refine XS.aloadN X7.here hx rfl (hb hby d5_26) rfl rfl ?_
        show Steps p.tables e below (T7.setTop (mkF m 27 #[.val (.ref a1)] [(.ref a1)])) _
        refine XS.dup X7.here hx rfl (hb hby d5_27) rfl rfl ?_
        show Steps p.tables e below (T7.setTop (mkF m 28 #[.val (.ref a1)] [(.ref a1), (.ref a1)])) _
        refine st11 _ ?_
        show Steps p.tables e below (T11.setTop (mkF m 31 #[.val (.ref a1)] [(.int (6 : Int32)), (.ref a1)])) _
        refine XS.iconst X11.here hx rfl (hb hby d5_31) ?_
        show Steps p.tables e below (T11.setTop (mkF m 32 #[.val (.ref a1)] [(.int (1 : Int32)), (.int (6 : Int32)), (.ref a1)])) _
        refine XS.iadd X11.here hx rfl (hb hby d5_32) rfl ?_
        exact kt
      have ql13 : ((6 : Int32) + (1 : Int32)) = (7 : Int32) := (by decide)
      have pre14 : ∀ t, Steps p.tables e below (T11.setTop (mkF m 33 #[.val (.ref a1)] [(.int (7 : Int32)), (.ref a1)])) t → Steps p.tables e below (s₁.setTop (entryFrame m #[(.ref a1)] 1)) t := by
        intro t kt
        refine pre12 _ ?_
        rw [ql13]
        exact kt
      obtain ⟨T15, gh15, X15, hE15, W15, st15⟩ := putF X11 hx hZ hown (host := "") (Or.inl (hw _ (List.mem_of_getElem? (i := 19) rfl))) Via.refl hE11 F_at E_a1 (Or.inl (hw _ (List.mem_of_getElem? (i := 20) rfl))) (hw _ (List.mem_of_getElem? (i := 3) rfl)) (ty := .int) (by decide) rfl rfl (g := (mkF m 33 #[.val (.ref a1)] [(.int (7 : Int32)), (.ref a1)])) rfl rfl (hb hby d5_33)
      have Fw15 := F_at.same W15
      have f16 := E_a1.wr W15
      have f17 := A_ab.other W15 (Ne.symm n1b)
      have f19 := F_end.other W15 (Or.inr (slot_ne (Or.inr (hw _ (List.mem_of_getElem? (i := 18) rfl))) (Or.inl (hw _ (List.mem_of_getElem? (i := 20) rfl))) (by decide) (t := .int) (t' := .int) (by decide) (by decide)))
      have f20 := F_bytes.other W15 (Or.inr (slot_ne (Or.inr (hw _ (List.mem_of_getElem? (i := 14) rfl))) (Or.inl (hw _ (List.mem_of_getElem? (i := 20) rfl))) (by decide) (t := (.array .byte)) (t' := .int) (by decide) (by decide)))
      have f21 := F_first.other W15 (Or.inr (slot_ne (Or.inl (hw _ (List.mem_of_getElem? (i := 12) rfl))) (Or.inl (hw _ (List.mem_of_getElem? (i := 20) rfl))) (by decide) (t := .boolean) (t' := .int) (by decide) (by decide)))
      have Z22 := Nat.le_trans Z0 (Keep.of_wr W15).1
      have N23 := Fr.snoc X15 N7 g_a1
      have K24 := (Keep.refl h0 [a1]).wr W15 (Or.inl (List.mem_of_getElem? (i := 0) rfl))
      obtain ⟨T25, X25, hE25, st25⟩ := getF X15 hx hZ hown (host := "") (Or.inl (hw _ (List.mem_of_getElem? (i := 19) rfl))) Via.refl hE15 Fw15 (g := (mkF m 1 #[.val (.ref a1)] [(.ref a1)])) rfl rfl (hb hby d5_1)
      obtain ⟨T26, X26, hE26, st26⟩ := getF X25 hx hZ hown (host := "") (Or.inl (hw _ (List.mem_of_getElem? (i := 17) rfl))) Via.refl hE25 f19 (g := (mkF m 5 #[.val (.ref a1)] [(.ref a1), (.int (7 : Int32))])) rfl rfl (hb hby d5_5)
      have pre27 : ∀ t, Steps p.tables e below (T26.setTop (mkF m 8 #[.val (.ref a1)] [(.int ie), (.int (7 : Int32))])) t → Steps p.tables e below (s₁.setTop (entryFrame m #[(.ref a1)] 1)) t := by
        intro t kt
        refine pre14 _ ?_
        show Steps p.tables e below (T11.setTop (mkF m 33 #[.val (.ref a1)] [(.int (7 : Int32)), (.ref a1)])) _
        refine st15 _ ?_
        show Steps p.tables e below (T15.setTop (mkF m 36 #[.val (.ref a1)] [])) _
        refine XS.goto X15.here hx rfl (pc0 := 36) (pc' := 0) rfl (hb hby d5_36) (by decide) (by decide) ?_
        show Steps p.tables e below (T15.setTop (mkF m 0 #[.val (.ref a1)] [])) _
        refine XS.aloadN X15.here hx rfl (hb hby d5_0) rfl rfl ?_
        show Steps p.tables e below (T15.setTop (mkF m 1 #[.val (.ref a1)] [(.ref a1)])) _
        refine st25 _ ?_
        show Steps p.tables e below (T25.setTop (mkF m 4 #[.val (.ref a1)] [(.int (7 : Int32))])) _
        refine XS.aloadN X25.here hx rfl (hb hby d5_4) rfl rfl ?_
        show Steps p.tables e below (T25.setTop (mkF m 5 #[.val (.ref a1)] [(.ref a1), (.int (7 : Int32))])) _
        refine st26 _ ?_
        exact kt
      by_cases hc8_28 : (7 : Int32) < ie
      · skip
        obtain ⟨T29, X29, hE29, st29⟩ := getF X26 hx hZ hown (host := "") (Or.inl (hw _ (List.mem_of_getElem? (i := 13) rfl))) Via.refl hE26 f20 (g := (mkF m 12 #[.val (.ref a1)] [(.ref a1)])) rfl rfl (hb hby d5_12)
        obtain ⟨T30, X30, hE30, st30⟩ := getF X29 hx hZ hown (host := "") (Or.inl (hw _ (List.mem_of_getElem? (i := 19) rfl))) Via.refl hE29 Fw15 (g := (mkF m 16 #[.val (.ref a1)] [(.ref a1), (.ref ab)])) rfl rfl (hb hby d5_16)
        obtain ⟨_, _, ⟨T31, L31, k31, n31⟩, -, X31, ⟨Lc31, hQ31, l31, y31, z31⟩, st31⟩ := Jvm.LawKit.callS X30 hx (y := (⟨"com/example/fama/fama/table/JsonLine", "isWhitespace", "(B)Z"⟩ : MethodName)) hown (mvT hZ (hw _ (List.mem_of_getElem? (i := 35) rfl))) (mvT hZ (hw _ (List.mem_of_getElem? (i := 36) rfl))) (mvT hZ (hw _ (List.mem_of_getElem? (i := 4) rfl))) (mvT hZ (hw _ (List.mem_of_getElem? (i := 37) rfl))) (by decide) (backOf (W := 0) (rm6 l Z a0 hw [] (fb 7) gh15 n0 Z22) hZ (hw _ (List.mem_of_getElem? (i := 37) rfl)) (hw _ (List.mem_of_getElem? (i := 4) rfl)) (by decide) (by decide)) (g := (mkF m 20 #[.val (.ref a1)] [(.int (fb 7))])) rfl (by rw [hml]; rfl) (argsL := [(.int (fb 7))]) (rest := []) (lenOf pd_0 rfl) rfl (by show 2 * 0 + _ ≤ _; exact Nat.le_of_eq rfl) (hb hby d5_20) (fun _ _ => ⟨rfl, hE30, (by decide : 0 + 0 ≤ _), (by decide : 0 + 0 ≤ _)⟩)
        dsimp only [Pt.U, Pt.locs, Pt.cells, Pt.slots] at X31 l31 y31 z31 st31 hQ31
        subst l31 y31 z31
        obtain ⟨rfl, N31q, hE31⟩ := hQ31
        have N31 := Fr.app N23 N31q
        have pre32 : ∀ t, Steps p.tables e below (T31.setTop (mkF m 23 #[.val (.ref a1)] [(.int (fn6 (fb 7)))])) t → Steps p.tables e below (s₁.setTop (entryFrame m #[(.ref a1)] 1)) t := by
          intro t kt
          refine pre27 _ ?_
          show Steps p.tables e below (T26.setTop (mkF m 8 #[.val (.ref a1)] [(.int ie), (.int (7 : Int32))])) _
          refine XS.icmpNo X26.here hx rfl (hb hby d5_8) rfl (XT.ii_ge_f hc8_28) ?_
          show Steps p.tables e below (T26.setTop (mkF m 11 #[.val (.ref a1)] [])) _
          refine XS.aloadN X26.here hx rfl (hb hby d5_11) rfl rfl ?_
          show Steps p.tables e below (T26.setTop (mkF m 12 #[.val (.ref a1)] [(.ref a1)])) _
          refine st29 _ ?_
          show Steps p.tables e below (T29.setTop (mkF m 15 #[.val (.ref a1)] [(.ref ab)])) _
          refine XS.aloadN X29.here hx rfl (hb hby d5_15) rfl rfl ?_
          show Steps p.tables e below (T29.setTop (mkF m 16 #[.val (.ref a1)] [(.ref a1), (.ref ab)])) _
          refine st30 _ ?_
          show Steps p.tables e below (T30.setTop (mkF m 19 #[.val (.ref a1)] [(.int (7 : Int32)), (.ref ab)])) _
          refine owLdB (k := 7) X30 hx hZ hE30 f17 (j := (7 : Int32)) rfl (by decide) (g := (mkF m 19 #[.val (.ref a1)] [(.int (7 : Int32)), (.ref ab)])) rfl rfl (hb hby d5_19) _ ?_
          show Steps p.tables e below (T30.setTop (mkF m 20 #[.val (.ref a1)] [(.int (fb 7))])) _
          refine st31 _ ?_
          exact kt
        by_cases hc23_33 : (fn6 (fb 7)) = (0 : Int32)
        · skip
          have pre34 : ∀ t, Steps p.tables e below (T31.setTop (mkF m 39 #[.val (.ref a1)] [])) t → Steps p.tables e below (s₁.setTop (entryFrame m #[(.ref a1)] 1)) t := by
            intro t kt
            refine pre32 _ ?_
            show Steps p.tables e below (T31.setTop (mkF m 23 #[.val (.ref a1)] [(.int (fn6 (fb 7)))])) _
            refine XS.ifYes X31.here hx rfl (pc0 := 23) (pc' := 39) rfl (hb hby d5_23) rfl (XT.i0_eq_t hc23_33) (by decide) (by decide) ?_
            exact kt
          obtain ⟨fs, hr, hrun, hended, hW, hsame⟩ := X31.leave (v := none) (fun _ => rfl)
          refine ⟨_, _, pre34 _ ?_, hrun, hended, _, _, rfl, ?_, ⟨_, rfl⟩, hW, hsame.mono (by decide) (by decide)⟩
          · show Steps p.tables e below (T31.setTop (mkF m 39 #[.val (.ref a1)] [])) _
            exact X31.returnOut hx Bd.returns (hb hby d5_39) hr
          · show Q5x Z a1 ab ie fb h0 n0 _ T31.heap _
            rw [hE31]
            exact ⟨rfl, N31, K24, f16, (by unfold own_pos; rw [if_pos hc8_4, if_neg hc23_9, if_pos hc8_28, if_pos hc23_33]; exact Fw15), f19, f20, f21⟩
        · skip
          obtain ⟨T35, X35, hE35, st35⟩ := getF X31 hx hZ hown (host := "") (Or.inl (hw _ (List.mem_of_getElem? (i := 19) rfl))) Via.refl hE31 Fw15 (g := (mkF m 28 #[.val (.ref a1)] [(.ref a1), (.ref a1)])) rfl rfl (hb hby d5_28)
          have pre36 : ∀ t, Steps p.tables e below (T35.setTop (mkF m 33 #[.val (.ref a1)] [(.int ((7 : Int32) + (1 : Int32))), (.ref a1)])) t → Steps p.tables e below (s₁.setTop (entryFrame m #[(.ref a1)] 1)) t := by
            intro t kt
            refine pre32 _ ?_
            show Steps p.tables e below (T31.setTop (mkF m 23 #[.val (.ref a1)] [(.int (fn6 (fb 7)))])) _
            refine XS.ifNo X31.here hx rfl (hb hby d5_23) rfl (XT.i0_eq_f hc23_33) ?_
            show Steps p.tables e below (T31.setTop (mkF m 26 #[.val (.ref a1)] [])) _
            refine XS.aloadN X31.here hx rfl (hb hby d5_26) rfl rfl ?_
            show Steps p.tables e below (T31.setTop (mkF m 27 #[.val (.ref a1)] [(.ref a1)])) _
            refine XS.dup X31.here hx rfl (hb hby d5_27) rfl rfl ?_
            show Steps p.tables e below (T31.setTop (mkF m 28 #[.val (.ref a1)] [(.ref a1), (.ref a1)])) _
            refine st35 _ ?_
            show Steps p.tables e below (T35.setTop (mkF m 31 #[.val (.ref a1)] [(.int (7 : Int32)), (.ref a1)])) _
            refine XS.iconst X35.here hx rfl (hb hby d5_31) ?_
            show Steps p.tables e below (T35.setTop (mkF m 32 #[.val (.ref a1)] [(.int (1 : Int32)), (.int (7 : Int32)), (.ref a1)])) _
            refine XS.iadd X35.here hx rfl (hb hby d5_32) rfl ?_
            exact kt
          have ql37 : ((7 : Int32) + (1 : Int32)) = (8 : Int32) := (by decide)
          have pre38 : ∀ t, Steps p.tables e below (T35.setTop (mkF m 33 #[.val (.ref a1)] [(.int (8 : Int32)), (.ref a1)])) t → Steps p.tables e below (s₁.setTop (entryFrame m #[(.ref a1)] 1)) t := by
            intro t kt
            refine pre36 _ ?_
            rw [ql37]
            exact kt
          obtain ⟨T39, gh39, X39, hE39, W39, st39⟩ := putF X35 hx hZ hown (host := "") (Or.inl (hw _ (List.mem_of_getElem? (i := 19) rfl))) Via.refl hE35 Fw15 f16 (Or.inl (hw _ (List.mem_of_getElem? (i := 20) rfl))) (hw _ (List.mem_of_getElem? (i := 3) rfl)) (ty := .int) (by decide) rfl rfl (g := (mkF m 33 #[.val (.ref a1)] [(.int (8 : Int32)), (.ref a1)])) rfl rfl (hb hby d5_33)
          have Fw39 := Fw15.same W39
          have f40 := f16.wr W39
          have f41 := f17.other W39 (Ne.symm n1b)
          have f43 := f19.other W39 (Or.inr (slot_ne (Or.inr (hw _ (List.mem_of_getElem? (i := 18) rfl))) (Or.inl (hw _ (List.mem_of_getElem? (i := 20) rfl))) (by decide) (t := .int) (t' := .int) (by decide) (by decide)))
          have f44 := f20.other W39 (Or.inr (slot_ne (Or.inr (hw _ (List.mem_of_getElem? (i := 14) rfl))) (Or.inl (hw _ (List.mem_of_getElem? (i := 20) rfl))) (by decide) (t := (.array .byte)) (t' := .int) (by decide) (by decide)))
          have f45 := f21.other W39 (Or.inr (slot_ne (Or.inl (hw _ (List.mem_of_getElem? (i := 12) rfl))) (Or.inl (hw _ (List.mem_of_getElem? (i := 20) rfl))) (by decide) (t := .boolean) (t' := .int) (by decide) (by decide)))
          have Z46 := Nat.le_trans Z22 (Keep.of_wr W39).1
          have N47 := Fr.snoc X39 N31 g_a1
          have K48 := K24.wr W39 (Or.inl (List.mem_of_getElem? (i := 0) rfl))
          obtain ⟨T49, X49, hE49, st49⟩ := getF X39 hx hZ hown (host := "") (Or.inl (hw _ (List.mem_of_getElem? (i := 19) rfl))) Via.refl hE39 Fw39 (g := (mkF m 1 #[.val (.ref a1)] [(.ref a1)])) rfl rfl (hb hby d5_1)
          obtain ⟨T50, X50, hE50, st50⟩ := getF X49 hx hZ hown (host := "") (Or.inl (hw _ (List.mem_of_getElem? (i := 17) rfl))) Via.refl hE49 f43 (g := (mkF m 5 #[.val (.ref a1)] [(.ref a1), (.int (8 : Int32))])) rfl rfl (hb hby d5_5)
          have pre51 : ∀ t, Steps p.tables e below (T50.setTop (mkF m 39 #[.val (.ref a1)] [])) t → Steps p.tables e below (s₁.setTop (entryFrame m #[(.ref a1)] 1)) t := by
            intro t kt
            refine pre38 _ ?_
            show Steps p.tables e below (T35.setTop (mkF m 33 #[.val (.ref a1)] [(.int (8 : Int32)), (.ref a1)])) _
            refine st39 _ ?_
            show Steps p.tables e below (T39.setTop (mkF m 36 #[.val (.ref a1)] [])) _
            refine XS.goto X39.here hx rfl (pc0 := 36) (pc' := 0) rfl (hb hby d5_36) (by decide) (by decide) ?_
            show Steps p.tables e below (T39.setTop (mkF m 0 #[.val (.ref a1)] [])) _
            refine XS.aloadN X39.here hx rfl (hb hby d5_0) rfl rfl ?_
            show Steps p.tables e below (T39.setTop (mkF m 1 #[.val (.ref a1)] [(.ref a1)])) _
            refine st49 _ ?_
            show Steps p.tables e below (T49.setTop (mkF m 4 #[.val (.ref a1)] [(.int (8 : Int32))])) _
            refine XS.aloadN X49.here hx rfl (hb hby d5_4) rfl rfl ?_
            show Steps p.tables e below (T49.setTop (mkF m 5 #[.val (.ref a1)] [(.ref a1), (.int (8 : Int32))])) _
            refine st50 _ ?_
            show Steps p.tables e below (T50.setTop (mkF m 8 #[.val (.ref a1)] [(.int ie), (.int (8 : Int32))])) _
            refine XS.icmpYes X50.here hx rfl (pc0 := 8) (pc' := 39) rfl (hb hby d5_8) rfl (XT.ii_ge_t (own_nlt hoe)) (by decide) (by decide) ?_
            exact kt
          obtain ⟨fs, hr, hrun, hended, hW, hsame⟩ := X50.leave (v := none) (fun _ => rfl)
          refine ⟨_, _, pre51 _ ?_, hrun, hended, _, _, rfl, ?_, ⟨_, rfl⟩, hW, hsame.mono (by decide) (by decide)⟩
          · show Steps p.tables e below (T50.setTop (mkF m 39 #[.val (.ref a1)] [])) _
            exact X50.returnOut hx Bd.returns (hb hby d5_39) hr
          · show Q5x Z a1 ab ie fb h0 n0 _ T50.heap _
            rw [hE50]
            exact ⟨rfl, N47, K48, f40, (by unfold own_pos; rw [if_pos hc8_4, if_neg hc23_9, if_pos hc8_28, if_neg hc23_33]; exact Fw39), f43, f44, f45⟩
      · skip
        have pre52 : ∀ t, Steps p.tables e below (T26.setTop (mkF m 39 #[.val (.ref a1)] [])) t → Steps p.tables e below (s₁.setTop (entryFrame m #[(.ref a1)] 1)) t := by
          intro t kt
          refine pre27 _ ?_
          show Steps p.tables e below (T26.setTop (mkF m 8 #[.val (.ref a1)] [(.int ie), (.int (7 : Int32))])) _
          refine XS.icmpYes X26.here hx rfl (pc0 := 8) (pc' := 39) rfl (hb hby d5_8) rfl (XT.ii_ge_t hc8_28) (by decide) (by decide) ?_
          exact kt
        obtain ⟨fs, hr, hrun, hended, hW, hsame⟩ := X26.leave (v := none) (fun _ => rfl)
        refine ⟨_, _, pre52 _ ?_, hrun, hended, _, _, rfl, ?_, ⟨_, rfl⟩, hW, hsame.mono (by decide) (by decide)⟩
        · show Steps p.tables e below (T26.setTop (mkF m 39 #[.val (.ref a1)] [])) _
          exact X26.returnOut hx Bd.returns (hb hby d5_39) hr
        · show Q5x Z a1 ab ie fb h0 n0 _ T26.heap _
          rw [hE26]
          exact ⟨rfl, N23, K24, f16, (by unfold own_pos; rw [if_pos hc8_4, if_neg hc23_9, if_neg hc8_28]; exact Fw15), f19, f20, f21⟩
  · skip
    have pre53 : ∀ t, Steps p.tables e below (T2.setTop (mkF m 39 #[.val (.ref a1)] [])) t → Steps p.tables e below (s₁.setTop (entryFrame m #[(.ref a1)] 1)) t := by
      intro t kt
      refine pre3 _ ?_
      show Steps p.tables e below (T2.setTop (mkF m 8 #[.val (.ref a1)] [(.int ie), (.int (6 : Int32))])) _
      refine XS.icmpYes X2.here hx rfl (pc0 := 8) (pc' := 39) rfl (hb hby d5_8) rfl (XT.ii_ge_t hc8_4) (by decide) (by decide) ?_
      exact kt
    obtain ⟨fs, hr, hrun, hended, hW, hsame⟩ := X2.leave (v := none) (fun _ => rfl)
    refine ⟨_, _, pre53 _ ?_, hrun, hended, _, _, rfl, ?_, ⟨_, rfl⟩, hW, hsame.mono (by decide) (by decide)⟩
    · show Steps p.tables e below (T2.setTop (mkF m 39 #[.val (.ref a1)] [])) _
      exact X2.returnOut hx Bd.returns (hb hby d5_39) hr
    · show Q5x Z a1 ab ie fb h0 n0 _ T2.heap _
      rw [hE2]
      exact ⟨rfl, N0, (Keep.refl h0 [a1]), E_a1, (by unfold own_pos; rw [if_neg hc8_4]; exact F_at), F_end, F_bytes, F_first⟩
theorem d4_0 : decode prog_30_method_2_code 0 = .ok (.aload_n 0, 1) := by decide +kernel
theorem d4_1 : decode prog_30_method_2_code 1 = .ok (.getfield 21, 3) := by decide +kernel
theorem d4_4 : decode prog_30_method_2_code 4 = .ok (.aload_n 0, 1) := by decide +kernel
theorem d4_5 : decode prog_30_method_2_code 5 = .ok (.getfield 24, 3) := by decide +kernel
theorem d4_8 : decode prog_30_method_2_code 8 = .ok (.isub, 1) := by decide +kernel
theorem d4_9 : decode prog_30_method_2_code 9 = .ok (.iconst 3, 1) := by decide +kernel
theorem d4_10 : decode prog_30_method_2_code 10 = .ok (.if_icmp .lt 59, 3) := by decide +kernel
theorem d4_13 : decode prog_30_method_2_code 13 = .ok (.aload_n 0, 1) := by decide +kernel
theorem d4_14 : decode prog_30_method_2_code 14 = .ok (.getfield 13, 3) := by decide +kernel
theorem d4_17 : decode prog_30_method_2_code 17 = .ok (.aload_n 0, 1) := by decide +kernel
theorem d4_18 : decode prog_30_method_2_code 18 = .ok (.getfield 24, 3) := by decide +kernel
theorem d4_21 : decode prog_30_method_2_code 21 = .ok (.baload, 1) := by decide +kernel
theorem d4_22 : decode prog_30_method_2_code 22 = .ok (.bipush (-17), 2) := by decide +kernel
theorem d4_24 : decode prog_30_method_2_code 24 = .ok (.if_icmp .ne 45, 3) := by decide +kernel
theorem d4_27 : decode prog_30_method_2_code 27 = .ok (.aload_n 0, 1) := by decide +kernel
theorem d4_28 : decode prog_30_method_2_code 28 = .ok (.getfield 13, 3) := by decide +kernel
theorem d4_31 : decode prog_30_method_2_code 31 = .ok (.aload_n 0, 1) := by decide +kernel
theorem d4_32 : decode prog_30_method_2_code 32 = .ok (.getfield 24, 3) := by decide +kernel
theorem d4_35 : decode prog_30_method_2_code 35 = .ok (.iconst 1, 1) := by decide +kernel
theorem d4_36 : decode prog_30_method_2_code 36 = .ok (.iadd, 1) := by decide +kernel
theorem d4_37 : decode prog_30_method_2_code 37 = .ok (.baload, 1) := by decide +kernel
theorem d4_38 : decode prog_30_method_2_code 38 = .ok (.bipush (-69), 2) := by decide +kernel
theorem d4_40 : decode prog_30_method_2_code 40 = .ok (.if_icmp .ne 29, 3) := by decide +kernel
theorem d4_43 : decode prog_30_method_2_code 43 = .ok (.aload_n 0, 1) := by decide +kernel
theorem d4_44 : decode prog_30_method_2_code 44 = .ok (.getfield 13, 3) := by decide +kernel
theorem d4_47 : decode prog_30_method_2_code 47 = .ok (.aload_n 0, 1) := by decide +kernel
theorem d4_48 : decode prog_30_method_2_code 48 = .ok (.getfield 24, 3) := by decide +kernel
theorem d4_51 : decode prog_30_method_2_code 51 = .ok (.iconst 2, 1) := by decide +kernel
theorem d4_52 : decode prog_30_method_2_code 52 = .ok (.iadd, 1) := by decide +kernel
theorem d4_53 : decode prog_30_method_2_code 53 = .ok (.baload, 1) := by decide +kernel
theorem d4_54 : decode prog_30_method_2_code 54 = .ok (.bipush (-65), 2) := by decide +kernel
theorem d4_56 : decode prog_30_method_2_code 56 = .ok (.if_icmp .ne 13, 3) := by decide +kernel
theorem d4_59 : decode prog_30_method_2_code 59 = .ok (.aload_n 0, 1) := by decide +kernel
theorem d4_60 : decode prog_30_method_2_code 60 = .ok (.dup, 1) := by decide +kernel
theorem d4_61 : decode prog_30_method_2_code 61 = .ok (.getfield 24, 3) := by decide +kernel
theorem d4_64 : decode prog_30_method_2_code 64 = .ok (.iconst 3, 1) := by decide +kernel
theorem d4_65 : decode prog_30_method_2_code 65 = .ok (.iadd, 1) := by decide +kernel
theorem d4_66 : decode prog_30_method_2_code 66 = .ok (.putfield 24, 3) := by decide +kernel
theorem d4_69 : decode prog_30_method_2_code 69 = .ok (.aload_n 0, 1) := by decide +kernel
theorem d4_70 : decode prog_30_method_2_code 70 = .ok (.invokevirtual 27, 3) := by decide +kernel
theorem d4_73 : decode prog_30_method_2_code 73 = .ok (.aload_n 0, 1) := by decide +kernel
theorem d4_74 : decode prog_30_method_2_code 74 = .ok (.getfield 24, 3) := by decide +kernel
theorem d4_77 : decode prog_30_method_2_code 77 = .ok (.aload_n 0, 1) := by decide +kernel
theorem d4_78 : decode prog_30_method_2_code 78 = .ok (.getfield 21, 3) := by decide +kernel
theorem d4_81 : decode prog_30_method_2_code 81 = .ok (.if_icmp .ne 13, 3) := by decide +kernel
theorem d4_84 : decode prog_30_method_2_code 84 = .ok (.new 30, 3) := by decide +kernel
theorem d4_87 : decode prog_30_method_2_code 87 = .ok (.dup, 1) := by decide +kernel
theorem d4_88 : decode prog_30_method_2_code 88 = .ok (.ldc 32, 2) := by decide +kernel
theorem d4_90 : decode prog_30_method_2_code 90 = .ok (.invokespecial 34, 3) := by decide +kernel
theorem d4_93 : decode prog_30_method_2_code 93 = .ok (.athrow, 1) := by decide +kernel
theorem d4_94 : decode prog_30_method_2_code 94 = .ok (.aload_n 0, 1) := by decide +kernel
theorem d4_95 : decode prog_30_method_2_code 95 = .ok (.getfield 13, 3) := by decide +kernel
theorem d4_98 : decode prog_30_method_2_code 98 = .ok (.aload_n 0, 1) := by decide +kernel
theorem d4_99 : decode prog_30_method_2_code 99 = .ok (.getfield 24, 3) := by decide +kernel
theorem d4_102 : decode prog_30_method_2_code 102 = .ok (.baload, 1) := by decide +kernel
theorem d4_103 : decode prog_30_method_2_code 103 = .ok (.bipush 123, 2) := by decide +kernel
theorem d4_105 : decode prog_30_method_2_code 105 = .ok (.if_icmp .eq 13, 3) := by decide +kernel
theorem d4_108 : decode prog_30_method_2_code 108 = .ok (.new 30, 3) := by decide +kernel
theorem d4_111 : decode prog_30_method_2_code 111 = .ok (.dup, 1) := by decide +kernel
theorem d4_112 : decode prog_30_method_2_code 112 = .ok (.ldc 37, 2) := by decide +kernel
theorem d4_114 : decode prog_30_method_2_code 114 = .ok (.invokespecial 34, 3) := by decide +kernel
theorem d4_117 : decode prog_30_method_2_code 117 = .ok (.athrow, 1) := by decide +kernel
theorem d4_118 : decode prog_30_method_2_code 118 = .ok (.aload_n 0, 1) := by decide +kernel
theorem d4_119 : decode prog_30_method_2_code 119 = .ok (.dup, 1) := by decide +kernel
theorem d4_120 : decode prog_30_method_2_code 120 = .ok (.getfield 24, 3) := by decide +kernel
theorem d4_123 : decode prog_30_method_2_code 123 = .ok (.iconst 1, 1) := by decide +kernel
theorem d4_124 : decode prog_30_method_2_code 124 = .ok (.iadd, 1) := by decide +kernel
theorem d4_125 : decode prog_30_method_2_code 125 = .ok (.putfield 24, 3) := by decide +kernel
theorem d4_128 : decode prog_30_method_2_code 128 = .ok (.return_, 1) := by decide +kernel
theorem pn_4 : plainName "com/example/fama/fama/table/JsonLine" = true := by first | (simp [plainName, overriddenIn]; done) | decide +kernel
theorem ef_4 (m : MethodId) (x0 : Addr) : entryFrame m #[(.ref x0)] 1 = mkF m 0 #[.val (.ref x0)] [] := by first | (simp [entryFrame, mkF, argsToLocals, Value.category]; done) | rfl
theorem pd_1 : parseMethodDescriptor "()V" = some ⟨[], none⟩ := by decide +kernel
def Q4 (Z : State) (a1 : Addr) (ab : Addr) (ie : Int32) (fb : Nat → Int32) (h0 : Heap) (n0 : Nat) (v : Option Value) (h : Heap) (L : List Loc) : Prop := v = none ∧ Fr n0 L ∧ Keep h0 h [a1] ∧ Exa Z h a1 "com/example/fama/fama/table/JsonLine" ∧ Fld Z h a1 "com/example/fama/fama/table/JsonLine" "at" "I" (.int (2 : Int32)) ∧ Fld Z h a1 "com/example/fama/fama/table/JsonLine" "end" "I" (.int ie) ∧ Fld Z h a1 "com/example/fama/fama/table/JsonLine" "bytes" "[B" (.ref ab) ∧ Fld Z h a1 "com/example/fama/fama/table/JsonLine" "first" "Z" (.int (1 : Int32))
set_option maxRecDepth 65536 in
set_option maxHeartbeats 40000000 in
theorem rm4 (l : Launch) (Z : State) (a0 : Array Value) (hw : ∀ d ∈ tables_1, d.before a0 Z = true) (ws : List Jvm.Cond) (a1 : Addr) (ab : Addr) (ie : Int32) (fb : Nat → Int32) (h0 : Heap) (n0 : Nat) (Z0 : n0 ≤ h0.size) (E_a1 : Exa Z h0 a1 "com/example/fama/fama/table/JsonLine") (F_at : Fld Z h0 a1 "com/example/fama/fama/table/JsonLine" "at" "I" (.int (1 : Int32))) (F_end : Fld Z h0 a1 "com/example/fama/fama/table/JsonLine" "end" "I" (.int ie)) (F_bytes : Fld Z h0 a1 "com/example/fama/fama/table/JsonLine" "bytes" "[B" (.ref ab)) (F_first : Fld Z h0 a1 "com/example/fama/fama/table/JsonLine" "first" "Z" (.int (1 : Int32))) (A_ab : owAI Z h0 ab .byte 9 fb) (g_a1 : n0 ≤ a1) (n1b : a1 ≠ ab) (hoe : OE ie) (hob : OB fb) :
    MetFree l (⟨"com/example/fama/fama/table/JsonLine", "startObject", "()V"⟩ : MethodName) (head1 (Jvm.Cond.code (⟨"com/example/fama/fama/table/JsonLine", "startObject", "()V"⟩ : MethodName) prog_30_method_2_code 1 none :: ws) ({ frames := 2, cells := 0, slots := 0, locals := 24 } : Room)) (fun a U => a = #[(.ref a1)] ∧ Z.Warmed39 U.vm ∧ U.heap = h0) (fun _ _ _ _ _ => True) (fun _ U o U' => ∃ v L, o = .returned v ∧ Q4 Z a1 ab ie fb h0 n0 v U'.heap L ∧ FrameEnd U o U' L ({ frames := 2, cells := 0, slots := 0, locals := 24 } : Room).cells ({ frames := 2, cells := 0, slots := 0, locals := 24 } : Room).slots) := by
  refine MetFree.of_bodySF (plainFor_of_name pn_4) hisR ?_
  intro p e s m args below meth c s₁ Bd hml0 hP hK
  obtain ⟨rfl, hZ, hh⟩ := hP
  have hx := Bd.exec
  have hby := Bd.bytes
  have hml : c.maxLocals = 1 := hml0
  have hown : s.vm.findClass "com/example/fama/fama/table/JsonLine" = some m.cls := findClass_of_methodNamed Bd.named
  have hnm := (name_of_methodNamed Bd.named Bd.method).1
  have X0 : Stand p l e ({ frames := 2, cells := 0, slots := 0, locals := 24 } : Room) s m #[(.ref a1)] below meth c s₁ [] 0 0 := Stand.of_body Bd
  have e0 : s₁.heap = h0 := by rw [← hh, Bd.state]; rfl
  have N0 := Fr.nil n0
  have pre0 : ∀ t, Steps p.tables e below (s₁.setTop (mkF m 0 #[.val (.ref a1)] [])) t → Steps p.tables e below (s₁.setTop (entryFrame m #[(.ref a1)] 1)) t := fun t k => castTop (ef_4 m a1) k
  obtain ⟨T1, X1, hE1, st1⟩ := getF X0 hx hZ hown (host := "") (Or.inl (hw _ (List.mem_of_getElem? (i := 17) rfl))) Via.refl e0 F_end (g := (mkF m 1 #[.val (.ref a1)] [(.ref a1)])) rfl rfl (hb hby d4_1)
  obtain ⟨T2, X2, hE2, st2⟩ := getF X1 hx hZ hown (host := "") (Or.inl (hw _ (List.mem_of_getElem? (i := 19) rfl))) Via.refl hE1 F_at (g := (mkF m 5 #[.val (.ref a1)] [(.ref a1), (.int ie)])) rfl rfl (hb hby d4_5)
  obtain ⟨T3, X3, hE3, st3⟩ := getF X2 hx hZ hown (host := "") (Or.inl (hw _ (List.mem_of_getElem? (i := 13) rfl))) Via.refl hE2 F_bytes (g := (mkF m 14 #[.val (.ref a1)] [(.ref a1)])) rfl rfl (hb hby d4_14)
  obtain ⟨T4, X4, hE4, st4⟩ := getF X3 hx hZ hown (host := "") (Or.inl (hw _ (List.mem_of_getElem? (i := 19) rfl))) Via.refl hE3 F_at (g := (mkF m 18 #[.val (.ref a1)] [(.ref a1), (.ref ab)])) rfl rfl (hb hby d4_18)
  have pre5 : ∀ t, Steps p.tables e below (T4.setTop (mkF m 22 #[.val (.ref a1)] [(.int (fb 1))])) t → Steps p.tables e below (s₁.setTop (entryFrame m #[(.ref a1)] 1)) t := by
    intro t kt
    refine pre0 _ ?_
    show Steps p.tables e below (s₁.setTop (mkF m 0 #[.val (.ref a1)] [])) _
    refine XS.aloadN X0.here hx rfl (hb hby d4_0) rfl rfl ?_
    show Steps p.tables e below (s₁.setTop (mkF m 1 #[.val (.ref a1)] [(.ref a1)])) _
    refine st1 _ ?_
    show Steps p.tables e below (T1.setTop (mkF m 4 #[.val (.ref a1)] [(.int ie)])) _
    refine XS.aloadN X1.here hx rfl (hb hby d4_4) rfl rfl ?_
    show Steps p.tables e below (T1.setTop (mkF m 5 #[.val (.ref a1)] [(.ref a1), (.int ie)])) _
    refine st2 _ ?_
    show Steps p.tables e below (T2.setTop (mkF m 8 #[.val (.ref a1)] [(.int (1 : Int32)), (.int ie)])) _
    refine XS.isub X2.here hx rfl (hb hby d4_8) rfl ?_
    show Steps p.tables e below (T2.setTop (mkF m 9 #[.val (.ref a1)] [(.int (ie - (1 : Int32)))])) _
    refine XS.iconst X2.here hx rfl (hb hby d4_9) ?_
    show Steps p.tables e below (T2.setTop (mkF m 10 #[.val (.ref a1)] [(.int (3 : Int32)), (.int (ie - (1 : Int32)))])) _
    refine XS.icmpNo X2.here hx rfl (hb hby d4_10) rfl (XT.ii_lt_f (own_sub hoe)) ?_
    show Steps p.tables e below (T2.setTop (mkF m 13 #[.val (.ref a1)] [])) _
    refine XS.aloadN X2.here hx rfl (hb hby d4_13) rfl rfl ?_
    show Steps p.tables e below (T2.setTop (mkF m 14 #[.val (.ref a1)] [(.ref a1)])) _
    refine st3 _ ?_
    show Steps p.tables e below (T3.setTop (mkF m 17 #[.val (.ref a1)] [(.ref ab)])) _
    refine XS.aloadN X3.here hx rfl (hb hby d4_17) rfl rfl ?_
    show Steps p.tables e below (T3.setTop (mkF m 18 #[.val (.ref a1)] [(.ref a1), (.ref ab)])) _
    refine st4 _ ?_
    show Steps p.tables e below (T4.setTop (mkF m 21 #[.val (.ref a1)] [(.int (1 : Int32)), (.ref ab)])) _
    refine owLdB (k := 1) X4 hx hZ hE4 A_ab (j := (1 : Int32)) rfl (by decide) (g := (mkF m 21 #[.val (.ref a1)] [(.int (1 : Int32)), (.ref ab)])) rfl rfl (hb hby d4_21) _ ?_
    exact kt
  have ql6 : (fb 1) = (123 : Int32) := hob.1
  have pre7 : ∀ t, Steps p.tables e below (T4.setTop (mkF m 22 #[.val (.ref a1)] [(.int (123 : Int32))])) t → Steps p.tables e below (s₁.setTop (entryFrame m #[(.ref a1)] 1)) t := by
    intro t kt
    refine pre5 _ ?_
    rw [ql6]
    exact kt
  obtain ⟨cq8, q8, q8'⟩ := E_a1.cell
  obtain ⟨_, _, ⟨T8, L8, k8, n8⟩, -, X8, ⟨Lc8, hQ8, l8, y8, z8⟩, st8⟩ := X4.privateBack hx (y := (⟨"com/example/fama/fama/table/JsonLine", "skipWhitespace", "()V"⟩ : MethodName)) hown (mvT hZ (hw _ (List.mem_of_getElem? (i := 31) rfl))) (mvT hZ (hw _ (List.mem_of_getElem? (i := 32) rfl))) (owSel (mvT hZ (hw _ (List.mem_of_getElem? (i := 3) rfl))) (Cond.privateMethod_at (mvP hZ (hw _ (List.mem_of_getElem? (i := 33) rfl)) (args := #[]))) (mvT hZ (hw _ (List.mem_of_getElem? (i := 32) rfl))) (by decide)) (Cond.privateMethod_at (mvP hZ (hw _ (List.mem_of_getElem? (i := 33) rfl)) (args := #[]))) (mvT hZ (hw _ (List.mem_of_getElem? (i := 34) rfl))) (by decide) (backOf (W := 0) (rm5 l Z a0 hw [] a1 ab (1 : Int32) ie fb 1 h0 n0 Z0 F_at F_end F_bytes A_ab (own_lt hoe (by decide)) rfl (by decide) (own_w1 hob)) hZ (hw _ (List.mem_of_getElem? (i := 34) rfl)) (hw _ (List.mem_of_getElem? (i := 4) rfl)) (by decide) (by decide)) (g := (mkF m 70 #[.val (.ref a1)] [(.ref a1)])) rfl (by rw [hml]; rfl) (Steps.refl _) (a := a1) (by rw [hE4]; exact q8) q8' (argsL := []) (rest := []) (lenOf pd_1 rfl) rfl (by show 2 * 0 + _ ≤ _; exact Nat.le_of_eq rfl) (hb hby d4_70) (fun _ _ => ⟨rfl, hE4, (by decide : 0 + 0 ≤ _), (by decide : 0 + 0 ≤ _)⟩)
  dsimp only [Pt.U, Pt.locs, Pt.cells, Pt.slots] at X8 l8 y8 z8 st8 hQ8
  subst l8 y8 z8
  obtain ⟨rfl, N8q, hE8⟩ := hQ8
  have N8 := Fr.app N0 N8q
  obtain ⟨T9, X9, hE9, st9⟩ := getF X8 hx hZ hown (host := "") (Or.inl (hw _ (List.mem_of_getElem? (i := 19) rfl))) Via.refl hE8 F_at (g := (mkF m 74 #[.val (.ref a1)] [(.ref a1)])) rfl rfl (hb hby d4_74)
  obtain ⟨T10, X10, hE10, st10⟩ := getF X9 hx hZ hown (host := "") (Or.inl (hw _ (List.mem_of_getElem? (i := 17) rfl))) Via.refl hE9 F_end (g := (mkF m 78 #[.val (.ref a1)] [(.ref a1), (.int (1 : Int32))])) rfl rfl (hb hby d4_78)
  obtain ⟨T11, X11, hE11, st11⟩ := getF X10 hx hZ hown (host := "") (Or.inl (hw _ (List.mem_of_getElem? (i := 13) rfl))) Via.refl hE10 F_bytes (g := (mkF m 95 #[.val (.ref a1)] [(.ref a1)])) rfl rfl (hb hby d4_95)
  obtain ⟨T12, X12, hE12, st12⟩ := getF X11 hx hZ hown (host := "") (Or.inl (hw _ (List.mem_of_getElem? (i := 19) rfl))) Via.refl hE11 F_at (g := (mkF m 99 #[.val (.ref a1)] [(.ref a1), (.ref ab)])) rfl rfl (hb hby d4_99)
  have pre13 : ∀ t, Steps p.tables e below (T12.setTop (mkF m 103 #[.val (.ref a1)] [(.int (fb 1))])) t → Steps p.tables e below (s₁.setTop (entryFrame m #[(.ref a1)] 1)) t := by
    intro t kt
    refine pre7 _ ?_
    show Steps p.tables e below (T4.setTop (mkF m 22 #[.val (.ref a1)] [(.int (123 : Int32))])) _
    refine XS.bipush X4.here hx rfl (hb hby d4_22) ?_
    show Steps p.tables e below (T4.setTop (mkF m 24 #[.val (.ref a1)] [(.int (-17 : Int32)), (.int (123 : Int32))])) _
    refine XS.icmpYes X4.here hx rfl (pc0 := 24) (pc' := 69) rfl (hb hby d4_24) rfl (XT.ii_ne_t (by decide)) (by decide) (by decide) ?_
    show Steps p.tables e below (T4.setTop (mkF m 69 #[.val (.ref a1)] [])) _
    refine XS.aloadN X4.here hx rfl (hb hby d4_69) rfl rfl ?_
    show Steps p.tables e below (T4.setTop (mkF m 70 #[.val (.ref a1)] [(.ref a1)])) _
    refine st8.trans ?_
    show Steps p.tables e below (T8.setTop (mkF m 73 #[.val (.ref a1)] [])) _
    refine XS.aloadN X8.here hx rfl (hb hby d4_73) rfl rfl ?_
    show Steps p.tables e below (T8.setTop (mkF m 74 #[.val (.ref a1)] [(.ref a1)])) _
    refine st9 _ ?_
    show Steps p.tables e below (T9.setTop (mkF m 77 #[.val (.ref a1)] [(.int (1 : Int32))])) _
    refine XS.aloadN X9.here hx rfl (hb hby d4_77) rfl rfl ?_
    show Steps p.tables e below (T9.setTop (mkF m 78 #[.val (.ref a1)] [(.ref a1), (.int (1 : Int32))])) _
    refine st10 _ ?_
    show Steps p.tables e below (T10.setTop (mkF m 81 #[.val (.ref a1)] [(.int ie), (.int (1 : Int32))])) _
    refine XS.icmpYes X10.here hx rfl (pc0 := 81) (pc' := 94) rfl (hb hby d4_81) rfl (XT.ii_ne_t (own_ne hoe (by decide))) (by decide) (by decide) ?_
    show Steps p.tables e below (T10.setTop (mkF m 94 #[.val (.ref a1)] [])) _
    refine XS.aloadN X10.here hx rfl (hb hby d4_94) rfl rfl ?_
    show Steps p.tables e below (T10.setTop (mkF m 95 #[.val (.ref a1)] [(.ref a1)])) _
    refine st11 _ ?_
    show Steps p.tables e below (T11.setTop (mkF m 98 #[.val (.ref a1)] [(.ref ab)])) _
    refine XS.aloadN X11.here hx rfl (hb hby d4_98) rfl rfl ?_
    show Steps p.tables e below (T11.setTop (mkF m 99 #[.val (.ref a1)] [(.ref a1), (.ref ab)])) _
    refine st12 _ ?_
    show Steps p.tables e below (T12.setTop (mkF m 102 #[.val (.ref a1)] [(.int (1 : Int32)), (.ref ab)])) _
    refine owLdB (k := 1) X12 hx hZ hE12 A_ab (j := (1 : Int32)) rfl (by decide) (g := (mkF m 102 #[.val (.ref a1)] [(.int (1 : Int32)), (.ref ab)])) rfl rfl (hb hby d4_102) _ ?_
    exact kt
  have ql14 : (fb 1) = (123 : Int32) := hob.1
  have pre15 : ∀ t, Steps p.tables e below (T12.setTop (mkF m 103 #[.val (.ref a1)] [(.int (123 : Int32))])) t → Steps p.tables e below (s₁.setTop (entryFrame m #[(.ref a1)] 1)) t := by
    intro t kt
    refine pre13 _ ?_
    rw [ql14]
    exact kt
  obtain ⟨T16, X16, hE16, st16⟩ := getF X12 hx hZ hown (host := "") (Or.inl (hw _ (List.mem_of_getElem? (i := 19) rfl))) Via.refl hE12 F_at (g := (mkF m 120 #[.val (.ref a1)] [(.ref a1), (.ref a1)])) rfl rfl (hb hby d4_120)
  have pre17 : ∀ t, Steps p.tables e below (T16.setTop (mkF m 125 #[.val (.ref a1)] [(.int ((1 : Int32) + (1 : Int32))), (.ref a1)])) t → Steps p.tables e below (s₁.setTop (entryFrame m #[(.ref a1)] 1)) t := by
    intro t kt
    refine pre15 _ ?_
    show Steps p.tables e below (T12.setTop (mkF m 103 #[.val (.ref a1)] [(.int (123 : Int32))])) _
    refine XS.bipush X12.here hx rfl (hb hby d4_103) ?_
    show Steps p.tables e below (T12.setTop (mkF m 105 #[.val (.ref a1)] [(.int (123 : Int32)), (.int (123 : Int32))])) _
    refine XS.icmpYes X12.here hx rfl (pc0 := 105) (pc' := 118) rfl (hb hby d4_105) rfl (XT.ii_eq_t (by decide)) (by decide) (by decide) ?_
    show Steps p.tables e below (T12.setTop (mkF m 118 #[.val (.ref a1)] [])) _
    refine XS.aloadN X12.here hx rfl (hb hby d4_118) rfl rfl ?_
    show Steps p.tables e below (T12.setTop (mkF m 119 #[.val (.ref a1)] [(.ref a1)])) _
    refine XS.dup X12.here hx rfl (hb hby d4_119) rfl rfl ?_
    show Steps p.tables e below (T12.setTop (mkF m 120 #[.val (.ref a1)] [(.ref a1), (.ref a1)])) _
    refine st16 _ ?_
    show Steps p.tables e below (T16.setTop (mkF m 123 #[.val (.ref a1)] [(.int (1 : Int32)), (.ref a1)])) _
    refine XS.iconst X16.here hx rfl (hb hby d4_123) ?_
    show Steps p.tables e below (T16.setTop (mkF m 124 #[.val (.ref a1)] [(.int (1 : Int32)), (.int (1 : Int32)), (.ref a1)])) _
    refine XS.iadd X16.here hx rfl (hb hby d4_124) rfl ?_
    exact kt
  have ql18 : ((1 : Int32) + (1 : Int32)) = (2 : Int32) := (by decide)
  have pre19 : ∀ t, Steps p.tables e below (T16.setTop (mkF m 125 #[.val (.ref a1)] [(.int (2 : Int32)), (.ref a1)])) t → Steps p.tables e below (s₁.setTop (entryFrame m #[(.ref a1)] 1)) t := by
    intro t kt
    refine pre17 _ ?_
    rw [ql18]
    exact kt
  obtain ⟨T20, gh20, X20, hE20, W20, st20⟩ := putF X16 hx hZ hown (host := "") (Or.inl (hw _ (List.mem_of_getElem? (i := 19) rfl))) Via.refl hE16 F_at E_a1 (Or.inl (hw _ (List.mem_of_getElem? (i := 20) rfl))) (hw _ (List.mem_of_getElem? (i := 3) rfl)) (ty := .int) (by decide) rfl rfl (g := (mkF m 125 #[.val (.ref a1)] [(.int (2 : Int32)), (.ref a1)])) rfl rfl (hb hby d4_125)
  have Fw20 := F_at.same W20
  have f21 := E_a1.wr W20
  have f22 := A_ab.other W20 (Ne.symm n1b)
  have f24 := F_end.other W20 (Or.inr (slot_ne (Or.inr (hw _ (List.mem_of_getElem? (i := 18) rfl))) (Or.inl (hw _ (List.mem_of_getElem? (i := 20) rfl))) (by decide) (t := .int) (t' := .int) (by decide) (by decide)))
  have f25 := F_bytes.other W20 (Or.inr (slot_ne (Or.inr (hw _ (List.mem_of_getElem? (i := 14) rfl))) (Or.inl (hw _ (List.mem_of_getElem? (i := 20) rfl))) (by decide) (t := (.array .byte)) (t' := .int) (by decide) (by decide)))
  have f26 := F_first.other W20 (Or.inr (slot_ne (Or.inl (hw _ (List.mem_of_getElem? (i := 12) rfl))) (Or.inl (hw _ (List.mem_of_getElem? (i := 20) rfl))) (by decide) (t := .boolean) (t' := .int) (by decide) (by decide)))
  have Z27 := Nat.le_trans Z0 (Keep.of_wr W20).1
  have N28 := Fr.snoc X20 N8 g_a1
  have K29 := (Keep.refl h0 [a1]).wr W20 (Or.inl (List.mem_of_getElem? (i := 0) rfl))
  have pre30 : ∀ t, Steps p.tables e below (T20.setTop (mkF m 128 #[.val (.ref a1)] [])) t → Steps p.tables e below (s₁.setTop (entryFrame m #[(.ref a1)] 1)) t := by
    intro t kt
    refine pre19 _ ?_
    show Steps p.tables e below (T16.setTop (mkF m 125 #[.val (.ref a1)] [(.int (2 : Int32)), (.ref a1)])) _
    refine st20 _ ?_
    exact kt
  obtain ⟨fs, hr, hrun, hended, hW, hsame⟩ := X20.leave (v := none) (fun _ => rfl)
  refine ⟨_, _, pre30 _ ?_, hrun, hended, _, _, rfl, ?_, ⟨_, rfl⟩, hW, hsame.mono (by decide) (by decide)⟩
  · show Steps p.tables e below (T20.setTop (mkF m 128 #[.val (.ref a1)] [])) _
    exact X20.returnOut hx Bd.returns (hb hby d4_128) hr
  · show Q4 Z a1 ab ie fb h0 n0 _ T20.heap _
    rw [hE20]
    exact ⟨rfl, N28, K29, f21, Fw20, f24, f25, f26⟩
theorem d21_0 : decode prog_30_method_19_code 0 = .ok (.aload_n 0, 1) := by decide +kernel
theorem d21_1 : decode prog_30_method_19_code 1 = .ok (.getfield 24, 3) := by decide +kernel
theorem d21_4 : decode prog_30_method_19_code 4 = .ok (.aload_n 0, 1) := by decide +kernel
theorem d21_5 : decode prog_30_method_19_code 5 = .ok (.getfield 21, 3) := by decide +kernel
theorem d21_8 : decode prog_30_method_19_code 8 = .ok (.if_icmp .eq 16, 3) := by decide +kernel
theorem d21_11 : decode prog_30_method_19_code 11 = .ok (.aload_n 0, 1) := by decide +kernel
theorem d21_12 : decode prog_30_method_19_code 12 = .ok (.getfield 13, 3) := by decide +kernel
theorem d21_15 : decode prog_30_method_19_code 15 = .ok (.aload_n 0, 1) := by decide +kernel
theorem d21_16 : decode prog_30_method_19_code 16 = .ok (.getfield 24, 3) := by decide +kernel
theorem d21_19 : decode prog_30_method_19_code 19 = .ok (.baload, 1) := by decide +kernel
theorem d21_20 : decode prog_30_method_19_code 20 = .ok (.iload_n 1, 1) := by decide +kernel
theorem d21_21 : decode prog_30_method_19_code 21 = .ok (.if_icmp .eq 9, 3) := by decide +kernel
theorem d21_24 : decode prog_30_method_19_code 24 = .ok (.aload_n 0, 1) := by decide +kernel
theorem d21_25 : decode prog_30_method_19_code 25 = .ok (.aload_n 2, 1) := by decide +kernel
theorem d21_26 : decode prog_30_method_19_code 26 = .ok (.invokevirtual 78, 3) := by decide +kernel
theorem d21_29 : decode prog_30_method_19_code 29 = .ok (.athrow, 1) := by decide +kernel
theorem d21_30 : decode prog_30_method_19_code 30 = .ok (.aload_n 0, 1) := by decide +kernel
theorem d21_31 : decode prog_30_method_19_code 31 = .ok (.dup, 1) := by decide +kernel
theorem d21_32 : decode prog_30_method_19_code 32 = .ok (.getfield 24, 3) := by decide +kernel
theorem d21_35 : decode prog_30_method_19_code 35 = .ok (.iconst 1, 1) := by decide +kernel
theorem d21_36 : decode prog_30_method_19_code 36 = .ok (.iadd, 1) := by decide +kernel
theorem d21_37 : decode prog_30_method_19_code 37 = .ok (.putfield 24, 3) := by decide +kernel
theorem d21_40 : decode prog_30_method_19_code 40 = .ok (.return_, 1) := by decide +kernel
theorem pn_21 : plainName "com/example/fama/fama/table/JsonLine" = true := by first | (simp [plainName, overriddenIn]; done) | decide +kernel
theorem ef_21 (m : MethodId) (x0 : Addr) (x1 : Int32) (x2 : Addr) : entryFrame m #[(.ref x0), (.int x1), (.ref x2)] 3 = mkF m 0 #[.val (.ref x0), .val (.int x1), .val (.ref x2)] [] := by first | (simp [entryFrame, mkF, argsToLocals, Value.category]; done) | rfl
def Q21 (Z : State) (a1 : Addr) (a3 : Addr) (ab : Addr) (ie : Int32) (fb : Nat → Int32) (h0 : Heap) (n0 : Nat) (v : Option Value) (h : Heap) (L : List Loc) : Prop := v = none ∧ Fr n0 L ∧ Keep h0 h [a1] ∧ Exa Z h a1 "com/example/fama/fama/table/JsonLine" ∧ Fld Z h a1 "com/example/fama/fama/table/JsonLine" "at" "I" (.int (6 : Int32)) ∧ Fld Z h a1 "com/example/fama/fama/table/JsonLine" "end" "I" (.int ie) ∧ Fld Z h a1 "com/example/fama/fama/table/JsonLine" "bytes" "[B" (.ref ab) ∧ Fld Z h a1 "com/example/fama/fama/table/JsonLine" "first" "Z" (.int (0 : Int32))
set_option maxRecDepth 65536 in
set_option maxHeartbeats 40000000 in
theorem rm21 (l : Launch) (Z : State) (a0 : Array Value) (hw : ∀ d ∈ tables_1, d.before a0 Z = true) (ws : List Jvm.Cond) (a1 : Addr) (a3 : Addr) (ab : Addr) (ie : Int32) (fb : Nat → Int32) (h0 : Heap) (n0 : Nat) (Z0 : n0 ≤ h0.size) (E_a1 : Exa Z h0 a1 "com/example/fama/fama/table/JsonLine") (F_at : Fld Z h0 a1 "com/example/fama/fama/table/JsonLine" "at" "I" (.int (5 : Int32))) (F_end : Fld Z h0 a1 "com/example/fama/fama/table/JsonLine" "end" "I" (.int ie)) (F_bytes : Fld Z h0 a1 "com/example/fama/fama/table/JsonLine" "bytes" "[B" (.ref ab)) (F_first : Fld Z h0 a1 "com/example/fama/fama/table/JsonLine" "first" "Z" (.int (0 : Int32))) (A_ab : owAI Z h0 ab .byte 9 fb) (g_a1 : n0 ≤ a1) (n1b : a1 ≠ ab) (hoe : OE ie) (hob : OB fb) :
    MetFree l (⟨"com/example/fama/fama/table/JsonLine", "expect", "(CLjava/lang/String;)V"⟩ : MethodName) (head1 (Jvm.Cond.code (⟨"com/example/fama/fama/table/JsonLine", "expect", "(CLjava/lang/String;)V"⟩ : MethodName) prog_30_method_19_code 3 none :: ws) ({ frames := 0, cells := 0, slots := 0, locals := 0 } : Room)) (fun a U => a = #[(.ref a1), (.int (58 : Int32)), (.ref a3)] ∧ Z.Warmed39 U.vm ∧ U.heap = h0) (fun _ _ _ _ _ => True) (fun _ U o U' => ∃ v L, o = .returned v ∧ Q21 Z a1 a3 ab ie fb h0 n0 v U'.heap L ∧ FrameEnd U o U' L ({ frames := 0, cells := 0, slots := 0, locals := 0 } : Room).cells ({ frames := 0, cells := 0, slots := 0, locals := 0 } : Room).slots) := by
  refine MetFree.of_bodySF (plainFor_of_name pn_21) hisR ?_
  intro p e s m args below meth c s₁ Bd hml0 hP hK
  obtain ⟨rfl, hZ, hh⟩ := hP
  have hx := Bd.exec
  have hby := Bd.bytes
  have hml : c.maxLocals = 3 := hml0
  have hown : s.vm.findClass "com/example/fama/fama/table/JsonLine" = some m.cls := findClass_of_methodNamed Bd.named
  have hnm := (name_of_methodNamed Bd.named Bd.method).1
  have X0 : Stand p l e ({ frames := 0, cells := 0, slots := 0, locals := 0 } : Room) s m #[(.ref a1), (.int (58 : Int32)), (.ref a3)] below meth c s₁ [] 0 0 := Stand.of_body Bd
  have e0 : s₁.heap = h0 := by rw [← hh, Bd.state]; rfl
  have N0 := Fr.nil n0
  have pre0 : ∀ t, Steps p.tables e below (s₁.setTop (mkF m 0 #[.val (.ref a1), .val (.int (58 : Int32)), .val (.ref a3)] [])) t → Steps p.tables e below (s₁.setTop (entryFrame m #[(.ref a1), (.int (58 : Int32)), (.ref a3)] 3)) t := fun t k => castTop (ef_21 m a1 (58 : Int32) a3) k
  obtain ⟨T1, X1, hE1, st1⟩ := getF X0 hx hZ hown (host := "") (Or.inl (hw _ (List.mem_of_getElem? (i := 19) rfl))) Via.refl e0 F_at (g := (mkF m 1 #[.val (.ref a1), .val (.int (58 : Int32)), .val (.ref a3)] [(.ref a1)])) rfl rfl (hb hby d21_1)
  obtain ⟨T2, X2, hE2, st2⟩ := getF X1 hx hZ hown (host := "") (Or.inl (hw _ (List.mem_of_getElem? (i := 17) rfl))) Via.refl hE1 F_end (g := (mkF m 5 #[.val (.ref a1), .val (.int (58 : Int32)), .val (.ref a3)] [(.ref a1), (.int (5 : Int32))])) rfl rfl (hb hby d21_5)
  obtain ⟨T3, X3, hE3, st3⟩ := getF X2 hx hZ hown (host := "") (Or.inl (hw _ (List.mem_of_getElem? (i := 13) rfl))) Via.refl hE2 F_bytes (g := (mkF m 12 #[.val (.ref a1), .val (.int (58 : Int32)), .val (.ref a3)] [(.ref a1)])) rfl rfl (hb hby d21_12)
  obtain ⟨T4, X4, hE4, st4⟩ := getF X3 hx hZ hown (host := "") (Or.inl (hw _ (List.mem_of_getElem? (i := 19) rfl))) Via.refl hE3 F_at (g := (mkF m 16 #[.val (.ref a1), .val (.int (58 : Int32)), .val (.ref a3)] [(.ref a1), (.ref ab)])) rfl rfl (hb hby d21_16)
  have pre5 : ∀ t, Steps p.tables e below (T4.setTop (mkF m 20 #[.val (.ref a1), .val (.int (58 : Int32)), .val (.ref a3)] [(.int (fb 5))])) t → Steps p.tables e below (s₁.setTop (entryFrame m #[(.ref a1), (.int (58 : Int32)), (.ref a3)] 3)) t := by
    intro t kt
    refine pre0 _ ?_
    show Steps p.tables e below (s₁.setTop (mkF m 0 #[.val (.ref a1), .val (.int (58 : Int32)), .val (.ref a3)] [])) _
    refine XS.aloadN X0.here hx rfl (hb hby d21_0) rfl rfl ?_
    show Steps p.tables e below (s₁.setTop (mkF m 1 #[.val (.ref a1), .val (.int (58 : Int32)), .val (.ref a3)] [(.ref a1)])) _
    refine st1 _ ?_
    show Steps p.tables e below (T1.setTop (mkF m 4 #[.val (.ref a1), .val (.int (58 : Int32)), .val (.ref a3)] [(.int (5 : Int32))])) _
    refine XS.aloadN X1.here hx rfl (hb hby d21_4) rfl rfl ?_
    show Steps p.tables e below (T1.setTop (mkF m 5 #[.val (.ref a1), .val (.int (58 : Int32)), .val (.ref a3)] [(.ref a1), (.int (5 : Int32))])) _
    refine st2 _ ?_
    show Steps p.tables e below (T2.setTop (mkF m 8 #[.val (.ref a1), .val (.int (58 : Int32)), .val (.ref a3)] [(.int ie), (.int (5 : Int32))])) _
    refine XS.icmpNo X2.here hx rfl (hb hby d21_8) rfl (XT.ii_eq_f (own_ne hoe (by decide))) ?_
    show Steps p.tables e below (T2.setTop (mkF m 11 #[.val (.ref a1), .val (.int (58 : Int32)), .val (.ref a3)] [])) _
    refine XS.aloadN X2.here hx rfl (hb hby d21_11) rfl rfl ?_
    show Steps p.tables e below (T2.setTop (mkF m 12 #[.val (.ref a1), .val (.int (58 : Int32)), .val (.ref a3)] [(.ref a1)])) _
    refine st3 _ ?_
    show Steps p.tables e below (T3.setTop (mkF m 15 #[.val (.ref a1), .val (.int (58 : Int32)), .val (.ref a3)] [(.ref ab)])) _
    refine XS.aloadN X3.here hx rfl (hb hby d21_15) rfl rfl ?_
    show Steps p.tables e below (T3.setTop (mkF m 16 #[.val (.ref a1), .val (.int (58 : Int32)), .val (.ref a3)] [(.ref a1), (.ref ab)])) _
    refine st4 _ ?_
    show Steps p.tables e below (T4.setTop (mkF m 19 #[.val (.ref a1), .val (.int (58 : Int32)), .val (.ref a3)] [(.int (5 : Int32)), (.ref ab)])) _
    refine owLdB (k := 5) X4 hx hZ hE4 A_ab (j := (5 : Int32)) rfl (by decide) (g := (mkF m 19 #[.val (.ref a1), .val (.int (58 : Int32)), .val (.ref a3)] [(.int (5 : Int32)), (.ref ab)])) rfl rfl (hb hby d21_19) _ ?_
    exact kt
  have ql6 : (fb 5) = (58 : Int32) := hob.2.2.2.2.1
  have pre7 : ∀ t, Steps p.tables e below (T4.setTop (mkF m 20 #[.val (.ref a1), .val (.int (58 : Int32)), .val (.ref a3)] [(.int (58 : Int32))])) t → Steps p.tables e below (s₁.setTop (entryFrame m #[(.ref a1), (.int (58 : Int32)), (.ref a3)] 3)) t := by
    intro t kt
    refine pre5 _ ?_
    rw [ql6]
    exact kt
  obtain ⟨T8, X8, hE8, st8⟩ := getF X4 hx hZ hown (host := "") (Or.inl (hw _ (List.mem_of_getElem? (i := 19) rfl))) Via.refl hE4 F_at (g := (mkF m 32 #[.val (.ref a1), .val (.int (58 : Int32)), .val (.ref a3)] [(.ref a1), (.ref a1)])) rfl rfl (hb hby d21_32)
  have pre9 : ∀ t, Steps p.tables e below (T8.setTop (mkF m 37 #[.val (.ref a1), .val (.int (58 : Int32)), .val (.ref a3)] [(.int ((5 : Int32) + (1 : Int32))), (.ref a1)])) t → Steps p.tables e below (s₁.setTop (entryFrame m #[(.ref a1), (.int (58 : Int32)), (.ref a3)] 3)) t := by
    intro t kt
    refine pre7 _ ?_
    show Steps p.tables e below (T4.setTop (mkF m 20 #[.val (.ref a1), .val (.int (58 : Int32)), .val (.ref a3)] [(.int (58 : Int32))])) _
    refine XS.iloadN X4.here hx rfl (hb hby d21_20) rfl ?_
    show Steps p.tables e below (T4.setTop (mkF m 21 #[.val (.ref a1), .val (.int (58 : Int32)), .val (.ref a3)] [(.int (58 : Int32)), (.int (58 : Int32))])) _
    refine XS.icmpYes X4.here hx rfl (pc0 := 21) (pc' := 30) rfl (hb hby d21_21) rfl (XT.ii_eq_t (by decide)) (by decide) (by decide) ?_
    show Steps p.tables e below (T4.setTop (mkF m 30 #[.val (.ref a1), .val (.int (58 : Int32)), .val (.ref a3)] [])) _
    refine XS.aloadN X4.here hx rfl (hb hby d21_30) rfl rfl ?_
    show Steps p.tables e below (T4.setTop (mkF m 31 #[.val (.ref a1), .val (.int (58 : Int32)), .val (.ref a3)] [(.ref a1)])) _
    refine XS.dup X4.here hx rfl (hb hby d21_31) rfl rfl ?_
    show Steps p.tables e below (T4.setTop (mkF m 32 #[.val (.ref a1), .val (.int (58 : Int32)), .val (.ref a3)] [(.ref a1), (.ref a1)])) _
    refine st8 _ ?_
    show Steps p.tables e below (T8.setTop (mkF m 35 #[.val (.ref a1), .val (.int (58 : Int32)), .val (.ref a3)] [(.int (5 : Int32)), (.ref a1)])) _
    refine XS.iconst X8.here hx rfl (hb hby d21_35) ?_
    show Steps p.tables e below (T8.setTop (mkF m 36 #[.val (.ref a1), .val (.int (58 : Int32)), .val (.ref a3)] [(.int (1 : Int32)), (.int (5 : Int32)), (.ref a1)])) _
    refine XS.iadd X8.here hx rfl (hb hby d21_36) rfl ?_
    exact kt
  have ql10 : ((5 : Int32) + (1 : Int32)) = (6 : Int32) := (by decide)
  have pre11 : ∀ t, Steps p.tables e below (T8.setTop (mkF m 37 #[.val (.ref a1), .val (.int (58 : Int32)), .val (.ref a3)] [(.int (6 : Int32)), (.ref a1)])) t → Steps p.tables e below (s₁.setTop (entryFrame m #[(.ref a1), (.int (58 : Int32)), (.ref a3)] 3)) t := by
    intro t kt
    refine pre9 _ ?_
    rw [ql10]
    exact kt
  obtain ⟨T12, gh12, X12, hE12, W12, st12⟩ := putF X8 hx hZ hown (host := "") (Or.inl (hw _ (List.mem_of_getElem? (i := 19) rfl))) Via.refl hE8 F_at E_a1 (Or.inl (hw _ (List.mem_of_getElem? (i := 20) rfl))) (hw _ (List.mem_of_getElem? (i := 3) rfl)) (ty := .int) (by decide) rfl rfl (g := (mkF m 37 #[.val (.ref a1), .val (.int (58 : Int32)), .val (.ref a3)] [(.int (6 : Int32)), (.ref a1)])) rfl rfl (hb hby d21_37)
  have Fw12 := F_at.same W12
  have f13 := E_a1.wr W12
  have f14 := A_ab.other W12 (Ne.symm n1b)
  have f16 := F_end.other W12 (Or.inr (slot_ne (Or.inr (hw _ (List.mem_of_getElem? (i := 18) rfl))) (Or.inl (hw _ (List.mem_of_getElem? (i := 20) rfl))) (by decide) (t := .int) (t' := .int) (by decide) (by decide)))
  have f17 := F_bytes.other W12 (Or.inr (slot_ne (Or.inr (hw _ (List.mem_of_getElem? (i := 14) rfl))) (Or.inl (hw _ (List.mem_of_getElem? (i := 20) rfl))) (by decide) (t := (.array .byte)) (t' := .int) (by decide) (by decide)))
  have f18 := F_first.other W12 (Or.inr (slot_ne (Or.inl (hw _ (List.mem_of_getElem? (i := 12) rfl))) (Or.inl (hw _ (List.mem_of_getElem? (i := 20) rfl))) (by decide) (t := .boolean) (t' := .int) (by decide) (by decide)))
  have Z19 := Nat.le_trans Z0 (Keep.of_wr W12).1
  have N20 := Fr.snoc X12 N0 g_a1
  have K21 := (Keep.refl h0 [a1]).wr W12 (Or.inl (List.mem_of_getElem? (i := 0) rfl))
  have pre22 : ∀ t, Steps p.tables e below (T12.setTop (mkF m 40 #[.val (.ref a1), .val (.int (58 : Int32)), .val (.ref a3)] [])) t → Steps p.tables e below (s₁.setTop (entryFrame m #[(.ref a1), (.int (58 : Int32)), (.ref a3)] 3)) t := by
    intro t kt
    refine pre11 _ ?_
    show Steps p.tables e below (T8.setTop (mkF m 37 #[.val (.ref a1), .val (.int (58 : Int32)), .val (.ref a3)] [(.int (6 : Int32)), (.ref a1)])) _
    refine st12 _ ?_
    exact kt
  obtain ⟨fs, hr, hrun, hended, hW, hsame⟩ := X12.leave (v := none) (fun _ => rfl)
  refine ⟨_, _, pre22 _ ?_, hrun, hended, _, _, rfl, ?_, ⟨_, rfl⟩, hW, hsame.mono (by decide) (by decide)⟩
  · show Steps p.tables e below (T12.setTop (mkF m 40 #[.val (.ref a1), .val (.int (58 : Int32)), .val (.ref a3)] [])) _
    exact X12.returnOut hx Bd.returns (hb hby d21_40) hr
  · show Q21 Z a1 a3 ab ie fb h0 n0 _ T12.heap _
    rw [hE12]
    exact ⟨rfl, N20, K21, f13, Fw12, f16, f17, f18⟩
theorem pn_12 : plainName "java/util/Objects" = true := by first | (simp [plainName, overriddenIn]; done) | decide +kernel
theorem ef_12 (m : MethodId) (x0 : Addr) : entryFrame m #[(.ref x0)] 1 = mkF m 0 #[.val (.ref x0)] [] := by first | (simp [entryFrame, mkF, argsToLocals, Value.category]; done) | rfl
theorem d12_0 : decode jdk_31_method_10_code 0 = .ok (.aload_n 0, 1) := by decide +kernel
theorem d12_1 : decode jdk_31_method_10_code 1 = .ok (.ifnonnull 11, 3) := by decide +kernel
theorem d12_12 : decode jdk_31_method_10_code 12 = .ok (.aload_n 0, 1) := by decide +kernel
theorem d12_13 : decode jdk_31_method_10_code 13 = .ok (.areturn, 1) := by decide +kernel
def Q12 (Z : State) (a1 : Addr) (h0 : Heap) (n0 : Nat) (v : Option Value) (h : Heap) (L : List Loc) : Prop := v = some (.ref a1) ∧ Fr n0 L ∧ h = h0
set_option maxRecDepth 65536 in
set_option maxHeartbeats 40000000 in
theorem rm12 (l : Launch) (Z : State) (a0 : Array Value) (hw : ∀ d ∈ tables_1, d.before a0 Z = true) (ws : List Jvm.Cond) (a1 : Addr) (h0 : Heap) (n0 : Nat) (Z0 : n0 ≤ h0.size) :
    MetFree l (⟨"java/util/Objects", "requireNonNull", "(Ljava/lang/Object;)Ljava/lang/Object;"⟩ : MethodName) (head1 (Jvm.Cond.code (⟨"java/util/Objects", "requireNonNull", "(Ljava/lang/Object;)Ljava/lang/Object;"⟩ : MethodName) jdk_31_method_10_code 1 (some (.object "java/lang/Object")) :: ws) ({ frames := 0, cells := 0, slots := 0, locals := 0 } : Room)) (fun a U => a = #[(.ref a1)] ∧ Z.Warmed39 U.vm ∧ U.heap = h0) (fun _ _ _ _ _ => True) (fun _ U o U' => ∃ v L, o = .returned v ∧ Q12 Z a1 h0 n0 v U'.heap L ∧ FrameEnd U o U' L ({ frames := 0, cells := 0, slots := 0, locals := 0 } : Room).cells ({ frames := 0, cells := 0, slots := 0, locals := 0 } : Room).slots) := by
  refine MetFree.of_bodySF (plainFor_of_name pn_12) hisR ?_
  intro p e s m args below meth c s₁ Bd hml0 hP hK
  obtain ⟨rfl, hZ, hh⟩ := hP
  have hx := Bd.exec
  have hby := Bd.bytes
  have hml : c.maxLocals = 1 := hml0
  have hown : s.vm.findClass "java/util/Objects" = some m.cls := findClass_of_methodNamed Bd.named
  have hnm := (name_of_methodNamed Bd.named Bd.method).1
  have X0 : Stand p l e ({ frames := 0, cells := 0, slots := 0, locals := 0 } : Room) s m #[(.ref a1)] below meth c s₁ [] 0 0 := Stand.of_body Bd
  have e0 : s₁.heap = h0 := by rw [← hh, Bd.state]; rfl
  have N0 := Fr.nil n0
  have pre0 : ∀ t, Steps p.tables e below (s₁.setTop (mkF m 0 #[.val (.ref a1)] [])) t → Steps p.tables e below (s₁.setTop (entryFrame m #[(.ref a1)] 1)) t := fun t k => castTop (ef_12 m a1) k
  have pre1 : ∀ t, Steps p.tables e below (s₁.setTop (mkF m 13 #[.val (.ref a1)] [(.ref a1)])) t → Steps p.tables e below (s₁.setTop (entryFrame m #[(.ref a1)] 1)) t := by
    intro t kt
    refine pre0 _ ?_
    show Steps p.tables e below (s₁.setTop (mkF m 0 #[.val (.ref a1)] [])) _
    refine XS.aloadN X0.here hx rfl (hb hby d12_0) rfl rfl ?_
    show Steps p.tables e below (s₁.setTop (mkF m 1 #[.val (.ref a1)] [(.ref a1)])) _
    refine XS.ifnonnullYes X0.here hx rfl (pc0 := 1) (pc' := 12) rfl (hb hby d12_1) rfl (by decide) (by decide) ?_
    show Steps p.tables e below (s₁.setTop (mkF m 12 #[.val (.ref a1)] [])) _
    refine XS.aloadN X0.here hx rfl (hb hby d12_12) rfl rfl ?_
    exact kt
  obtain ⟨fs, hr, hrun, hended, hW, hsame⟩ := X0.leave (v := some (.ref a1)) (fun h => by rw [Bd.returns] at h; cases h)
  refine ⟨_, _, pre1 _ ?_, hrun, hended, _, _, rfl, ?_, ⟨_, rfl⟩, hW, hsame.mono (by decide) (by decide)⟩
  · show Steps p.tables e below (s₁.setTop (mkF m 13 #[.val (.ref a1)] [(.ref a1)])) _
    exact X0.areturnOut hx rfl Bd.returns rfl (hb hby d12_13) hr
  · show Q12 Z a1 h0 n0 _ s₁.heap _
    rw [e0]
    exact ⟨rfl, N0, rfl⟩
theorem pn_14r : plainName "jdk/internal/util/Preconditions" = true := by first | (simp [plainName, overriddenIn]; done) | decide +kernel
theorem ef_14r (m : MethodId) (x0 : Int32) (x1 : Int32) (x2 : Int32) (x3 : Addr) : entryFrame m #[(.int x0), (.int x1), (.int x2), (.ref x3)] 4 = mkF m 0 #[.val (.int x0), .val (.int x1), .val (.int x2), .val (.ref x3)] [] := by first | (simp [entryFrame, mkF, argsToLocals, Value.category]; done) | rfl
theorem d14_0 : decode jdk_41_method_13_code 0 = .ok (.iload_n 2, 1) := by decide +kernel
theorem d14_1 : decode jdk_41_method_13_code 1 = .ok (.iload_n 0, 1) := by decide +kernel
theorem d14_2 : decode jdk_41_method_13_code 2 = .ok (.ior, 1) := by decide +kernel
theorem d14_3 : decode jdk_41_method_13_code 3 = .ok (.iload_n 1, 1) := by decide +kernel
theorem d14_4 : decode jdk_41_method_13_code 4 = .ok (.ior, 1) := by decide +kernel
theorem d14_5 : decode jdk_41_method_13_code 5 = .ok (.ifCond .lt 10, 3) := by decide +kernel
theorem d14_8 : decode jdk_41_method_13_code 8 = .ok (.iload_n 1, 1) := by decide +kernel
theorem d14_9 : decode jdk_41_method_13_code 9 = .ok (.iload_n 2, 1) := by decide +kernel
theorem d14_10 : decode jdk_41_method_13_code 10 = .ok (.iload_n 0, 1) := by decide +kernel
theorem d14_11 : decode jdk_41_method_13_code 11 = .ok (.isub, 1) := by decide +kernel
theorem d14_12 : decode jdk_41_method_13_code 12 = .ok (.if_icmp .le 11, 3) := by decide +kernel
theorem d14_23 : decode jdk_41_method_13_code 23 = .ok (.iload_n 0, 1) := by decide +kernel
theorem d14_24 : decode jdk_41_method_13_code 24 = .ok (.ireturn, 1) := by decide +kernel
def Q14r (Z : State) (a4 : Addr) (h0 : Heap) (n0 : Nat) (v : Option Value) (h : Heap) (L : List Loc) : Prop := v = some (.int (3 : Int32)) ∧ Fr n0 L ∧ h = h0
set_option maxRecDepth 65536 in
set_option maxHeartbeats 40000000 in
theorem rm14r (l : Launch) (Z : State) (a0 : Array Value) (hw : ∀ d ∈ tables_1, d.before a0 Z = true) (ws : List Jvm.Cond) (a4 : Addr) (h0 : Heap) (n0 : Nat) (Z0 : n0 ≤ h0.size) :
    MetFree l (⟨"jdk/internal/util/Preconditions", "checkFromIndexSize", "(IIILjava/util/function/BiFunction;)I"⟩ : MethodName) (head1 (Jvm.Cond.code (⟨"jdk/internal/util/Preconditions", "checkFromIndexSize", "(IIILjava/util/function/BiFunction;)I"⟩ : MethodName) jdk_41_method_13_code 4 (some .int) :: ws) ({ frames := 0, cells := 0, slots := 0, locals := 0 } : Room)) (fun a U => a = #[(.int (3 : Int32)), (.int (1 : Int32)), (.int (9 : Int32)), (.ref a4)] ∧ Z.Warmed39 U.vm ∧ U.heap = h0) (fun _ _ _ _ _ => True) (fun _ U o U' => ∃ v L, o = .returned v ∧ Q14r Z a4 h0 n0 v U'.heap L ∧ FrameEnd U o U' L ({ frames := 0, cells := 0, slots := 0, locals := 0 } : Room).cells ({ frames := 0, cells := 0, slots := 0, locals := 0 } : Room).slots) := by
  refine MetFree.of_bodySF (plainFor_of_name pn_14r) hisR ?_
  intro p e s m args below meth c s₁ Bd hml0 hP hK
  obtain ⟨rfl, hZ, hh⟩ := hP
  have hx := Bd.exec
  have hby := Bd.bytes
  have hml : c.maxLocals = 4 := hml0
  have hown : s.vm.findClass "jdk/internal/util/Preconditions" = some m.cls := findClass_of_methodNamed Bd.named
  have hnm := (name_of_methodNamed Bd.named Bd.method).1
  have X0 : Stand p l e ({ frames := 0, cells := 0, slots := 0, locals := 0 } : Room) s m #[(.int (3 : Int32)), (.int (1 : Int32)), (.int (9 : Int32)), (.ref a4)] below meth c s₁ [] 0 0 := Stand.of_body Bd
  have e0 : s₁.heap = h0 := by rw [← hh, Bd.state]; rfl
  have N0 := Fr.nil n0
  have pre0 : ∀ t, Steps p.tables e below (s₁.setTop (mkF m 0 #[.val (.int (3 : Int32)), .val (.int (1 : Int32)), .val (.int (9 : Int32)), .val (.ref a4)] [])) t → Steps p.tables e below (s₁.setTop (entryFrame m #[(.int (3 : Int32)), (.int (1 : Int32)), (.int (9 : Int32)), (.ref a4)] 4)) t := fun t k => castTop (ef_14r m (3 : Int32) (1 : Int32) (9 : Int32) a4) k
  have pre1 : ∀ t, Steps p.tables e below (s₁.setTop (mkF m 3 #[.val (.int (3 : Int32)), .val (.int (1 : Int32)), .val (.int (9 : Int32)), .val (.ref a4)] [(.int ((9 : Int32) ||| (3 : Int32)))])) t → Steps p.tables e below (s₁.setTop (entryFrame m #[(.int (3 : Int32)), (.int (1 : Int32)), (.int (9 : Int32)), (.ref a4)] 4)) t := by
    intro t kt
    refine pre0 _ ?_
    show Steps p.tables e below (s₁.setTop (mkF m 0 #[.val (.int (3 : Int32)), .val (.int (1 : Int32)), .val (.int (9 : Int32)), .val (.ref a4)] [])) _
    refine XS.iloadN X0.here hx rfl (hb hby d14_0) rfl ?_
    show Steps p.tables e below (s₁.setTop (mkF m 1 #[.val (.int (3 : Int32)), .val (.int (1 : Int32)), .val (.int (9 : Int32)), .val (.ref a4)] [(.int (9 : Int32))])) _
    refine XS.iloadN X0.here hx rfl (hb hby d14_1) rfl ?_
    show Steps p.tables e below (s₁.setTop (mkF m 2 #[.val (.int (3 : Int32)), .val (.int (1 : Int32)), .val (.int (9 : Int32)), .val (.ref a4)] [(.int (3 : Int32)), (.int (9 : Int32))])) _
    refine XS.ior X0.here hx rfl (hb hby d14_2) rfl ?_
    exact kt
  have ql2 : ((9 : Int32) ||| (3 : Int32)) = (11 : Int32) := (by decide)
  have pre3 : ∀ t, Steps p.tables e below (s₁.setTop (mkF m 3 #[.val (.int (3 : Int32)), .val (.int (1 : Int32)), .val (.int (9 : Int32)), .val (.ref a4)] [(.int (11 : Int32))])) t → Steps p.tables e below (s₁.setTop (entryFrame m #[(.int (3 : Int32)), (.int (1 : Int32)), (.int (9 : Int32)), (.ref a4)] 4)) t := by
    intro t kt
    refine pre1 _ ?_
    rw [ql2]
    exact kt
  have pre4 : ∀ t, Steps p.tables e below (s₁.setTop (mkF m 5 #[.val (.int (3 : Int32)), .val (.int (1 : Int32)), .val (.int (9 : Int32)), .val (.ref a4)] [(.int ((11 : Int32) ||| (1 : Int32)))])) t → Steps p.tables e below (s₁.setTop (entryFrame m #[(.int (3 : Int32)), (.int (1 : Int32)), (.int (9 : Int32)), (.ref a4)] 4)) t := by
    intro t kt
    refine pre3 _ ?_
    show Steps p.tables e below (s₁.setTop (mkF m 3 #[.val (.int (3 : Int32)), .val (.int (1 : Int32)), .val (.int (9 : Int32)), .val (.ref a4)] [(.int (11 : Int32))])) _
    refine XS.iloadN X0.here hx rfl (hb hby d14_3) rfl ?_
    show Steps p.tables e below (s₁.setTop (mkF m 4 #[.val (.int (3 : Int32)), .val (.int (1 : Int32)), .val (.int (9 : Int32)), .val (.ref a4)] [(.int (1 : Int32)), (.int (11 : Int32))])) _
    refine XS.ior X0.here hx rfl (hb hby d14_4) rfl ?_
    exact kt
  have ql5 : ((11 : Int32) ||| (1 : Int32)) = (11 : Int32) := (by decide)
  have pre6 : ∀ t, Steps p.tables e below (s₁.setTop (mkF m 5 #[.val (.int (3 : Int32)), .val (.int (1 : Int32)), .val (.int (9 : Int32)), .val (.ref a4)] [(.int (11 : Int32))])) t → Steps p.tables e below (s₁.setTop (entryFrame m #[(.int (3 : Int32)), (.int (1 : Int32)), (.int (9 : Int32)), (.ref a4)] 4)) t := by
    intro t kt
    refine pre4 _ ?_
    rw [ql5]
    exact kt
  have pre7 : ∀ t, Steps p.tables e below (s₁.setTop (mkF m 12 #[.val (.int (3 : Int32)), .val (.int (1 : Int32)), .val (.int (9 : Int32)), .val (.ref a4)] [(.int ((9 : Int32) - (3 : Int32))), (.int (1 : Int32))])) t → Steps p.tables e below (s₁.setTop (entryFrame m #[(.int (3 : Int32)), (.int (1 : Int32)), (.int (9 : Int32)), (.ref a4)] 4)) t := by
    intro t kt
    refine pre6 _ ?_
    show Steps p.tables e below (s₁.setTop (mkF m 5 #[.val (.int (3 : Int32)), .val (.int (1 : Int32)), .val (.int (9 : Int32)), .val (.ref a4)] [(.int (11 : Int32))])) _
    refine XS.ifNo X0.here hx rfl (hb hby d14_5) rfl (XT.i0_lt_f (by decide)) ?_
    show Steps p.tables e below (s₁.setTop (mkF m 8 #[.val (.int (3 : Int32)), .val (.int (1 : Int32)), .val (.int (9 : Int32)), .val (.ref a4)] [])) _
    refine XS.iloadN X0.here hx rfl (hb hby d14_8) rfl ?_
    show Steps p.tables e below (s₁.setTop (mkF m 9 #[.val (.int (3 : Int32)), .val (.int (1 : Int32)), .val (.int (9 : Int32)), .val (.ref a4)] [(.int (1 : Int32))])) _
    refine XS.iloadN X0.here hx rfl (hb hby d14_9) rfl ?_
    show Steps p.tables e below (s₁.setTop (mkF m 10 #[.val (.int (3 : Int32)), .val (.int (1 : Int32)), .val (.int (9 : Int32)), .val (.ref a4)] [(.int (9 : Int32)), (.int (1 : Int32))])) _
    refine XS.iloadN X0.here hx rfl (hb hby d14_10) rfl ?_
    show Steps p.tables e below (s₁.setTop (mkF m 11 #[.val (.int (3 : Int32)), .val (.int (1 : Int32)), .val (.int (9 : Int32)), .val (.ref a4)] [(.int (3 : Int32)), (.int (9 : Int32)), (.int (1 : Int32))])) _
    refine XS.isub X0.here hx rfl (hb hby d14_11) rfl ?_
    exact kt
  have ql8 : ((9 : Int32) - (3 : Int32)) = (6 : Int32) := (by decide)
  have pre9 : ∀ t, Steps p.tables e below (s₁.setTop (mkF m 12 #[.val (.int (3 : Int32)), .val (.int (1 : Int32)), .val (.int (9 : Int32)), .val (.ref a4)] [(.int (6 : Int32)), (.int (1 : Int32))])) t → Steps p.tables e below (s₁.setTop (entryFrame m #[(.int (3 : Int32)), (.int (1 : Int32)), (.int (9 : Int32)), (.ref a4)] 4)) t := by
    intro t kt
    refine pre7 _ ?_
    rw [ql8]
    exact kt
  have pre10 : ∀ t, Steps p.tables e below (s₁.setTop (mkF m 24 #[.val (.int (3 : Int32)), .val (.int (1 : Int32)), .val (.int (9 : Int32)), .val (.ref a4)] [(.int (3 : Int32))])) t → Steps p.tables e below (s₁.setTop (entryFrame m #[(.int (3 : Int32)), (.int (1 : Int32)), (.int (9 : Int32)), (.ref a4)] 4)) t := by
    intro t kt
    refine pre9 _ ?_
    show Steps p.tables e below (s₁.setTop (mkF m 12 #[.val (.int (3 : Int32)), .val (.int (1 : Int32)), .val (.int (9 : Int32)), .val (.ref a4)] [(.int (6 : Int32)), (.int (1 : Int32))])) _
    refine XS.icmpYes X0.here hx rfl (pc0 := 12) (pc' := 23) rfl (hb hby d14_12) rfl (XT.ii_le_t (by decide)) (by decide) (by decide) ?_
    show Steps p.tables e below (s₁.setTop (mkF m 23 #[.val (.int (3 : Int32)), .val (.int (1 : Int32)), .val (.int (9 : Int32)), .val (.ref a4)] [])) _
    refine XS.iloadN X0.here hx rfl (hb hby d14_23) rfl ?_
    exact kt
  obtain ⟨fs, hr, hrun, hended, hW, hsame⟩ := X0.leave (v := some (.int (3 : Int32))) (fun h => by rw [Bd.returns] at h; cases h)
  refine ⟨_, _, pre10 _ ?_, hrun, hended, _, _, rfl, ?_, ⟨_, rfl⟩, hW, hsame.mono (by decide) (by decide)⟩
  · show Steps p.tables e below (s₁.setTop (mkF m 24 #[.val (.int (3 : Int32)), .val (.int (1 : Int32)), .val (.int (9 : Int32)), .val (.ref a4)] [(.int (3 : Int32))])) _
    exact owRetI X0 hx Bd.returns (hb hby d14_24) hr
  · show Q14r Z a4 h0 n0 _ s₁.heap _
    rw [e0]
    exact ⟨rfl, N0, rfl⟩
theorem pn_14n : plainName "jdk/internal/util/Preconditions" = true := by first | (simp [plainName, overriddenIn]; done) | decide +kernel
theorem ef_14n (m : MethodId) (x0 : Int32) (x1 : Int32) (x2 : Int32) : entryFrame m #[(.int x0), (.int x1), (.int x2), .null] 4 = mkF m 0 #[.val (.int x0), .val (.int x1), .val (.int x2), .val .null] [] := by first | (simp [entryFrame, mkF, argsToLocals, Value.category]; done) | rfl
def Q14n (Z : State)  (h0 : Heap) (n0 : Nat) (v : Option Value) (h : Heap) (L : List Loc) : Prop := v = some (.int (3 : Int32)) ∧ Fr n0 L ∧ h = h0
set_option maxRecDepth 65536 in
set_option maxHeartbeats 40000000 in
theorem rm14n (l : Launch) (Z : State) (a0 : Array Value) (hw : ∀ d ∈ tables_1, d.before a0 Z = true) (ws : List Jvm.Cond)  (h0 : Heap) (n0 : Nat) (Z0 : n0 ≤ h0.size) :
    MetFree l (⟨"jdk/internal/util/Preconditions", "checkFromIndexSize", "(IIILjava/util/function/BiFunction;)I"⟩ : MethodName) (head1 (Jvm.Cond.code (⟨"jdk/internal/util/Preconditions", "checkFromIndexSize", "(IIILjava/util/function/BiFunction;)I"⟩ : MethodName) jdk_41_method_13_code 4 (some .int) :: ws) ({ frames := 0, cells := 0, slots := 0, locals := 0 } : Room)) (fun a U => a = #[(.int (3 : Int32)), (.int (1 : Int32)), (.int (9 : Int32)), .null] ∧ Z.Warmed39 U.vm ∧ U.heap = h0) (fun _ _ _ _ _ => True) (fun _ U o U' => ∃ v L, o = .returned v ∧ Q14n Z  h0 n0 v U'.heap L ∧ FrameEnd U o U' L ({ frames := 0, cells := 0, slots := 0, locals := 0 } : Room).cells ({ frames := 0, cells := 0, slots := 0, locals := 0 } : Room).slots) := by
  refine MetFree.of_bodySF (plainFor_of_name pn_14n) hisR ?_
  intro p e s m args below meth c s₁ Bd hml0 hP hK
  obtain ⟨rfl, hZ, hh⟩ := hP
  have hx := Bd.exec
  have hby := Bd.bytes
  have hml : c.maxLocals = 4 := hml0
  have hown : s.vm.findClass "jdk/internal/util/Preconditions" = some m.cls := findClass_of_methodNamed Bd.named
  have hnm := (name_of_methodNamed Bd.named Bd.method).1
  have X0 : Stand p l e ({ frames := 0, cells := 0, slots := 0, locals := 0 } : Room) s m #[(.int (3 : Int32)), (.int (1 : Int32)), (.int (9 : Int32)), .null] below meth c s₁ [] 0 0 := Stand.of_body Bd
  have e0 : s₁.heap = h0 := by rw [← hh, Bd.state]; rfl
  have N0 := Fr.nil n0
  have pre0 : ∀ t, Steps p.tables e below (s₁.setTop (mkF m 0 #[.val (.int (3 : Int32)), .val (.int (1 : Int32)), .val (.int (9 : Int32)), .val .null] [])) t → Steps p.tables e below (s₁.setTop (entryFrame m #[(.int (3 : Int32)), (.int (1 : Int32)), (.int (9 : Int32)), .null] 4)) t := fun t k => castTop (ef_14n m (3 : Int32) (1 : Int32) (9 : Int32)) k
  have pre1 : ∀ t, Steps p.tables e below (s₁.setTop (mkF m 3 #[.val (.int (3 : Int32)), .val (.int (1 : Int32)), .val (.int (9 : Int32)), .val .null] [(.int ((9 : Int32) ||| (3 : Int32)))])) t → Steps p.tables e below (s₁.setTop (entryFrame m #[(.int (3 : Int32)), (.int (1 : Int32)), (.int (9 : Int32)), .null] 4)) t := by
    intro t kt
    refine pre0 _ ?_
    show Steps p.tables e below (s₁.setTop (mkF m 0 #[.val (.int (3 : Int32)), .val (.int (1 : Int32)), .val (.int (9 : Int32)), .val .null] [])) _
    refine XS.iloadN X0.here hx rfl (hb hby d14_0) rfl ?_
    show Steps p.tables e below (s₁.setTop (mkF m 1 #[.val (.int (3 : Int32)), .val (.int (1 : Int32)), .val (.int (9 : Int32)), .val .null] [(.int (9 : Int32))])) _
    refine XS.iloadN X0.here hx rfl (hb hby d14_1) rfl ?_
    show Steps p.tables e below (s₁.setTop (mkF m 2 #[.val (.int (3 : Int32)), .val (.int (1 : Int32)), .val (.int (9 : Int32)), .val .null] [(.int (3 : Int32)), (.int (9 : Int32))])) _
    refine XS.ior X0.here hx rfl (hb hby d14_2) rfl ?_
    exact kt
  have ql2 : ((9 : Int32) ||| (3 : Int32)) = (11 : Int32) := (by decide)
  have pre3 : ∀ t, Steps p.tables e below (s₁.setTop (mkF m 3 #[.val (.int (3 : Int32)), .val (.int (1 : Int32)), .val (.int (9 : Int32)), .val .null] [(.int (11 : Int32))])) t → Steps p.tables e below (s₁.setTop (entryFrame m #[(.int (3 : Int32)), (.int (1 : Int32)), (.int (9 : Int32)), .null] 4)) t := by
    intro t kt
    refine pre1 _ ?_
    rw [ql2]
    exact kt
  have pre4 : ∀ t, Steps p.tables e below (s₁.setTop (mkF m 5 #[.val (.int (3 : Int32)), .val (.int (1 : Int32)), .val (.int (9 : Int32)), .val .null] [(.int ((11 : Int32) ||| (1 : Int32)))])) t → Steps p.tables e below (s₁.setTop (entryFrame m #[(.int (3 : Int32)), (.int (1 : Int32)), (.int (9 : Int32)), .null] 4)) t := by
    intro t kt
    refine pre3 _ ?_
    show Steps p.tables e below (s₁.setTop (mkF m 3 #[.val (.int (3 : Int32)), .val (.int (1 : Int32)), .val (.int (9 : Int32)), .val .null] [(.int (11 : Int32))])) _
    refine XS.iloadN X0.here hx rfl (hb hby d14_3) rfl ?_
    show Steps p.tables e below (s₁.setTop (mkF m 4 #[.val (.int (3 : Int32)), .val (.int (1 : Int32)), .val (.int (9 : Int32)), .val .null] [(.int (1 : Int32)), (.int (11 : Int32))])) _
    refine XS.ior X0.here hx rfl (hb hby d14_4) rfl ?_
    exact kt
  have ql5 : ((11 : Int32) ||| (1 : Int32)) = (11 : Int32) := (by decide)
  have pre6 : ∀ t, Steps p.tables e below (s₁.setTop (mkF m 5 #[.val (.int (3 : Int32)), .val (.int (1 : Int32)), .val (.int (9 : Int32)), .val .null] [(.int (11 : Int32))])) t → Steps p.tables e below (s₁.setTop (entryFrame m #[(.int (3 : Int32)), (.int (1 : Int32)), (.int (9 : Int32)), .null] 4)) t := by
    intro t kt
    refine pre4 _ ?_
    rw [ql5]
    exact kt
  have pre7 : ∀ t, Steps p.tables e below (s₁.setTop (mkF m 12 #[.val (.int (3 : Int32)), .val (.int (1 : Int32)), .val (.int (9 : Int32)), .val .null] [(.int ((9 : Int32) - (3 : Int32))), (.int (1 : Int32))])) t → Steps p.tables e below (s₁.setTop (entryFrame m #[(.int (3 : Int32)), (.int (1 : Int32)), (.int (9 : Int32)), .null] 4)) t := by
    intro t kt
    refine pre6 _ ?_
    show Steps p.tables e below (s₁.setTop (mkF m 5 #[.val (.int (3 : Int32)), .val (.int (1 : Int32)), .val (.int (9 : Int32)), .val .null] [(.int (11 : Int32))])) _
    refine XS.ifNo X0.here hx rfl (hb hby d14_5) rfl (XT.i0_lt_f (by decide)) ?_
    show Steps p.tables e below (s₁.setTop (mkF m 8 #[.val (.int (3 : Int32)), .val (.int (1 : Int32)), .val (.int (9 : Int32)), .val .null] [])) _
    refine XS.iloadN X0.here hx rfl (hb hby d14_8) rfl ?_
    show Steps p.tables e below (s₁.setTop (mkF m 9 #[.val (.int (3 : Int32)), .val (.int (1 : Int32)), .val (.int (9 : Int32)), .val .null] [(.int (1 : Int32))])) _
    refine XS.iloadN X0.here hx rfl (hb hby d14_9) rfl ?_
    show Steps p.tables e below (s₁.setTop (mkF m 10 #[.val (.int (3 : Int32)), .val (.int (1 : Int32)), .val (.int (9 : Int32)), .val .null] [(.int (9 : Int32)), (.int (1 : Int32))])) _
    refine XS.iloadN X0.here hx rfl (hb hby d14_10) rfl ?_
    show Steps p.tables e below (s₁.setTop (mkF m 11 #[.val (.int (3 : Int32)), .val (.int (1 : Int32)), .val (.int (9 : Int32)), .val .null] [(.int (3 : Int32)), (.int (9 : Int32)), (.int (1 : Int32))])) _
    refine XS.isub X0.here hx rfl (hb hby d14_11) rfl ?_
    exact kt
  have ql8 : ((9 : Int32) - (3 : Int32)) = (6 : Int32) := (by decide)
  have pre9 : ∀ t, Steps p.tables e below (s₁.setTop (mkF m 12 #[.val (.int (3 : Int32)), .val (.int (1 : Int32)), .val (.int (9 : Int32)), .val .null] [(.int (6 : Int32)), (.int (1 : Int32))])) t → Steps p.tables e below (s₁.setTop (entryFrame m #[(.int (3 : Int32)), (.int (1 : Int32)), (.int (9 : Int32)), .null] 4)) t := by
    intro t kt
    refine pre7 _ ?_
    rw [ql8]
    exact kt
  have pre10 : ∀ t, Steps p.tables e below (s₁.setTop (mkF m 24 #[.val (.int (3 : Int32)), .val (.int (1 : Int32)), .val (.int (9 : Int32)), .val .null] [(.int (3 : Int32))])) t → Steps p.tables e below (s₁.setTop (entryFrame m #[(.int (3 : Int32)), (.int (1 : Int32)), (.int (9 : Int32)), .null] 4)) t := by
    intro t kt
    refine pre9 _ ?_
    show Steps p.tables e below (s₁.setTop (mkF m 12 #[.val (.int (3 : Int32)), .val (.int (1 : Int32)), .val (.int (9 : Int32)), .val .null] [(.int (6 : Int32)), (.int (1 : Int32))])) _
    refine XS.icmpYes X0.here hx rfl (pc0 := 12) (pc' := 23) rfl (hb hby d14_12) rfl (XT.ii_le_t (by decide)) (by decide) (by decide) ?_
    show Steps p.tables e below (s₁.setTop (mkF m 23 #[.val (.int (3 : Int32)), .val (.int (1 : Int32)), .val (.int (9 : Int32)), .val .null] [])) _
    refine XS.iloadN X0.here hx rfl (hb hby d14_23) rfl ?_
    exact kt
  obtain ⟨fs, hr, hrun, hended, hW, hsame⟩ := X0.leave (v := some (.int (3 : Int32))) (fun h => by rw [Bd.returns] at h; cases h)
  refine ⟨_, _, pre10 _ ?_, hrun, hended, _, _, rfl, ?_, ⟨_, rfl⟩, hW, hsame.mono (by decide) (by decide)⟩
  · show Steps p.tables e below (s₁.setTop (mkF m 24 #[.val (.int (3 : Int32)), .val (.int (1 : Int32)), .val (.int (9 : Int32)), .val .null] [(.int (3 : Int32))])) _
    exact owRetI X0 hx Bd.returns (hb hby d14_24) hr
  · show Q14n Z  h0 n0 _ s₁.heap _
    rw [e0]
    exact ⟨rfl, N0, rfl⟩
theorem pn_13r : plainName "java/lang/String" = true := by first | (simp [plainName, overriddenIn]; done) | decide +kernel
theorem ef_13r (m : MethodId) (x0 : Int32) (x1 : Int32) (x2 : Int32) : entryFrame m #[(.int x0), (.int x1), (.int x2)] 3 = mkF m 0 #[.val (.int x0), .val (.int x1), .val (.int x2)] [] := by first | (simp [entryFrame, mkF, argsToLocals, Value.category]; done) | rfl
theorem d13_0 : decode jdk_42_method_157_code 0 = .ok (.iload_n 0, 1) := by decide +kernel
theorem d13_1 : decode jdk_42_method_157_code 1 = .ok (.iload_n 1, 1) := by decide +kernel
theorem d13_2 : decode jdk_42_method_157_code 2 = .ok (.iload_n 2, 1) := by decide +kernel
theorem d13_3 : decode jdk_42_method_157_code 3 = .ok (.getstatic 1053, 3) := by decide +kernel
theorem pd_2 : parseMethodDescriptor "(IIILjava/util/function/BiFunction;)I" = some ⟨[.int, .int, .int, (.object "java/util/function/BiFunction")], some .int⟩ := by decide +kernel
theorem d13_6 : decode jdk_42_method_157_code 6 = .ok (.invokestatic 1065, 3) := by decide +kernel
theorem d13_9 : decode jdk_42_method_157_code 9 = .ok (.ireturn, 1) := by decide +kernel
def Q13r (Z : State) (fm : Addr) (h0 : Heap) (n0 : Nat) (v : Option Value) (h : Heap) (L : List Loc) : Prop := v = some (.int (3 : Int32)) ∧ Fr n0 L ∧ h = h0
set_option maxRecDepth 65536 in
set_option maxHeartbeats 40000000 in
theorem rm13r (l : Launch) (Z : State) (a0 : Array Value) (hw : ∀ d ∈ tables_1, d.before a0 Z = true) (ws : List Jvm.Cond) (fm : Addr) (h0 : Heap) (n0 : Nat) (Z0 : n0 ≤ h0.size) (S_fm : Sta Z h0 "jdk/internal/util/Preconditions" "SIOOBE_FORMATTER" "Ljava/util/function/BiFunction;" (.ref fm)) :
    MetFree l (⟨"java/lang/String", "checkBoundsOffCount", "(III)I"⟩ : MethodName) (head1 (Jvm.Cond.code (⟨"java/lang/String", "checkBoundsOffCount", "(III)I"⟩ : MethodName) jdk_42_method_157_code 3 (some .int) :: ws) ({ frames := 1, cells := 0, slots := 0, locals := 15 } : Room)) (fun a U => a = #[(.int (3 : Int32)), (.int (1 : Int32)), (.int (9 : Int32))] ∧ Z.Warmed39 U.vm ∧ U.heap = h0) (fun _ _ _ _ _ => True) (fun _ U o U' => ∃ v L, o = .returned v ∧ Q13r Z fm h0 n0 v U'.heap L ∧ FrameEnd U o U' L ({ frames := 1, cells := 0, slots := 0, locals := 15 } : Room).cells ({ frames := 1, cells := 0, slots := 0, locals := 15 } : Room).slots) := by
  refine MetFree.of_bodySF (plainFor_of_name pn_13r) hisR ?_
  intro p e s m args below meth c s₁ Bd hml0 hP hK
  obtain ⟨rfl, hZ, hh⟩ := hP
  have hx := Bd.exec
  have hby := Bd.bytes
  have hml : c.maxLocals = 3 := hml0
  have hown : s.vm.findClass "java/lang/String" = some m.cls := findClass_of_methodNamed Bd.named
  have hnm := (name_of_methodNamed Bd.named Bd.method).1
  have X0 : Stand p l e ({ frames := 1, cells := 0, slots := 0, locals := 15 } : Room) s m #[(.int (3 : Int32)), (.int (1 : Int32)), (.int (9 : Int32))] below meth c s₁ [] 0 0 := Stand.of_body Bd
  have e0 : s₁.heap = h0 := by rw [← hh, Bd.state]; rfl
  have N0 := Fr.nil n0
  have pre0 : ∀ t, Steps p.tables e below (s₁.setTop (mkF m 0 #[.val (.int (3 : Int32)), .val (.int (1 : Int32)), .val (.int (9 : Int32))] [])) t → Steps p.tables e below (s₁.setTop (entryFrame m #[(.int (3 : Int32)), (.int (1 : Int32)), (.int (9 : Int32))] 3)) t := fun t k => castTop (ef_13r m (3 : Int32) (1 : Int32) (9 : Int32)) k
  obtain ⟨T1, X1, hE1, st1⟩ := getS2 X0 hx hZ hown (host := "") (Or.inl (hw _ (List.mem_of_getElem? (i := 73) rfl))) Via.refl e0 S_fm (g := (mkF m 3 #[.val (.int (3 : Int32)), .val (.int (1 : Int32)), .val (.int (9 : Int32))] [(.int (9 : Int32)), (.int (1 : Int32)), (.int (3 : Int32))])) rfl (hb hby d13_3)
  obtain ⟨_, _, ⟨T2, L2, k2, n2⟩, -, X2, ⟨Lc2, hQ2, l2, y2, z2⟩, st2⟩ := Jvm.LawKit.callS X1 hx (y := (⟨"jdk/internal/util/Preconditions", "checkFromIndexSize", "(IIILjava/util/function/BiFunction;)I"⟩ : MethodName)) hown (mvT hZ (hw _ (List.mem_of_getElem? (i := 75) rfl))) (mvT hZ (hw _ (List.mem_of_getElem? (i := 76) rfl))) (mvT hZ (hw _ (List.mem_of_getElem? (i := 74) rfl))) (mvT hZ (hw _ (List.mem_of_getElem? (i := 77) rfl))) (by decide) (backOf (W := 0) (rm14r l Z a0 hw [] fm h0 n0 Z0) hZ (hw _ (List.mem_of_getElem? (i := 77) rfl)) (hw _ (List.mem_of_getElem? (i := 74) rfl)) (by decide) (by decide)) (g := (mkF m 6 #[.val (.int (3 : Int32)), .val (.int (1 : Int32)), .val (.int (9 : Int32))] [(.ref fm), (.int (9 : Int32)), (.int (1 : Int32)), (.int (3 : Int32))])) rfl (by rw [hml]; rfl) (argsL := [(.int (3 : Int32)), (.int (1 : Int32)), (.int (9 : Int32)), (.ref fm)]) (rest := []) (lenOf pd_2 rfl) rfl (by show 2 * 0 + _ ≤ _; exact Nat.le_of_eq rfl) (hb hby d13_6) (fun _ _ => ⟨rfl, hE1, (by decide : 0 + 0 ≤ _), (by decide : 0 + 0 ≤ _)⟩)
  dsimp only [Pt.U, Pt.locs, Pt.cells, Pt.slots] at X2 l2 y2 z2 st2 hQ2
  subst l2 y2 z2
  obtain ⟨rfl, N2q, hE2⟩ := hQ2
  have N2 := Fr.app N0 N2q
  have pre3 : ∀ t, Steps p.tables e below (T2.setTop (mkF m 9 #[.val (.int (3 : Int32)), .val (.int (1 : Int32)), .val (.int (9 : Int32))] [(.int (3 : Int32))])) t → Steps p.tables e below (s₁.setTop (entryFrame m #[(.int (3 : Int32)), (.int (1 : Int32)), (.int (9 : Int32))] 3)) t := by
    intro t kt
    refine pre0 _ ?_
    show Steps p.tables e below (s₁.setTop (mkF m 0 #[.val (.int (3 : Int32)), .val (.int (1 : Int32)), .val (.int (9 : Int32))] [])) _
    refine XS.iloadN X0.here hx rfl (hb hby d13_0) rfl ?_
    show Steps p.tables e below (s₁.setTop (mkF m 1 #[.val (.int (3 : Int32)), .val (.int (1 : Int32)), .val (.int (9 : Int32))] [(.int (3 : Int32))])) _
    refine XS.iloadN X0.here hx rfl (hb hby d13_1) rfl ?_
    show Steps p.tables e below (s₁.setTop (mkF m 2 #[.val (.int (3 : Int32)), .val (.int (1 : Int32)), .val (.int (9 : Int32))] [(.int (1 : Int32)), (.int (3 : Int32))])) _
    refine XS.iloadN X0.here hx rfl (hb hby d13_2) rfl ?_
    show Steps p.tables e below (s₁.setTop (mkF m 3 #[.val (.int (3 : Int32)), .val (.int (1 : Int32)), .val (.int (9 : Int32))] [(.int (9 : Int32)), (.int (1 : Int32)), (.int (3 : Int32))])) _
    refine st1 _ ?_
    show Steps p.tables e below (T1.setTop (mkF m 6 #[.val (.int (3 : Int32)), .val (.int (1 : Int32)), .val (.int (9 : Int32))] [(.ref fm), (.int (9 : Int32)), (.int (1 : Int32)), (.int (3 : Int32))])) _
    refine st2 _ ?_
    exact kt
  obtain ⟨fs, hr, hrun, hended, hW, hsame⟩ := X2.leave (v := some (.int (3 : Int32))) (fun h => by rw [Bd.returns] at h; cases h)
  refine ⟨_, _, pre3 _ ?_, hrun, hended, _, _, rfl, ?_, ⟨_, rfl⟩, hW, hsame.mono (by decide) (by decide)⟩
  · show Steps p.tables e below (T2.setTop (mkF m 9 #[.val (.int (3 : Int32)), .val (.int (1 : Int32)), .val (.int (9 : Int32))] [(.int (3 : Int32))])) _
    exact owRetI X2 hx Bd.returns (hb hby d13_9) hr
  · show Q13r Z fm h0 n0 _ T2.heap _
    rw [hE2]
    exact ⟨rfl, N2, rfl⟩
theorem pn_13n : plainName "java/lang/String" = true := by first | (simp [plainName, overriddenIn]; done) | decide +kernel
theorem ef_13n (m : MethodId) (x0 : Int32) (x1 : Int32) (x2 : Int32) : entryFrame m #[(.int x0), (.int x1), (.int x2)] 3 = mkF m 0 #[.val (.int x0), .val (.int x1), .val (.int x2)] [] := by first | (simp [entryFrame, mkF, argsToLocals, Value.category]; done) | rfl
def Q13n (Z : State)  (h0 : Heap) (n0 : Nat) (v : Option Value) (h : Heap) (L : List Loc) : Prop := v = some (.int (3 : Int32)) ∧ Fr n0 L ∧ h = h0
set_option maxRecDepth 65536 in
set_option maxHeartbeats 40000000 in
theorem rm13n (l : Launch) (Z : State) (a0 : Array Value) (hw : ∀ d ∈ tables_1, d.before a0 Z = true) (ws : List Jvm.Cond)  (h0 : Heap) (n0 : Nat) (Z0 : n0 ≤ h0.size) (S_fm : Sta Z h0 "jdk/internal/util/Preconditions" "SIOOBE_FORMATTER" "Ljava/util/function/BiFunction;" .null) :
    MetFree l (⟨"java/lang/String", "checkBoundsOffCount", "(III)I"⟩ : MethodName) (head1 (Jvm.Cond.code (⟨"java/lang/String", "checkBoundsOffCount", "(III)I"⟩ : MethodName) jdk_42_method_157_code 3 (some .int) :: ws) ({ frames := 1, cells := 0, slots := 0, locals := 15 } : Room)) (fun a U => a = #[(.int (3 : Int32)), (.int (1 : Int32)), (.int (9 : Int32))] ∧ Z.Warmed39 U.vm ∧ U.heap = h0) (fun _ _ _ _ _ => True) (fun _ U o U' => ∃ v L, o = .returned v ∧ Q13n Z  h0 n0 v U'.heap L ∧ FrameEnd U o U' L ({ frames := 1, cells := 0, slots := 0, locals := 15 } : Room).cells ({ frames := 1, cells := 0, slots := 0, locals := 15 } : Room).slots) := by
  refine MetFree.of_bodySF (plainFor_of_name pn_13n) hisR ?_
  intro p e s m args below meth c s₁ Bd hml0 hP hK
  obtain ⟨rfl, hZ, hh⟩ := hP
  have hx := Bd.exec
  have hby := Bd.bytes
  have hml : c.maxLocals = 3 := hml0
  have hown : s.vm.findClass "java/lang/String" = some m.cls := findClass_of_methodNamed Bd.named
  have hnm := (name_of_methodNamed Bd.named Bd.method).1
  have X0 : Stand p l e ({ frames := 1, cells := 0, slots := 0, locals := 15 } : Room) s m #[(.int (3 : Int32)), (.int (1 : Int32)), (.int (9 : Int32))] below meth c s₁ [] 0 0 := Stand.of_body Bd
  have e0 : s₁.heap = h0 := by rw [← hh, Bd.state]; rfl
  have N0 := Fr.nil n0
  have pre0 : ∀ t, Steps p.tables e below (s₁.setTop (mkF m 0 #[.val (.int (3 : Int32)), .val (.int (1 : Int32)), .val (.int (9 : Int32))] [])) t → Steps p.tables e below (s₁.setTop (entryFrame m #[(.int (3 : Int32)), (.int (1 : Int32)), (.int (9 : Int32))] 3)) t := fun t k => castTop (ef_13n m (3 : Int32) (1 : Int32) (9 : Int32)) k
  obtain ⟨T1, X1, hE1, st1⟩ := getS2 X0 hx hZ hown (host := "") (Or.inl (hw _ (List.mem_of_getElem? (i := 73) rfl))) Via.refl e0 S_fm (g := (mkF m 3 #[.val (.int (3 : Int32)), .val (.int (1 : Int32)), .val (.int (9 : Int32))] [(.int (9 : Int32)), (.int (1 : Int32)), (.int (3 : Int32))])) rfl (hb hby d13_3)
  obtain ⟨_, _, ⟨T2, L2, k2, n2⟩, -, X2, ⟨Lc2, hQ2, l2, y2, z2⟩, st2⟩ := Jvm.LawKit.callS X1 hx (y := (⟨"jdk/internal/util/Preconditions", "checkFromIndexSize", "(IIILjava/util/function/BiFunction;)I"⟩ : MethodName)) hown (mvT hZ (hw _ (List.mem_of_getElem? (i := 75) rfl))) (mvT hZ (hw _ (List.mem_of_getElem? (i := 76) rfl))) (mvT hZ (hw _ (List.mem_of_getElem? (i := 74) rfl))) (mvT hZ (hw _ (List.mem_of_getElem? (i := 77) rfl))) (by decide) (backOf (W := 0) (rm14n l Z a0 hw [] h0 n0 Z0) hZ (hw _ (List.mem_of_getElem? (i := 77) rfl)) (hw _ (List.mem_of_getElem? (i := 74) rfl)) (by decide) (by decide)) (g := (mkF m 6 #[.val (.int (3 : Int32)), .val (.int (1 : Int32)), .val (.int (9 : Int32))] [.null, (.int (9 : Int32)), (.int (1 : Int32)), (.int (3 : Int32))])) rfl (by rw [hml]; rfl) (argsL := [(.int (3 : Int32)), (.int (1 : Int32)), (.int (9 : Int32)), .null]) (rest := []) (lenOf pd_2 rfl) rfl (by show 2 * 0 + _ ≤ _; exact Nat.le_of_eq rfl) (hb hby d13_6) (fun _ _ => ⟨rfl, hE1, (by decide : 0 + 0 ≤ _), (by decide : 0 + 0 ≤ _)⟩)
  dsimp only [Pt.U, Pt.locs, Pt.cells, Pt.slots] at X2 l2 y2 z2 st2 hQ2
  subst l2 y2 z2
  obtain ⟨rfl, N2q, hE2⟩ := hQ2
  have N2 := Fr.app N0 N2q
  have pre3 : ∀ t, Steps p.tables e below (T2.setTop (mkF m 9 #[.val (.int (3 : Int32)), .val (.int (1 : Int32)), .val (.int (9 : Int32))] [(.int (3 : Int32))])) t → Steps p.tables e below (s₁.setTop (entryFrame m #[(.int (3 : Int32)), (.int (1 : Int32)), (.int (9 : Int32))] 3)) t := by
    intro t kt
    refine pre0 _ ?_
    show Steps p.tables e below (s₁.setTop (mkF m 0 #[.val (.int (3 : Int32)), .val (.int (1 : Int32)), .val (.int (9 : Int32))] [])) _
    refine XS.iloadN X0.here hx rfl (hb hby d13_0) rfl ?_
    show Steps p.tables e below (s₁.setTop (mkF m 1 #[.val (.int (3 : Int32)), .val (.int (1 : Int32)), .val (.int (9 : Int32))] [(.int (3 : Int32))])) _
    refine XS.iloadN X0.here hx rfl (hb hby d13_1) rfl ?_
    show Steps p.tables e below (s₁.setTop (mkF m 2 #[.val (.int (3 : Int32)), .val (.int (1 : Int32)), .val (.int (9 : Int32))] [(.int (1 : Int32)), (.int (3 : Int32))])) _
    refine XS.iloadN X0.here hx rfl (hb hby d13_2) rfl ?_
    show Steps p.tables e below (s₁.setTop (mkF m 3 #[.val (.int (3 : Int32)), .val (.int (1 : Int32)), .val (.int (9 : Int32))] [(.int (9 : Int32)), (.int (1 : Int32)), (.int (3 : Int32))])) _
    refine st1 _ ?_
    show Steps p.tables e below (T1.setTop (mkF m 6 #[.val (.int (3 : Int32)), .val (.int (1 : Int32)), .val (.int (9 : Int32))] [.null, (.int (9 : Int32)), (.int (1 : Int32)), (.int (3 : Int32))])) _
    refine st2 _ ?_
    exact kt
  obtain ⟨fs, hr, hrun, hended, hW, hsame⟩ := X2.leave (v := some (.int (3 : Int32))) (fun h => by rw [Bd.returns] at h; cases h)
  refine ⟨_, _, pre3 _ ?_, hrun, hended, _, _, rfl, ?_, ⟨_, rfl⟩, hW, hsame.mono (by decide) (by decide)⟩
  · show Steps p.tables e below (T2.setTop (mkF m 9 #[.val (.int (3 : Int32)), .val (.int (1 : Int32)), .val (.int (9 : Int32))] [(.int (3 : Int32))])) _
    exact owRetI X2 hx Bd.returns (hb hby d13_9) hr
  · show Q13n Z  h0 n0 _ T2.heap _
    rw [hE2]
    exact ⟨rfl, N2, rfl⟩
def Q13 (Z : State) (fmv : Value) (h0 : Heap) (n0 : Nat) (v : Option Value) (h : Heap) (L : List Loc) : Prop := v = some (.int (3 : Int32)) ∧ Fr n0 L ∧ h = h0
theorem rm13 (l : Launch) (Z : State) (a0 : Array Value) (hw : ∀ d ∈ tables_1, d.before a0 Z = true) (ws : List Jvm.Cond) (fmv : Value) (h0 : Heap) (n0 : Nat) (Z0 : n0 ≤ h0.size) (S_fm : Sta Z h0 "jdk/internal/util/Preconditions" "SIOOBE_FORMATTER" "Ljava/util/function/BiFunction;" fmv) (hf : fmv.isRef = true) :
    MetFree l (⟨"java/lang/String", "checkBoundsOffCount", "(III)I"⟩ : MethodName) (head1 (Jvm.Cond.code (⟨"java/lang/String", "checkBoundsOffCount", "(III)I"⟩ : MethodName) jdk_42_method_157_code 3 (some .int) :: ws) ({ frames := 1, cells := 0, slots := 0, locals := 15 } : Room)) (fun a U => a = #[(.int (3 : Int32)), (.int (1 : Int32)), (.int (9 : Int32))] ∧ Z.Warmed39 U.vm ∧ U.heap = h0) (fun _ _ _ _ _ => True) (fun _ U o U' => ∃ v L, o = .returned v ∧ Q13 Z fmv h0 n0 v U'.heap L ∧ FrameEnd U o U' L ({ frames := 1, cells := 0, slots := 0, locals := 15 } : Room).cells ({ frames := 1, cells := 0, slots := 0, locals := 15 } : Room).slots) := by
  rcases Jvm.RoadKit.ref_cases hf with rfl | ⟨fm, rfl⟩
  · exact rm13n l Z a0 hw ws h0 n0 Z0 S_fm
  · exact rm13r l Z a0 hw ws fm h0 n0 Z0 S_fm
theorem pn_16 : plainName "java/lang/StringCoding" = true := by first | (simp [plainName, overriddenIn]; done) | decide +kernel
theorem ef_16 (m : MethodId) (x0 : Addr) (x1 : Int32) (x2 : Int32) : entryFrame m #[(.ref x0), (.int x1), (.int x2)] 5 = mkF m 0 #[.val (.ref x0), .val (.int x1), .val (.int x2), .unset, .unset] [] := by first | (simp [entryFrame, mkF, argsToLocals, Value.category]; done) | rfl
theorem d16_0 : decode jdk_123_method_3_code 0 = .ok (.iload_n 1, 1) := by decide +kernel
theorem d16_1 : decode jdk_123_method_3_code 1 = .ok (.iload_n 2, 1) := by decide +kernel
theorem d16_2 : decode jdk_123_method_3_code 2 = .ok (.iadd, 1) := by decide +kernel
theorem d16_3 : decode jdk_123_method_3_code 3 = .ok (.istore_n 3, 1) := by decide +kernel
theorem d16_4 : decode jdk_123_method_3_code 4 = .ok (.iload_n 1, 1) := by decide +kernel
theorem d16_5 : decode jdk_123_method_3_code 5 = .ok (.istore 4, 2) := by decide +kernel
theorem d16_7 : decode jdk_123_method_3_code 7 = .ok (.iload 4, 2) := by decide +kernel
theorem d16_9 : decode jdk_123_method_3_code 9 = .ok (.iload_n 3, 1) := by decide +kernel
theorem d16_10 : decode jdk_123_method_3_code 10 = .ok (.if_icmp .ge 21, 3) := by decide +kernel
theorem d16_13 : decode jdk_123_method_3_code 13 = .ok (.aload_n 0, 1) := by decide +kernel
theorem d16_14 : decode jdk_123_method_3_code 14 = .ok (.iload 4, 2) := by decide +kernel
theorem d16_16 : decode jdk_123_method_3_code 16 = .ok (.baload, 1) := by decide +kernel
theorem d16_17 : decode jdk_123_method_3_code 17 = .ok (.ifCond .ge 8, 3) := by decide +kernel
theorem d16_25 : decode jdk_123_method_3_code 25 = .ok (.iinc 4 1, 3) := by decide +kernel
theorem d16_28 : decode jdk_123_method_3_code 28 = .ok (.goto (-21), 3) := by decide +kernel
theorem d16_31 : decode jdk_123_method_3_code 31 = .ok (.iload_n 2, 1) := by decide +kernel
theorem d16_32 : decode jdk_123_method_3_code 32 = .ok (.ireturn, 1) := by decide +kernel
def Q16 (Z : State) (a1 : Addr) (fb : Nat → Int32) (h0 : Heap) (n0 : Nat) (v : Option Value) (h : Heap) (L : List Loc) : Prop := v = some (.int (1 : Int32)) ∧ Fr n0 L ∧ h = h0
set_option maxRecDepth 65536 in
set_option maxHeartbeats 40000000 in
theorem rm16 (l : Launch) (Z : State) (a0 : Array Value) (hw : ∀ d ∈ tables_1, d.before a0 Z = true) (ws : List Jvm.Cond) (a1 : Addr) (fb : Nat → Int32) (h0 : Heap) (n0 : Nat) (Z0 : n0 ≤ h0.size) (A_a1 : owAI Z h0 a1 .byte 9 fb) (hob : OB fb) :
    MetFree l (⟨"java/lang/StringCoding", "countPositives", "([BII)I"⟩ : MethodName) (head1 (Jvm.Cond.code (⟨"java/lang/StringCoding", "countPositives", "([BII)I"⟩ : MethodName) jdk_123_method_3_code 5 (some .int) :: ws) ({ frames := 0, cells := 0, slots := 0, locals := 0 } : Room)) (fun a U => a = #[(.ref a1), (.int (3 : Int32)), (.int (1 : Int32))] ∧ Z.Warmed39 U.vm ∧ U.heap = h0) (fun _ _ _ _ _ => True) (fun _ U o U' => ∃ v L, o = .returned v ∧ Q16 Z a1 fb h0 n0 v U'.heap L ∧ FrameEnd U o U' L ({ frames := 0, cells := 0, slots := 0, locals := 0 } : Room).cells ({ frames := 0, cells := 0, slots := 0, locals := 0 } : Room).slots) := by
  refine MetFree.of_bodySF (plainFor_of_name pn_16) hisR ?_
  intro p e s m args below meth c s₁ Bd hml0 hP hK
  obtain ⟨rfl, hZ, hh⟩ := hP
  have hx := Bd.exec
  have hby := Bd.bytes
  have hml : c.maxLocals = 5 := hml0
  have hown : s.vm.findClass "java/lang/StringCoding" = some m.cls := findClass_of_methodNamed Bd.named
  have hnm := (name_of_methodNamed Bd.named Bd.method).1
  have X0 : Stand p l e ({ frames := 0, cells := 0, slots := 0, locals := 0 } : Room) s m #[(.ref a1), (.int (3 : Int32)), (.int (1 : Int32))] below meth c s₁ [] 0 0 := Stand.of_body Bd
  have e0 : s₁.heap = h0 := by rw [← hh, Bd.state]; rfl
  have N0 := Fr.nil n0
  have pre0 : ∀ t, Steps p.tables e below (s₁.setTop (mkF m 0 #[.val (.ref a1), .val (.int (3 : Int32)), .val (.int (1 : Int32)), .unset, .unset] [])) t → Steps p.tables e below (s₁.setTop (entryFrame m #[(.ref a1), (.int (3 : Int32)), (.int (1 : Int32))] 5)) t := fun t k => castTop (ef_16 m a1 (3 : Int32) (1 : Int32)) k
  have pre1 : ∀ t, Steps p.tables e below (s₁.setTop (mkF m 3 #[.val (.ref a1), .val (.int (3 : Int32)), .val (.int (1 : Int32)), .unset, .unset] [(.int ((3 : Int32) + (1 : Int32)))])) t → Steps p.tables e below (s₁.setTop (entryFrame m #[(.ref a1), (.int (3 : Int32)), (.int (1 : Int32))] 5)) t := by
    intro t kt
    refine pre0 _ ?_
    show Steps p.tables e below (s₁.setTop (mkF m 0 #[.val (.ref a1), .val (.int (3 : Int32)), .val (.int (1 : Int32)), .unset, .unset] [])) _
    refine XS.iloadN X0.here hx rfl (hb hby d16_0) rfl ?_
    show Steps p.tables e below (s₁.setTop (mkF m 1 #[.val (.ref a1), .val (.int (3 : Int32)), .val (.int (1 : Int32)), .unset, .unset] [(.int (3 : Int32))])) _
    refine XS.iloadN X0.here hx rfl (hb hby d16_1) rfl ?_
    show Steps p.tables e below (s₁.setTop (mkF m 2 #[.val (.ref a1), .val (.int (3 : Int32)), .val (.int (1 : Int32)), .unset, .unset] [(.int (1 : Int32)), (.int (3 : Int32))])) _
    refine XS.iadd X0.here hx rfl (hb hby d16_2) rfl ?_
    exact kt
  have ql2 : ((3 : Int32) + (1 : Int32)) = (4 : Int32) := (by decide)
  have pre3 : ∀ t, Steps p.tables e below (s₁.setTop (mkF m 3 #[.val (.ref a1), .val (.int (3 : Int32)), .val (.int (1 : Int32)), .unset, .unset] [(.int (4 : Int32))])) t → Steps p.tables e below (s₁.setTop (entryFrame m #[(.ref a1), (.int (3 : Int32)), (.int (1 : Int32))] 5)) t := by
    intro t kt
    refine pre1 _ ?_
    rw [ql2]
    exact kt
  have pre4 : ∀ t, Steps p.tables e below (s₁.setTop (mkF m 17 #[.val (.ref a1), .val (.int (3 : Int32)), .val (.int (1 : Int32)), .val (.int (4 : Int32)), .val (.int (3 : Int32))] [(.int (fb 3))])) t → Steps p.tables e below (s₁.setTop (entryFrame m #[(.ref a1), (.int (3 : Int32)), (.int (1 : Int32))] 5)) t := by
    intro t kt
    refine pre3 _ ?_
    show Steps p.tables e below (s₁.setTop (mkF m 3 #[.val (.ref a1), .val (.int (3 : Int32)), .val (.int (1 : Int32)), .unset, .unset] [(.int (4 : Int32))])) _
    refine XS.istoreN X0.here hx rfl (hb hby d16_3) rfl (l' := #[.val (.ref a1), .val (.int (3 : Int32)), .val (.int (1 : Int32)), .val (.int (4 : Int32)), .unset]) rfl ?_
    show Steps p.tables e below (s₁.setTop (mkF m 4 #[.val (.ref a1), .val (.int (3 : Int32)), .val (.int (1 : Int32)), .val (.int (4 : Int32)), .unset] [])) _
    refine XS.iloadN X0.here hx rfl (hb hby d16_4) rfl ?_
    show Steps p.tables e below (s₁.setTop (mkF m 5 #[.val (.ref a1), .val (.int (3 : Int32)), .val (.int (1 : Int32)), .val (.int (4 : Int32)), .unset] [(.int (3 : Int32))])) _
    refine XS.istore X0.here hx rfl (hb hby d16_5) rfl (l' := #[.val (.ref a1), .val (.int (3 : Int32)), .val (.int (1 : Int32)), .val (.int (4 : Int32)), .val (.int (3 : Int32))]) rfl ?_
    show Steps p.tables e below (s₁.setTop (mkF m 7 #[.val (.ref a1), .val (.int (3 : Int32)), .val (.int (1 : Int32)), .val (.int (4 : Int32)), .val (.int (3 : Int32))] [])) _
    refine XS.iload X0.here hx rfl (hb hby d16_7) rfl ?_
    show Steps p.tables e below (s₁.setTop (mkF m 9 #[.val (.ref a1), .val (.int (3 : Int32)), .val (.int (1 : Int32)), .val (.int (4 : Int32)), .val (.int (3 : Int32))] [(.int (3 : Int32))])) _
    refine XS.iloadN X0.here hx rfl (hb hby d16_9) rfl ?_
    show Steps p.tables e below (s₁.setTop (mkF m 10 #[.val (.ref a1), .val (.int (3 : Int32)), .val (.int (1 : Int32)), .val (.int (4 : Int32)), .val (.int (3 : Int32))] [(.int (4 : Int32)), (.int (3 : Int32))])) _
    refine XS.icmpNo X0.here hx rfl (hb hby d16_10) rfl (XT.ii_ge_f (by decide)) ?_
    show Steps p.tables e below (s₁.setTop (mkF m 13 #[.val (.ref a1), .val (.int (3 : Int32)), .val (.int (1 : Int32)), .val (.int (4 : Int32)), .val (.int (3 : Int32))] [])) _
    refine XS.aloadN X0.here hx rfl (hb hby d16_13) rfl rfl ?_
    show Steps p.tables e below (s₁.setTop (mkF m 14 #[.val (.ref a1), .val (.int (3 : Int32)), .val (.int (1 : Int32)), .val (.int (4 : Int32)), .val (.int (3 : Int32))] [(.ref a1)])) _
    refine XS.iload X0.here hx rfl (hb hby d16_14) rfl ?_
    show Steps p.tables e below (s₁.setTop (mkF m 16 #[.val (.ref a1), .val (.int (3 : Int32)), .val (.int (1 : Int32)), .val (.int (4 : Int32)), .val (.int (3 : Int32))] [(.int (3 : Int32)), (.ref a1)])) _
    refine owLdB (k := 3) X0 hx hZ e0 A_a1 (j := (3 : Int32)) rfl (by decide) (g := (mkF m 16 #[.val (.ref a1), .val (.int (3 : Int32)), .val (.int (1 : Int32)), .val (.int (4 : Int32)), .val (.int (3 : Int32))] [(.int (3 : Int32)), (.ref a1)])) rfl rfl (hb hby d16_16) _ ?_
    exact kt
  have ql5 : (fb 3) = (107 : Int32) := hob.2.2.1
  have pre6 : ∀ t, Steps p.tables e below (s₁.setTop (mkF m 17 #[.val (.ref a1), .val (.int (3 : Int32)), .val (.int (1 : Int32)), .val (.int (4 : Int32)), .val (.int (3 : Int32))] [(.int (107 : Int32))])) t → Steps p.tables e below (s₁.setTop (entryFrame m #[(.ref a1), (.int (3 : Int32)), (.int (1 : Int32))] 5)) t := by
    intro t kt
    refine pre4 _ ?_
    rw [ql5]
    exact kt
  have pre7 : ∀ t, Steps p.tables e below (s₁.setTop (mkF m 32 #[.val (.ref a1), .val (.int (3 : Int32)), .val (.int (1 : Int32)), .val (.int (4 : Int32)), .val (.int (4 : Int32))] [(.int (1 : Int32))])) t → Steps p.tables e below (s₁.setTop (entryFrame m #[(.ref a1), (.int (3 : Int32)), (.int (1 : Int32))] 5)) t := by
    intro t kt
    refine pre6 _ ?_
    show Steps p.tables e below (s₁.setTop (mkF m 17 #[.val (.ref a1), .val (.int (3 : Int32)), .val (.int (1 : Int32)), .val (.int (4 : Int32)), .val (.int (3 : Int32))] [(.int (107 : Int32))])) _
    refine XS.ifYes X0.here hx rfl (pc0 := 17) (pc' := 25) rfl (hb hby d16_17) rfl (XT.i0_ge_t (by decide)) (by decide) (by decide) ?_
    show Steps p.tables e below (s₁.setTop (mkF m 25 #[.val (.ref a1), .val (.int (3 : Int32)), .val (.int (1 : Int32)), .val (.int (4 : Int32)), .val (.int (3 : Int32))] [])) _
    refine XS.iinc X0.here hx rfl (hb hby d16_25) rfl (l' := #[.val (.ref a1), .val (.int (3 : Int32)), .val (.int (1 : Int32)), .val (.int (4 : Int32)), .val (.int (4 : Int32))]) rfl ?_
    show Steps p.tables e below (s₁.setTop (mkF m 28 #[.val (.ref a1), .val (.int (3 : Int32)), .val (.int (1 : Int32)), .val (.int (4 : Int32)), .val (.int (4 : Int32))] [])) _
    refine XS.goto X0.here hx rfl (pc0 := 28) (pc' := 7) rfl (hb hby d16_28) (by decide) (by decide) ?_
    show Steps p.tables e below (s₁.setTop (mkF m 7 #[.val (.ref a1), .val (.int (3 : Int32)), .val (.int (1 : Int32)), .val (.int (4 : Int32)), .val (.int (4 : Int32))] [])) _
    refine XS.iload X0.here hx rfl (hb hby d16_7) rfl ?_
    show Steps p.tables e below (s₁.setTop (mkF m 9 #[.val (.ref a1), .val (.int (3 : Int32)), .val (.int (1 : Int32)), .val (.int (4 : Int32)), .val (.int (4 : Int32))] [(.int (4 : Int32))])) _
    refine XS.iloadN X0.here hx rfl (hb hby d16_9) rfl ?_
    show Steps p.tables e below (s₁.setTop (mkF m 10 #[.val (.ref a1), .val (.int (3 : Int32)), .val (.int (1 : Int32)), .val (.int (4 : Int32)), .val (.int (4 : Int32))] [(.int (4 : Int32)), (.int (4 : Int32))])) _
    refine XS.icmpYes X0.here hx rfl (pc0 := 10) (pc' := 31) rfl (hb hby d16_10) rfl (XT.ii_ge_t (by decide)) (by decide) (by decide) ?_
    show Steps p.tables e below (s₁.setTop (mkF m 31 #[.val (.ref a1), .val (.int (3 : Int32)), .val (.int (1 : Int32)), .val (.int (4 : Int32)), .val (.int (4 : Int32))] [])) _
    refine XS.iloadN X0.here hx rfl (hb hby d16_31) rfl ?_
    exact kt
  obtain ⟨fs, hr, hrun, hended, hW, hsame⟩ := X0.leave (v := some (.int (1 : Int32))) (fun h => by rw [Bd.returns] at h; cases h)
  refine ⟨_, _, pre7 _ ?_, hrun, hended, _, _, rfl, ?_, ⟨_, rfl⟩, hW, hsame.mono (by decide) (by decide)⟩
  · show Steps p.tables e below (s₁.setTop (mkF m 32 #[.val (.ref a1), .val (.int (3 : Int32)), .val (.int (1 : Int32)), .val (.int (4 : Int32)), .val (.int (4 : Int32))] [(.int (1 : Int32))])) _
    exact owRetI X0 hx Bd.returns (hb hby d16_32) hr
  · show Q16 Z a1 fb h0 n0 _ s₁.heap _
    rw [e0]
    exact ⟨rfl, N0, rfl⟩
theorem pn_19 : plainName "java/util/Arrays" = true := by first | (simp [plainName, overriddenIn]; done) | decide +kernel
theorem ef_19 (m : MethodId) (x0 : Int32) (x1 : Int32) : entryFrame m #[(.int x0), (.int x1)] 2 = mkF m 0 #[.val (.int x0), .val (.int x1)] [] := by first | (simp [entryFrame, mkF, argsToLocals, Value.category]; done) | rfl
theorem d19_0 : decode jdk_65_method_131_code 0 = .ok (.iload_n 1, 1) := by decide +kernel
theorem d19_1 : decode jdk_65_method_131_code 1 = .ok (.iload_n 0, 1) := by decide +kernel
theorem d19_2 : decode jdk_65_method_131_code 2 = .ok (.if_icmp .ge 35, 3) := by decide +kernel
theorem d19_37 : decode jdk_65_method_131_code 37 = .ok (.return_, 1) := by decide +kernel
def Q19 (Z : State)  (h0 : Heap) (n0 : Nat) (v : Option Value) (h : Heap) (L : List Loc) : Prop := v = none ∧ Fr n0 L ∧ h = h0
set_option maxRecDepth 65536 in
set_option maxHeartbeats 40000000 in
theorem rm19 (l : Launch) (Z : State) (a0 : Array Value) (hw : ∀ d ∈ tables_1, d.before a0 Z = true) (ws : List Jvm.Cond)  (h0 : Heap) (n0 : Nat) (Z0 : n0 ≤ h0.size) :
    MetFree l (⟨"java/util/Arrays", "checkLength", "(II)V"⟩ : MethodName) (head1 (Jvm.Cond.code (⟨"java/util/Arrays", "checkLength", "(II)V"⟩ : MethodName) jdk_65_method_131_code 2 none :: ws) ({ frames := 0, cells := 0, slots := 0, locals := 0 } : Room)) (fun a U => a = #[(.int (3 : Int32)), (.int (4 : Int32))] ∧ Z.Warmed39 U.vm ∧ U.heap = h0) (fun _ _ _ _ _ => True) (fun _ U o U' => ∃ v L, o = .returned v ∧ Q19 Z  h0 n0 v U'.heap L ∧ FrameEnd U o U' L ({ frames := 0, cells := 0, slots := 0, locals := 0 } : Room).cells ({ frames := 0, cells := 0, slots := 0, locals := 0 } : Room).slots) := by
  refine MetFree.of_bodySF (plainFor_of_name pn_19) hisR ?_
  intro p e s m args below meth c s₁ Bd hml0 hP hK
  obtain ⟨rfl, hZ, hh⟩ := hP
  have hx := Bd.exec
  have hby := Bd.bytes
  have hml : c.maxLocals = 2 := hml0
  have hown : s.vm.findClass "java/util/Arrays" = some m.cls := findClass_of_methodNamed Bd.named
  have hnm := (name_of_methodNamed Bd.named Bd.method).1
  have X0 : Stand p l e ({ frames := 0, cells := 0, slots := 0, locals := 0 } : Room) s m #[(.int (3 : Int32)), (.int (4 : Int32))] below meth c s₁ [] 0 0 := Stand.of_body Bd
  have e0 : s₁.heap = h0 := by rw [← hh, Bd.state]; rfl
  have N0 := Fr.nil n0
  have pre0 : ∀ t, Steps p.tables e below (s₁.setTop (mkF m 0 #[.val (.int (3 : Int32)), .val (.int (4 : Int32))] [])) t → Steps p.tables e below (s₁.setTop (entryFrame m #[(.int (3 : Int32)), (.int (4 : Int32))] 2)) t := fun t k => castTop (ef_19 m (3 : Int32) (4 : Int32)) k
  have pre1 : ∀ t, Steps p.tables e below (s₁.setTop (mkF m 37 #[.val (.int (3 : Int32)), .val (.int (4 : Int32))] [])) t → Steps p.tables e below (s₁.setTop (entryFrame m #[(.int (3 : Int32)), (.int (4 : Int32))] 2)) t := by
    intro t kt
    refine pre0 _ ?_
    show Steps p.tables e below (s₁.setTop (mkF m 0 #[.val (.int (3 : Int32)), .val (.int (4 : Int32))] [])) _
    refine XS.iloadN X0.here hx rfl (hb hby d19_0) rfl ?_
    show Steps p.tables e below (s₁.setTop (mkF m 1 #[.val (.int (3 : Int32)), .val (.int (4 : Int32))] [(.int (4 : Int32))])) _
    refine XS.iloadN X0.here hx rfl (hb hby d19_1) rfl ?_
    show Steps p.tables e below (s₁.setTop (mkF m 2 #[.val (.int (3 : Int32)), .val (.int (4 : Int32))] [(.int (3 : Int32)), (.int (4 : Int32))])) _
    refine XS.icmpYes X0.here hx rfl (pc0 := 2) (pc' := 37) rfl (hb hby d19_2) rfl (XT.ii_ge_t (by decide)) (by decide) (by decide) ?_
    exact kt
  obtain ⟨fs, hr, hrun, hended, hW, hsame⟩ := X0.leave (v := none) (fun _ => rfl)
  refine ⟨_, _, pre1 _ ?_, hrun, hended, _, _, rfl, ?_, ⟨_, rfl⟩, hW, hsame.mono (by decide) (by decide)⟩
  · show Steps p.tables e below (s₁.setTop (mkF m 37 #[.val (.int (3 : Int32)), .val (.int (4 : Int32))] [])) _
    exact X0.returnOut hx Bd.returns (hb hby d19_37) hr
  · show Q19 Z  h0 n0 _ s₁.heap _
    rw [e0]
    exact ⟨rfl, N0, rfl⟩
theorem pn_18 : plainName "java/util/Arrays" = true := by first | (simp [plainName, overriddenIn]; done) | decide +kernel
theorem ef_18 (m : MethodId) (x0 : Addr) (x1 : Int32) (x2 : Int32) : entryFrame m #[(.ref x0), (.int x1), (.int x2)] 5 = mkF m 0 #[.val (.ref x0), .val (.int x1), .val (.int x2), .unset, .unset] [] := by first | (simp [entryFrame, mkF, argsToLocals, Value.category]; done) | rfl
theorem d18_0 : decode jdk_65_method_133_code 0 = .ok (.iload_n 1, 1) := by decide +kernel
theorem d18_1 : decode jdk_65_method_133_code 1 = .ok (.iload_n 2, 1) := by decide +kernel
theorem pd_3 : parseMethodDescriptor "(II)V" = some ⟨[.int, .int], none⟩ := by decide +kernel
theorem d18_2 : decode jdk_65_method_133_code 2 = .ok (.invokestatic 343, 3) := by decide +kernel
theorem d18_5 : decode jdk_65_method_133_code 5 = .ok (.iload_n 2, 1) := by decide +kernel
theorem d18_6 : decode jdk_65_method_133_code 6 = .ok (.iload_n 1, 1) := by decide +kernel
theorem d18_7 : decode jdk_65_method_133_code 7 = .ok (.isub, 1) := by decide +kernel
theorem d18_8 : decode jdk_65_method_133_code 8 = .ok (.istore_n 3, 1) := by decide +kernel
theorem d18_9 : decode jdk_65_method_133_code 9 = .ok (.iload_n 3, 1) := by decide +kernel
theorem d18_10 : decode jdk_65_method_133_code 10 = .ok (.newarray .byte, 2) := by decide +kernel
theorem d18_12 : decode jdk_65_method_133_code 12 = .ok (.astore 4, 2) := by decide +kernel
theorem d18_14 : decode jdk_65_method_133_code 14 = .ok (.aload_n 0, 1) := by decide +kernel
theorem d18_15 : decode jdk_65_method_133_code 15 = .ok (.iload_n 1, 1) := by decide +kernel
theorem d18_16 : decode jdk_65_method_133_code 16 = .ok (.aload 4, 2) := by decide +kernel
theorem d18_18 : decode jdk_65_method_133_code 18 = .ok (.iconst 0, 1) := by decide +kernel
theorem d18_19 : decode jdk_65_method_133_code 19 = .ok (.aload_n 0, 1) := by decide +kernel
theorem d18_20 : decode jdk_65_method_133_code 20 = .ok (.arraylength, 1) := by decide +kernel
theorem d18_21 : decode jdk_65_method_133_code 21 = .ok (.iload_n 1, 1) := by decide +kernel
theorem d18_22 : decode jdk_65_method_133_code 22 = .ok (.isub, 1) := by decide +kernel
theorem d18_23 : decode jdk_65_method_133_code 23 = .ok (.iload_n 3, 1) := by decide +kernel
theorem pd_4 : parseMethodDescriptor "(II)I" = some ⟨[.int, .int], some .int⟩ := by decide +kernel
theorem d18_24 : decode jdk_65_method_133_code 24 = .ok (.invokestatic 304, 3) := by decide +kernel
theorem d18_27 : decode jdk_65_method_133_code 27 = .ok (.invokestatic 150, 3) := by decide +kernel
theorem d18_30 : decode jdk_65_method_133_code 30 = .ok (.aload 4, 2) := by decide +kernel
theorem d18_32 : decode jdk_65_method_133_code 32 = .ok (.areturn, 1) := by decide +kernel
def Q18 (Z : State) (a1 : Addr) (fb : Nat → Int32) (h0 : Heap) (n0 : Nat) (v : Option Value) (h : Heap) (L : List Loc) : Prop := ∃ b : Addr, v = some (.ref b) ∧ Fr n0 L ∧ Keep h0 h [] ∧ h0.size ≤ b ∧ owAI Z h b .byte 1 (fun _ => (107 : Int32))
set_option maxRecDepth 65536 in
set_option maxHeartbeats 40000000 in
theorem rm18 (l : Launch) (Z : State) (a0 : Array Value) (hw : ∀ d ∈ tables_1, d.before a0 Z = true) (ws : List Jvm.Cond) (a1 : Addr) (fb : Nat → Int32) (h0 : Heap) (n0 : Nat) (Z0 : n0 ≤ h0.size) (A_a1 : owAI Z h0 a1 .byte 9 fb) (hob : OB fb) :
    MetFree l (⟨"java/util/Arrays", "copyOfRangeByte", "([BII)[B"⟩ : MethodName) (head1 (Jvm.Cond.code (⟨"java/util/Arrays", "copyOfRangeByte", "([BII)[B"⟩ : MethodName) jdk_65_method_133_code 5 (some (.array .byte)) :: ws) ({ frames := 1, cells := 1, slots := 1, locals := 18 } : Room)) (fun a U => a = #[(.ref a1), (.int (3 : Int32)), (.int (4 : Int32))] ∧ Z.Warmed39 U.vm ∧ U.heap = h0) (fun _ _ _ _ _ => True) (fun _ U o U' => ∃ v L, o = .returned v ∧ Q18 Z a1 fb h0 n0 v U'.heap L ∧ FrameEnd U o U' L ({ frames := 1, cells := 1, slots := 1, locals := 18 } : Room).cells ({ frames := 1, cells := 1, slots := 1, locals := 18 } : Room).slots) := by
  refine MetFree.of_bodySF (plainFor_of_name pn_18) hisR ?_
  intro p e s m args below meth c s₁ Bd hml0 hP hK
  obtain ⟨rfl, hZ, hh⟩ := hP
  have hx := Bd.exec
  have hby := Bd.bytes
  have hml : c.maxLocals = 5 := hml0
  have hown : s.vm.findClass "java/util/Arrays" = some m.cls := findClass_of_methodNamed Bd.named
  have hnm := (name_of_methodNamed Bd.named Bd.method).1
  have X0 : Stand p l e ({ frames := 1, cells := 1, slots := 1, locals := 18 } : Room) s m #[(.ref a1), (.int (3 : Int32)), (.int (4 : Int32))] below meth c s₁ [] 0 0 := Stand.of_body Bd
  have e0 : s₁.heap = h0 := by rw [← hh, Bd.state]; rfl
  have N0 := Fr.nil n0
  have pre0 : ∀ t, Steps p.tables e below (s₁.setTop (mkF m 0 #[.val (.ref a1), .val (.int (3 : Int32)), .val (.int (4 : Int32)), .unset, .unset] [])) t → Steps p.tables e below (s₁.setTop (entryFrame m #[(.ref a1), (.int (3 : Int32)), (.int (4 : Int32))] 5)) t := fun t k => castTop (ef_18 m a1 (3 : Int32) (4 : Int32)) k
  obtain ⟨_, _, ⟨T1, L1, k1, n1⟩, -, X1, ⟨Lc1, hQ1, l1, y1, z1⟩, st1⟩ := Jvm.LawKit.callS X0 hx (y := (⟨"java/util/Arrays", "checkLength", "(II)V"⟩ : MethodName)) hown (mvT hZ (hw _ (List.mem_of_getElem? (i := 97) rfl))) (mvT hZ (hw _ (List.mem_of_getElem? (i := 98) rfl))) (mvT hZ (hw _ (List.mem_of_getElem? (i := 92) rfl))) (mvT hZ (hw _ (List.mem_of_getElem? (i := 99) rfl))) (by decide) (backOf (W := 0) (rm19 l Z a0 hw [] h0 n0 Z0) hZ (hw _ (List.mem_of_getElem? (i := 99) rfl)) (hw _ (List.mem_of_getElem? (i := 92) rfl)) (by decide) (by decide)) (g := (mkF m 2 #[.val (.ref a1), .val (.int (3 : Int32)), .val (.int (4 : Int32)), .unset, .unset] [(.int (4 : Int32)), (.int (3 : Int32))])) rfl (by rw [hml]; rfl) (argsL := [(.int (3 : Int32)), (.int (4 : Int32))]) (rest := []) (lenOf pd_3 rfl) rfl (by show 2 * 0 + _ ≤ _; exact Nat.le_of_eq rfl) (hb hby d18_2) (fun _ _ => ⟨rfl, e0, (by decide : 0 + 0 ≤ _), (by decide : 0 + 0 ≤ _)⟩)
  dsimp only [Pt.U, Pt.locs, Pt.cells, Pt.slots] at X1 l1 y1 z1 st1 hQ1
  subst l1 y1 z1
  obtain ⟨rfl, N1q, hE1⟩ := hQ1
  have N1 := Fr.app N0 N1q
  have pre2 : ∀ t, Steps p.tables e below (T1.setTop (mkF m 8 #[.val (.ref a1), .val (.int (3 : Int32)), .val (.int (4 : Int32)), .unset, .unset] [(.int ((4 : Int32) - (3 : Int32)))])) t → Steps p.tables e below (s₁.setTop (entryFrame m #[(.ref a1), (.int (3 : Int32)), (.int (4 : Int32))] 5)) t := by
    intro t kt
    refine pre0 _ ?_
    show Steps p.tables e below (s₁.setTop (mkF m 0 #[.val (.ref a1), .val (.int (3 : Int32)), .val (.int (4 : Int32)), .unset, .unset] [])) _
    refine XS.iloadN X0.here hx rfl (hb hby d18_0) rfl ?_
    show Steps p.tables e below (s₁.setTop (mkF m 1 #[.val (.ref a1), .val (.int (3 : Int32)), .val (.int (4 : Int32)), .unset, .unset] [(.int (3 : Int32))])) _
    refine XS.iloadN X0.here hx rfl (hb hby d18_1) rfl ?_
    show Steps p.tables e below (s₁.setTop (mkF m 2 #[.val (.ref a1), .val (.int (3 : Int32)), .val (.int (4 : Int32)), .unset, .unset] [(.int (4 : Int32)), (.int (3 : Int32))])) _
    refine st1 _ ?_
    show Steps p.tables e below (T1.setTop (mkF m 5 #[.val (.ref a1), .val (.int (3 : Int32)), .val (.int (4 : Int32)), .unset, .unset] [])) _
    refine XS.iloadN X1.here hx rfl (hb hby d18_5) rfl ?_
    show Steps p.tables e below (T1.setTop (mkF m 6 #[.val (.ref a1), .val (.int (3 : Int32)), .val (.int (4 : Int32)), .unset, .unset] [(.int (4 : Int32))])) _
    refine XS.iloadN X1.here hx rfl (hb hby d18_6) rfl ?_
    show Steps p.tables e below (T1.setTop (mkF m 7 #[.val (.ref a1), .val (.int (3 : Int32)), .val (.int (4 : Int32)), .unset, .unset] [(.int (3 : Int32)), (.int (4 : Int32))])) _
    refine XS.isub X1.here hx rfl (hb hby d18_7) rfl ?_
    exact kt
  have ql3 : ((4 : Int32) - (3 : Int32)) = (1 : Int32) := (by decide)
  have pre4 : ∀ t, Steps p.tables e below (T1.setTop (mkF m 8 #[.val (.ref a1), .val (.int (3 : Int32)), .val (.int (4 : Int32)), .unset, .unset] [(.int (1 : Int32))])) t → Steps p.tables e below (s₁.setTop (entryFrame m #[(.ref a1), (.int (3 : Int32)), (.int (4 : Int32))] 5)) t := by
    intro t kt
    refine pre2 _ ?_
    rw [ql3]
    exact kt
  obtain ⟨T5, gh5, k5, X5, hE5, E5, A5, st5⟩ := newP X1 hx hZ (hw _ (List.mem_of_getElem? (i := 0) rfl)) hE1 (g := (mkF m 10 #[.val (.ref a1), .val (.int (3 : Int32)), .val (.int (4 : Int32)), .val (.int (1 : Int32)), .unset] [(.int (1 : Int32))])) rfl (hb hby d18_10) rfl (by decide) (cap := 1) (by decide) (by decide) (by decide) (by decide)
  obtain ⟨bb, g5⟩ : ∃ z, z = h0.size := ⟨_, rfl⟩
  rw [← g5] at A5 st5
  have ne_a1_bb : a1 ≠ bb := Nat.ne_of_lt (Nat.lt_of_lt_of_le A_a1.lt (Nat.le_of_eq g5.symm))
  have g_bb : n0 ≤ bb := Nat.le_trans Z0 (Nat.le_of_eq g5.symm)
  have sz_bb : h0.size ≤ bb := Nat.le_trans (Keep.refl h0 []).1 (Nat.le_of_eq g5.symm)
  have f6 := A_a1.ext E5
  have Z7 := Nat.le_trans Z0 E5.1
  have K8 := (Keep.refl h0 []).ext E5
  have V5 : owAI Z gh5 bb .byte 1 (fun _ => 0) := owAI.new A5 rfl rfl
  have pre9 : ∀ t, Steps p.tables e below (T5.setTop (mkF m 23 #[.val (.ref a1), .val (.int (3 : Int32)), .val (.int (4 : Int32)), .val (.int (1 : Int32)), .val (.ref bb)] [(.int ((9 : Int32) - (3 : Int32))), (.int (0 : Int32)), (.ref bb), (.int (3 : Int32)), (.ref a1)])) t → Steps p.tables e below (s₁.setTop (entryFrame m #[(.ref a1), (.int (3 : Int32)), (.int (4 : Int32))] 5)) t := by
    intro t kt
    refine pre4 _ ?_
    show Steps p.tables e below (T1.setTop (mkF m 8 #[.val (.ref a1), .val (.int (3 : Int32)), .val (.int (4 : Int32)), .unset, .unset] [(.int (1 : Int32))])) _
    refine XS.istoreN X1.here hx rfl (hb hby d18_8) rfl (l' := #[.val (.ref a1), .val (.int (3 : Int32)), .val (.int (4 : Int32)), .val (.int (1 : Int32)), .unset]) rfl ?_
    show Steps p.tables e below (T1.setTop (mkF m 9 #[.val (.ref a1), .val (.int (3 : Int32)), .val (.int (4 : Int32)), .val (.int (1 : Int32)), .unset] [])) _
    refine XS.iloadN X1.here hx rfl (hb hby d18_9) rfl ?_
    show Steps p.tables e below (T1.setTop (mkF m 10 #[.val (.ref a1), .val (.int (3 : Int32)), .val (.int (4 : Int32)), .val (.int (1 : Int32)), .unset] [(.int (1 : Int32))])) _
    refine st5 _ ?_
    show Steps p.tables e below (T5.setTop (mkF m 12 #[.val (.ref a1), .val (.int (3 : Int32)), .val (.int (4 : Int32)), .val (.int (1 : Int32)), .unset] [(.ref bb)])) _
    refine XS.astore X5.here hx rfl (hb hby d18_12) rfl rfl (l' := #[.val (.ref a1), .val (.int (3 : Int32)), .val (.int (4 : Int32)), .val (.int (1 : Int32)), .val (.ref bb)]) rfl ?_
    show Steps p.tables e below (T5.setTop (mkF m 14 #[.val (.ref a1), .val (.int (3 : Int32)), .val (.int (4 : Int32)), .val (.int (1 : Int32)), .val (.ref bb)] [])) _
    refine XS.aloadN X5.here hx rfl (hb hby d18_14) rfl rfl ?_
    show Steps p.tables e below (T5.setTop (mkF m 15 #[.val (.ref a1), .val (.int (3 : Int32)), .val (.int (4 : Int32)), .val (.int (1 : Int32)), .val (.ref bb)] [(.ref a1)])) _
    refine XS.iloadN X5.here hx rfl (hb hby d18_15) rfl ?_
    show Steps p.tables e below (T5.setTop (mkF m 16 #[.val (.ref a1), .val (.int (3 : Int32)), .val (.int (4 : Int32)), .val (.int (1 : Int32)), .val (.ref bb)] [(.int (3 : Int32)), (.ref a1)])) _
    refine XS.aload X5.here hx rfl (hb hby d18_16) rfl rfl ?_
    show Steps p.tables e below (T5.setTop (mkF m 18 #[.val (.ref a1), .val (.int (3 : Int32)), .val (.int (4 : Int32)), .val (.int (1 : Int32)), .val (.ref bb)] [(.ref bb), (.int (3 : Int32)), (.ref a1)])) _
    refine XS.iconst X5.here hx rfl (hb hby d18_18) ?_
    show Steps p.tables e below (T5.setTop (mkF m 19 #[.val (.ref a1), .val (.int (3 : Int32)), .val (.int (4 : Int32)), .val (.int (1 : Int32)), .val (.ref bb)] [(.int (0 : Int32)), (.ref bb), (.int (3 : Int32)), (.ref a1)])) _
    refine XS.aloadN X5.here hx rfl (hb hby d18_19) rfl rfl ?_
    show Steps p.tables e below (T5.setTop (mkF m 20 #[.val (.ref a1), .val (.int (3 : Int32)), .val (.int (4 : Int32)), .val (.int (1 : Int32)), .val (.ref bb)] [(.ref a1), (.int (0 : Int32)), (.ref bb), (.int (3 : Int32)), (.ref a1)])) _
    refine owLenI X5 hx hZ hE5 f6 (z := (9 : Int32)) rfl (g := (mkF m 20 #[.val (.ref a1), .val (.int (3 : Int32)), .val (.int (4 : Int32)), .val (.int (1 : Int32)), .val (.ref bb)] [(.ref a1), (.int (0 : Int32)), (.ref bb), (.int (3 : Int32)), (.ref a1)])) rfl rfl (hb hby d18_20) _ ?_
    show Steps p.tables e below (T5.setTop (mkF m 21 #[.val (.ref a1), .val (.int (3 : Int32)), .val (.int (4 : Int32)), .val (.int (1 : Int32)), .val (.ref bb)] [(.int (9 : Int32)), (.int (0 : Int32)), (.ref bb), (.int (3 : Int32)), (.ref a1)])) _
    refine XS.iloadN X5.here hx rfl (hb hby d18_21) rfl ?_
    show Steps p.tables e below (T5.setTop (mkF m 22 #[.val (.ref a1), .val (.int (3 : Int32)), .val (.int (4 : Int32)), .val (.int (1 : Int32)), .val (.ref bb)] [(.int (3 : Int32)), (.int (9 : Int32)), (.int (0 : Int32)), (.ref bb), (.int (3 : Int32)), (.ref a1)])) _
    refine XS.isub X5.here hx rfl (hb hby d18_22) rfl ?_
    exact kt
  have ql10 : ((9 : Int32) - (3 : Int32)) = (6 : Int32) := (by decide)
  have pre11 : ∀ t, Steps p.tables e below (T5.setTop (mkF m 23 #[.val (.ref a1), .val (.int (3 : Int32)), .val (.int (4 : Int32)), .val (.int (1 : Int32)), .val (.ref bb)] [(.int (6 : Int32)), (.int (0 : Int32)), (.ref bb), (.int (3 : Int32)), (.ref a1)])) t → Steps p.tables e below (s₁.setTop (entryFrame m #[(.ref a1), (.int (3 : Int32)), (.int (4 : Int32))] 5)) t := by
    intro t kt
    refine pre9 _ ?_
    rw [ql10]
    exact kt
  obtain ⟨_, _, ⟨T12, L12, k12, n12⟩, -, X12, ⟨Lc12, hQ12, l12, y12, z12⟩, st12⟩ := Jvm.LawKit.callS X5 hx (y := (⟨"java/lang/Math", "min", "(II)I"⟩ : MethodName)) hown (mvT hZ (hw _ (List.mem_of_getElem? (i := 100) rfl))) (mvT hZ (hw _ (List.mem_of_getElem? (i := 101) rfl))) (mvT hZ (hw _ (List.mem_of_getElem? (i := 102) rfl))) (mvT hZ (hw _ (List.mem_of_getElem? (i := 103) rfl))) (by decide) (backOf (W := 4) (rm20 l Z a0 hw [] (6 : Int32) (1 : Int32) gh5 n0 Z7) hZ (hw _ (List.mem_of_getElem? (i := 103) rfl)) (hw _ (List.mem_of_getElem? (i := 102) rfl)) (by decide) (by decide)) (g := (mkF m 24 #[.val (.ref a1), .val (.int (3 : Int32)), .val (.int (4 : Int32)), .val (.int (1 : Int32)), .val (.ref bb)] [(.int (1 : Int32)), (.int (6 : Int32)), (.int (0 : Int32)), (.ref bb), (.int (3 : Int32)), (.ref a1)])) rfl (by rw [hml]; rfl) (argsL := [(.int (6 : Int32)), (.int (1 : Int32))]) (rest := [(.int (0 : Int32)), (.ref bb), (.int (3 : Int32)), (.ref a1)]) (lenOf pd_4 rfl) rfl (by show 2 * 0 + _ ≤ _; exact Nat.le_of_eq rfl) (hb hby d18_24) (fun _ _ => ⟨rfl, hE5, (by decide : 1 + 0 ≤ _), (by decide : 1 + 0 ≤ _)⟩)
  dsimp only [Pt.U, Pt.locs, Pt.cells, Pt.slots] at X12 l12 y12 z12 st12 hQ12
  subst l12 y12 z12
  obtain ⟨rfl, N12q, hE12⟩ := hQ12
  have N12 := Fr.app N1 N12q
  have pre13 : ∀ t, Steps p.tables e below (T12.setTop (mkF m 27 #[.val (.ref a1), .val (.int (3 : Int32)), .val (.int (4 : Int32)), .val (.int (1 : Int32)), .val (.ref bb)] [(.int (fn20 (6 : Int32) (1 : Int32))), (.int (0 : Int32)), (.ref bb), (.int (3 : Int32)), (.ref a1)])) t → Steps p.tables e below (s₁.setTop (entryFrame m #[(.ref a1), (.int (3 : Int32)), (.int (4 : Int32))] 5)) t := by
    intro t kt
    refine pre11 _ ?_
    show Steps p.tables e below (T5.setTop (mkF m 23 #[.val (.ref a1), .val (.int (3 : Int32)), .val (.int (4 : Int32)), .val (.int (1 : Int32)), .val (.ref bb)] [(.int (6 : Int32)), (.int (0 : Int32)), (.ref bb), (.int (3 : Int32)), (.ref a1)])) _
    refine XS.iloadN X5.here hx rfl (hb hby d18_23) rfl ?_
    show Steps p.tables e below (T5.setTop (mkF m 24 #[.val (.ref a1), .val (.int (3 : Int32)), .val (.int (4 : Int32)), .val (.int (1 : Int32)), .val (.ref bb)] [(.int (1 : Int32)), (.int (6 : Int32)), (.int (0 : Int32)), (.ref bb), (.int (3 : Int32)), (.ref a1)])) _
    refine st12 _ ?_
    exact kt
  have ql14 : (fn20 (6 : Int32) (1 : Int32)) = (1 : Int32) := rfl
  have pre15 : ∀ t, Steps p.tables e below (T12.setTop (mkF m 27 #[.val (.ref a1), .val (.int (3 : Int32)), .val (.int (4 : Int32)), .val (.int (1 : Int32)), .val (.ref bb)] [(.int (1 : Int32)), (.int (0 : Int32)), (.ref bb), (.int (3 : Int32)), (.ref a1)])) t → Steps p.tables e below (s₁.setTop (entryFrame m #[(.ref a1), (.int (3 : Int32)), (.int (4 : Int32))] 5)) t := by
    intro t kt
    refine pre13 _ ?_
    rw [ql14]
    exact kt
  obtain ⟨T16, gh16, L16, X16, hE16, N16, K16, V16, st16⟩ := owCp X12 hx hZ hown (hw _ (List.mem_of_getElem? (i := 104) rfl)) (hw _ (List.mem_of_getElem? (i := 107) rfl)) (hw _ (List.mem_of_getElem? (i := 105) rfl)) (hw _ (List.mem_of_getElem? (i := 106) rfl)) hE12 rfl f6 V5 (own_fitb hob.2.2.2.2.2) (own_fitb fun i => by decide) (sp := (3 : Int32)) (dp := (0 : Int32)) (nn := (1 : Int32)) (ks := 3) (kd := 0) (kn := 1) rfl rfl rfl (by decide) (by decide) (by decide) (by decide) N12 g_bb (g := (mkF m 27 #[.val (.ref a1), .val (.int (3 : Int32)), .val (.int (4 : Int32)), .val (.int (1 : Int32)), .val (.ref bb)] [(.int (1 : Int32)), (.int (0 : Int32)), (.ref bb), (.int (3 : Int32)), (.ref a1)])) rfl (by rw [hml]; rfl) rfl (hb hby d18_27) (by decide) (W := 0) (by show 2 * 0 + _ ≤ _; exact Nat.le_of_eq rfl) (by decide)
  have f17 := f6.keep K16 (ninS ne_a1_bb nin0)
  have VV16 := V16.to (g := (fun _ => (107 : Int32))) (fun i hi => by have q : i = 0 := (by omega); subst q; simpa using hob.2.2.1)
  have Z19 := Nat.le_trans Z7 K16.1
  have K20 := K8.trans K16 (allS (Or.inr sz_bb) all0)
  have pre21 : ∀ t, Steps p.tables e below (T16.setTop (mkF m 32 #[.val (.ref a1), .val (.int (3 : Int32)), .val (.int (4 : Int32)), .val (.int (1 : Int32)), .val (.ref bb)] [(.ref bb)])) t → Steps p.tables e below (s₁.setTop (entryFrame m #[(.ref a1), (.int (3 : Int32)), (.int (4 : Int32))] 5)) t := by
    intro t kt
    refine pre15 _ ?_
    show Steps p.tables e below (T12.setTop (mkF m 27 #[.val (.ref a1), .val (.int (3 : Int32)), .val (.int (4 : Int32)), .val (.int (1 : Int32)), .val (.ref bb)] [(.int (1 : Int32)), (.int (0 : Int32)), (.ref bb), (.int (3 : Int32)), (.ref a1)])) _
    refine st16 _ ?_
    show Steps p.tables e below (T16.setTop (mkF m 30 #[.val (.ref a1), .val (.int (3 : Int32)), .val (.int (4 : Int32)), .val (.int (1 : Int32)), .val (.ref bb)] [])) _
    refine XS.aload X16.here hx rfl (hb hby d18_30) rfl rfl ?_
    exact kt
  obtain ⟨fs, hr, hrun, hended, hW, hsame⟩ := X16.leave (v := some (.ref bb)) (fun h => by rw [Bd.returns] at h; cases h)
  refine ⟨_, _, pre21 _ ?_, hrun, hended, _, _, rfl, ?_, ⟨_, rfl⟩, hW, hsame.mono (by decide) (by decide)⟩
  · show Steps p.tables e below (T16.setTop (mkF m 32 #[.val (.ref a1), .val (.int (3 : Int32)), .val (.int (4 : Int32)), .val (.int (1 : Int32)), .val (.ref bb)] [(.ref bb)])) _
    exact X16.areturnOut hx rfl Bd.returns rfl (hb hby d18_32) hr
  · show Q18 Z a1 fb h0 n0 _ T16.heap _
    rw [hE16]
    exact ⟨bb, rfl, N16, K20, sz_bb, VV16⟩
theorem pn_17 : plainName "java/util/Arrays" = true := by first | (simp [plainName, overriddenIn]; done) | decide +kernel
theorem ef_17 (m : MethodId) (x0 : Addr) (x1 : Int32) (x2 : Int32) : entryFrame m #[(.ref x0), (.int x1), (.int x2)] 3 = mkF m 0 #[.val (.ref x0), .val (.int x1), .val (.int x2)] [] := by first | (simp [entryFrame, mkF, argsToLocals, Value.category]; done) | rfl
theorem d17_0 : decode jdk_65_method_132_code 0 = .ok (.iload_n 1, 1) := by decide +kernel
theorem d17_1 : decode jdk_65_method_132_code 1 = .ok (.ifCond .ne 9, 3) := by decide +kernel
theorem d17_10 : decode jdk_65_method_132_code 10 = .ok (.aload_n 0, 1) := by decide +kernel
theorem d17_11 : decode jdk_65_method_132_code 11 = .ok (.iload_n 1, 1) := by decide +kernel
theorem d17_12 : decode jdk_65_method_132_code 12 = .ok (.iload_n 2, 1) := by decide +kernel
theorem pd_5 : parseMethodDescriptor "([BII)[B" = some ⟨[(.array .byte), .int, .int], some (.array .byte)⟩ := by decide +kernel
theorem d17_13 : decode jdk_65_method_132_code 13 = .ok (.invokestatic 339, 3) := by decide +kernel
theorem d17_16 : decode jdk_65_method_132_code 16 = .ok (.areturn, 1) := by decide +kernel
def Q17 (Z : State) (a1 : Addr) (fb : Nat → Int32) (h0 : Heap) (n0 : Nat) (v : Option Value) (h : Heap) (L : List Loc) : Prop := ∃ b : Addr, v = some (.ref b) ∧ Fr n0 L ∧ Keep h0 h [] ∧ h0.size ≤ b ∧ owAI Z h b .byte 1 (fun _ => (107 : Int32))
set_option maxRecDepth 65536 in
set_option maxHeartbeats 40000000 in
theorem rm17 (l : Launch) (Z : State) (a0 : Array Value) (hw : ∀ d ∈ tables_1, d.before a0 Z = true) (ws : List Jvm.Cond) (a1 : Addr) (fb : Nat → Int32) (h0 : Heap) (n0 : Nat) (Z0 : n0 ≤ h0.size) (A_a1 : owAI Z h0 a1 .byte 9 fb) (hob : OB fb) :
    MetFree l (⟨"java/util/Arrays", "copyOfRange", "([BII)[B"⟩ : MethodName) (head1 (Jvm.Cond.code (⟨"java/util/Arrays", "copyOfRange", "([BII)[B"⟩ : MethodName) jdk_65_method_132_code 3 (some (.array .byte)) :: ws) ({ frames := 2, cells := 1, slots := 1, locals := 34 } : Room)) (fun a U => a = #[(.ref a1), (.int (3 : Int32)), (.int (4 : Int32))] ∧ Z.Warmed39 U.vm ∧ U.heap = h0) (fun _ _ _ _ _ => True) (fun _ U o U' => ∃ v L, o = .returned v ∧ Q17 Z a1 fb h0 n0 v U'.heap L ∧ FrameEnd U o U' L ({ frames := 2, cells := 1, slots := 1, locals := 34 } : Room).cells ({ frames := 2, cells := 1, slots := 1, locals := 34 } : Room).slots) := by
  refine MetFree.of_bodySF (plainFor_of_name pn_17) hisR ?_
  intro p e s m args below meth c s₁ Bd hml0 hP hK
  obtain ⟨rfl, hZ, hh⟩ := hP
  have hx := Bd.exec
  have hby := Bd.bytes
  have hml : c.maxLocals = 3 := hml0
  have hown : s.vm.findClass "java/util/Arrays" = some m.cls := findClass_of_methodNamed Bd.named
  have hnm := (name_of_methodNamed Bd.named Bd.method).1
  have X0 : Stand p l e ({ frames := 2, cells := 1, slots := 1, locals := 34 } : Room) s m #[(.ref a1), (.int (3 : Int32)), (.int (4 : Int32))] below meth c s₁ [] 0 0 := Stand.of_body Bd
  have e0 : s₁.heap = h0 := by rw [← hh, Bd.state]; rfl
  have N0 := Fr.nil n0
  have pre0 : ∀ t, Steps p.tables e below (s₁.setTop (mkF m 0 #[.val (.ref a1), .val (.int (3 : Int32)), .val (.int (4 : Int32))] [])) t → Steps p.tables e below (s₁.setTop (entryFrame m #[(.ref a1), (.int (3 : Int32)), (.int (4 : Int32))] 3)) t := fun t k => castTop (ef_17 m a1 (3 : Int32) (4 : Int32)) k
  obtain ⟨_, _, ⟨T1, L1, k1, n1⟩, -, X1, ⟨Lc1, hQ1, l1, y1, z1⟩, st1⟩ := Jvm.LawKit.callS X0 hx (y := (⟨"java/util/Arrays", "copyOfRangeByte", "([BII)[B"⟩ : MethodName)) hown (mvT hZ (hw _ (List.mem_of_getElem? (i := 94) rfl))) (mvT hZ (hw _ (List.mem_of_getElem? (i := 95) rfl))) (mvT hZ (hw _ (List.mem_of_getElem? (i := 92) rfl))) (mvT hZ (hw _ (List.mem_of_getElem? (i := 96) rfl))) (by decide) (backOf (W := 0) (rm18 l Z a0 hw [] a1 fb h0 n0 Z0 A_a1 hob) hZ (hw _ (List.mem_of_getElem? (i := 96) rfl)) (hw _ (List.mem_of_getElem? (i := 92) rfl)) (by decide) (by decide)) (g := (mkF m 13 #[.val (.ref a1), .val (.int (3 : Int32)), .val (.int (4 : Int32))] [(.int (4 : Int32)), (.int (3 : Int32)), (.ref a1)])) rfl (by rw [hml]; rfl) (argsL := [(.ref a1), (.int (3 : Int32)), (.int (4 : Int32))]) (rest := []) (lenOf pd_5 rfl) rfl (by show 2 * 0 + _ ≤ _; exact Nat.le_of_eq rfl) (hb hby d17_13) (fun _ _ => ⟨rfl, e0, (by decide : 0 + 1 ≤ _), (by decide : 0 + 1 ≤ _)⟩)
  dsimp only [Pt.U, Pt.locs, Pt.cells, Pt.slots] at X1 l1 y1 z1 st1 hQ1
  subst l1 y1 z1
  obtain ⟨bb, rfl, N1q, K1, h_bb, p1_A⟩ := hQ1
  have N1 := Fr.app N0 N1q
  have ne_a1_bb : a1 ≠ bb := Nat.ne_of_lt (Nat.lt_of_lt_of_le A_a1.lt h_bb)
  have g_bb : n0 ≤ bb := Nat.le_trans Z0 h_bb
  have sz_bb : h0.size ≤ bb := Nat.le_trans (Keep.refl h0 []).1 h_bb
  have f2 := A_a1.keep K1 nin0
  have Z3 := Nat.le_trans Z0 K1.1
  have K4 := (Keep.refl h0 []).trans K1 all0
  have pre5 : ∀ t, Steps p.tables e below (T1.setTop (mkF m 16 #[.val (.ref a1), .val (.int (3 : Int32)), .val (.int (4 : Int32))] [(.ref bb)])) t → Steps p.tables e below (s₁.setTop (entryFrame m #[(.ref a1), (.int (3 : Int32)), (.int (4 : Int32))] 3)) t := by
    intro t kt
    refine pre0 _ ?_
    show Steps p.tables e below (s₁.setTop (mkF m 0 #[.val (.ref a1), .val (.int (3 : Int32)), .val (.int (4 : Int32))] [])) _
    refine XS.iloadN X0.here hx rfl (hb hby d17_0) rfl ?_
    show Steps p.tables e below (s₁.setTop (mkF m 1 #[.val (.ref a1), .val (.int (3 : Int32)), .val (.int (4 : Int32))] [(.int (3 : Int32))])) _
    refine XS.ifYes X0.here hx rfl (pc0 := 1) (pc' := 10) rfl (hb hby d17_1) rfl (XT.i0_ne_t (by decide)) (by decide) (by decide) ?_
    show Steps p.tables e below (s₁.setTop (mkF m 10 #[.val (.ref a1), .val (.int (3 : Int32)), .val (.int (4 : Int32))] [])) _
    refine XS.aloadN X0.here hx rfl (hb hby d17_10) rfl rfl ?_
    show Steps p.tables e below (s₁.setTop (mkF m 11 #[.val (.ref a1), .val (.int (3 : Int32)), .val (.int (4 : Int32))] [(.ref a1)])) _
    refine XS.iloadN X0.here hx rfl (hb hby d17_11) rfl ?_
    show Steps p.tables e below (s₁.setTop (mkF m 12 #[.val (.ref a1), .val (.int (3 : Int32)), .val (.int (4 : Int32))] [(.int (3 : Int32)), (.ref a1)])) _
    refine XS.iloadN X0.here hx rfl (hb hby d17_12) rfl ?_
    show Steps p.tables e below (s₁.setTop (mkF m 13 #[.val (.ref a1), .val (.int (3 : Int32)), .val (.int (4 : Int32))] [(.int (4 : Int32)), (.int (3 : Int32)), (.ref a1)])) _
    refine st1 _ ?_
    exact kt
  obtain ⟨fs, hr, hrun, hended, hW, hsame⟩ := X1.leave (v := some (.ref bb)) (fun h => by rw [Bd.returns] at h; cases h)
  refine ⟨_, _, pre5 _ ?_, hrun, hended, _, _, rfl, ?_, ⟨_, rfl⟩, hW, hsame.mono (by decide) (by decide)⟩
  · show Steps p.tables e below (T1.setTop (mkF m 16 #[.val (.ref a1), .val (.int (3 : Int32)), .val (.int (4 : Int32))] [(.ref bb)])) _
    exact X1.areturnOut hx rfl Bd.returns rfl (hb hby d17_16) hr
  · show Q17 Z a1 fb h0 n0 _ T1.heap _
    exact ⟨bb, rfl, N1, K4, sz_bb, p1_A⟩
theorem pn_15 : plainName "java/lang/String" = true := by first | (simp [plainName, overriddenIn]; done) | decide +kernel
theorem ef_15 (m : MethodId) (x0 : Addr) (x1 : Addr) (x2 : Addr) (x3 : Int32) (x4 : Int32) : entryFrame m #[(.ref x0), (.ref x1), (.ref x2), (.int x3), (.int x4)] 11 = mkF m 0 #[.val (.ref x0), .val (.ref x1), .val (.ref x2), .val (.int x3), .val (.int x4), .unset, .unset, .unset, .unset, .unset, .unset] [] := by first | (simp [entryFrame, mkF, argsToLocals, Value.category]; done) | rfl
theorem d15_0 : decode jdk_42_method_11_code 0 = .ok (.aload_n 0, 1) := by decide +kernel
theorem d15_1 : decode jdk_42_method_11_code 1 = .ok (.invokespecial 1, 3) := by decide +kernel
theorem d15_4 : decode jdk_42_method_11_code 4 = .ok (.iload 4, 2) := by decide +kernel
theorem d15_6 : decode jdk_42_method_11_code 6 = .ok (.ifCond .ne 24, 3) := by decide +kernel
theorem d15_30 : decode jdk_42_method_11_code 30 = .ok (.aload_n 1, 1) := by decide +kernel
theorem d15_31 : decode jdk_42_method_11_code 31 = .ok (.getstatic 86, 3) := by decide +kernel
theorem d15_34 : decode jdk_42_method_11_code 34 = .ok (.if_acmp .ne 312, 3) := by decide +kernel
theorem d15_37 : decode jdk_42_method_11_code 37 = .ok (.getstatic 38, 3) := by decide +kernel
theorem d15_40 : decode jdk_42_method_11_code 40 = .ok (.ifCond .eq 252, 3) := by decide +kernel
theorem d15_43 : decode jdk_42_method_11_code 43 = .ok (.aload_n 2, 1) := by decide +kernel
theorem d15_44 : decode jdk_42_method_11_code 44 = .ok (.iload_n 3, 1) := by decide +kernel
theorem d15_45 : decode jdk_42_method_11_code 45 = .ok (.iload 4, 2) := by decide +kernel
theorem pd_6 : parseMethodDescriptor "([BII)I" = some ⟨[(.array .byte), .int, .int], some .int⟩ := by decide +kernel
theorem d15_47 : decode jdk_42_method_11_code 47 = .ok (.invokestatic 92, 3) := by decide +kernel
theorem d15_50 : decode jdk_42_method_11_code 50 = .ok (.istore 5, 2) := by decide +kernel
theorem d15_52 : decode jdk_42_method_11_code 52 = .ok (.iload 5, 2) := by decide +kernel
theorem d15_54 : decode jdk_42_method_11_code 54 = .ok (.iload 4, 2) := by decide +kernel
theorem d15_56 : decode jdk_42_method_11_code 56 = .ok (.if_icmp .ne 22, 3) := by decide +kernel
theorem d15_59 : decode jdk_42_method_11_code 59 = .ok (.aload_n 0, 1) := by decide +kernel
theorem d15_60 : decode jdk_42_method_11_code 60 = .ok (.aload_n 2, 1) := by decide +kernel
theorem d15_61 : decode jdk_42_method_11_code 61 = .ok (.iload_n 3, 1) := by decide +kernel
theorem d15_62 : decode jdk_42_method_11_code 62 = .ok (.iload_n 3, 1) := by decide +kernel
theorem d15_63 : decode jdk_42_method_11_code 63 = .ok (.iload 4, 2) := by decide +kernel
theorem d15_65 : decode jdk_42_method_11_code 65 = .ok (.iadd, 1) := by decide +kernel
theorem d15_66 : decode jdk_42_method_11_code 66 = .ok (.invokestatic 54, 3) := by decide +kernel
theorem d15_69 : decode jdk_42_method_11_code 69 = .ok (.putfield 9, 3) := by decide +kernel
theorem d15_72 : decode jdk_42_method_11_code 72 = .ok (.aload_n 0, 1) := by decide +kernel
theorem d15_73 : decode jdk_42_method_11_code 73 = .ok (.iconst 0, 1) := by decide +kernel
theorem d15_74 : decode jdk_42_method_11_code 74 = .ok (.putfield 15, 3) := by decide +kernel
theorem d15_77 : decode jdk_42_method_11_code 77 = .ok (.return_, 1) := by decide +kernel
def Q15 (Z : State) (a1 : Addr) (a3 : Addr) (fb : Nat → Int32) (u8 : Addr) (cs : Int32) (fmv : Value) (h0 : Heap) (n0 : Nat) (v : Option Value) (h : Heap) (L : List Loc) : Prop := ∃ b : Addr, v = none ∧ Fr n0 L ∧ Keep h0 h [a1] ∧ h0.size ≤ b ∧ Exa Z h a1 "java/lang/String" ∧ Fld Z h a1 "java/lang/String" "value" "[B" (.ref b) ∧ Fld Z h a1 "java/lang/String" "coder" "B" (.int (0 : Int32)) ∧ owAI Z h b .byte 1 (fun _ => (107 : Int32))
set_option maxRecDepth 65536 in
set_option maxHeartbeats 40000000 in
theorem rm15 (l : Launch) (Z : State) (a0 : Array Value) (hw : ∀ d ∈ tables_1, d.before a0 Z = true) (ws : List Jvm.Cond) (a1 : Addr) (a3 : Addr) (fb : Nat → Int32) (u8 : Addr) (cs : Int32) (fmv : Value) (h0 : Heap) (n0 : Nat) (Z0 : n0 ≤ h0.size) (E_a1 : Exa Z h0 a1 "java/lang/String") (F_value : Fld Z h0 a1 "java/lang/String" "value" "[B" .null) (F_coder : Fld Z h0 a1 "java/lang/String" "coder" "B" (.int (0 : Int32))) (A_ab : owAI Z h0 a3 .byte 9 fb) (g_a1 : n0 ≤ a1) (n1b : a1 ≠ a3) (hob : OB fb) (O_x : Old Z n0 h0) (hst : OST Z u8 cs fmv) :
    MetFree l (⟨"java/lang/String", "<init>", "(Ljava/nio/charset/Charset;[BII)V"⟩ : MethodName) (head1 (Jvm.Cond.codeWith (⟨"java/lang/String", "<init>", "(Ljava/nio/charset/Charset;[BII)V"⟩ : MethodName) jdk_42_method_11_code 11 none [((800 : Nat), (813 : Nat), (816 : Nat), (202 : Nat))] :: ws) ({ frames := 3, cells := 1, slots := 1, locals := 49 } : Room)) (fun a U => a = #[(.ref a1), (.ref u8), (.ref a3), (.int (3 : Int32)), (.int (1 : Int32))] ∧ Z.Warmed39 U.vm ∧ U.heap = h0) (fun _ _ _ _ _ => True) (fun _ U o U' => ∃ v L, o = .returned v ∧ Q15 Z a1 a3 fb u8 cs fmv h0 n0 v U'.heap L ∧ FrameEnd U o U' L ({ frames := 3, cells := 1, slots := 1, locals := 49 } : Room).cells ({ frames := 3, cells := 1, slots := 1, locals := 49 } : Room).slots) := by
  refine MetFree.of_bodySF (plainFor_of_name pn_15) hisWith ?_
  intro p e s m args below meth c s₁ Bd hml0 hP hK
  obtain ⟨rfl, hZ, hh⟩ := hP
  have hx := Bd.exec
  have hby := Bd.bytes
  have hml : c.maxLocals = 11 := hml0
  have hown : s.vm.findClass "java/lang/String" = some m.cls := findClass_of_methodNamed Bd.named
  have hnm := (name_of_methodNamed Bd.named Bd.method).1
  have X0 : Stand p l e ({ frames := 3, cells := 1, slots := 1, locals := 49 } : Room) s m #[(.ref a1), (.ref u8), (.ref a3), (.int (3 : Int32)), (.int (1 : Int32))] below meth c s₁ [] 0 0 := Stand.of_body Bd
  have e0 : s₁.heap = h0 := by rw [← hh, Bd.state]; rfl
  have N0 := Fr.nil n0
  have pre0 : ∀ t, Steps p.tables e below (s₁.setTop (mkF m 0 #[.val (.ref a1), .val (.ref u8), .val (.ref a3), .val (.int (3 : Int32)), .val (.int (1 : Int32)), .unset, .unset, .unset, .unset, .unset, .unset] [])) t → Steps p.tables e below (s₁.setTop (entryFrame m #[(.ref a1), (.ref u8), (.ref a3), (.int (3 : Int32)), (.int (1 : Int32))] 11)) t := fun t k => castTop (ef_15 m a1 u8 a3 (3 : Int32) (1 : Int32)) k
  obtain ⟨T1, X1, hE1, st1⟩ := initO X0 hx hZ hown (hw _ (List.mem_of_getElem? (i := 82) rfl)) (hw _ (List.mem_of_getElem? (i := 9) rfl)) (hw _ (List.mem_of_getElem? (i := 10) rfl)) e0 (g := (mkF m 1 #[.val (.ref a1), .val (.ref u8), .val (.ref a3), .val (.int (3 : Int32)), .val (.int (1 : Int32)), .unset, .unset, .unset, .unset, .unset, .unset] [(.ref a1)])) rfl (by rw [hml]; rfl) rfl (hb hby d15_1) (by decide) (W := 0) (by show 2 * 0 + _ ≤ _; exact Nat.le_of_eq rfl) (by decide)
  have S2 := hst.2.1.ext O_x.2
  obtain ⟨T3, X3, hE3, st3⟩ := getS2 X1 hx hZ hown (host := "") (Or.inl (hw _ (List.mem_of_getElem? (i := 83) rfl))) Via.refl hE1 S2 (g := (mkF m 31 #[.val (.ref a1), .val (.ref u8), .val (.ref a3), .val (.int (3 : Int32)), .val (.int (1 : Int32)), .unset, .unset, .unset, .unset, .unset, .unset] [(.ref u8)])) rfl (hb hby d15_31)
  have S4 := hst.2.2.2.1.ext O_x.2
  obtain ⟨T5, X5, hE5, st5⟩ := getS2 X3 hx hZ hown (host := "") (Or.inl (hw _ (List.mem_of_getElem? (i := 85) rfl))) Via.refl hE3 S4 (g := (mkF m 37 #[.val (.ref a1), .val (.ref u8), .val (.ref a3), .val (.int (3 : Int32)), .val (.int (1 : Int32)), .unset, .unset, .unset, .unset, .unset, .unset] [])) rfl (hb hby d15_37)
  obtain ⟨_, _, ⟨T6, L6, k6, n6⟩, -, X6, ⟨Lc6, hQ6, l6, y6, z6⟩, st6⟩ := Jvm.LawKit.callS X5 hx (y := (⟨"java/lang/StringCoding", "countPositives", "([BII)I"⟩ : MethodName)) hown (mvT hZ (hw _ (List.mem_of_getElem? (i := 86) rfl))) (mvT hZ (hw _ (List.mem_of_getElem? (i := 87) rfl))) (mvT hZ (hw _ (List.mem_of_getElem? (i := 88) rfl))) (mvT hZ (hw _ (List.mem_of_getElem? (i := 89) rfl))) (by decide) (backOf (W := 0) (rm16 l Z a0 hw [] a3 fb h0 n0 Z0 A_ab hob) hZ (hw _ (List.mem_of_getElem? (i := 89) rfl)) (hw _ (List.mem_of_getElem? (i := 88) rfl)) (by decide) (by decide)) (g := (mkF m 47 #[.val (.ref a1), .val (.ref u8), .val (.ref a3), .val (.int (3 : Int32)), .val (.int (1 : Int32)), .unset, .unset, .unset, .unset, .unset, .unset] [(.int (1 : Int32)), (.int (3 : Int32)), (.ref a3)])) rfl (by rw [hml]; rfl) (argsL := [(.ref a3), (.int (3 : Int32)), (.int (1 : Int32))]) (rest := []) (lenOf pd_6 rfl) rfl (by show 2 * 0 + _ ≤ _; exact Nat.le_of_eq rfl) (hb hby d15_47) (fun _ _ => ⟨rfl, hE5, (by decide : 0 + 0 ≤ _), (by decide : 0 + 0 ≤ _)⟩)
  dsimp only [Pt.U, Pt.locs, Pt.cells, Pt.slots] at X6 l6 y6 z6 st6 hQ6
  subst l6 y6 z6
  obtain ⟨rfl, N6q, hE6⟩ := hQ6
  have N6 := Fr.app N0 N6q
  have pre7 : ∀ t, Steps p.tables e below (T6.setTop (mkF m 66 #[.val (.ref a1), .val (.ref u8), .val (.ref a3), .val (.int (3 : Int32)), .val (.int (1 : Int32)), .val (.int (1 : Int32)), .unset, .unset, .unset, .unset, .unset] [(.int ((3 : Int32) + (1 : Int32))), (.int (3 : Int32)), (.ref a3), (.ref a1)])) t → Steps p.tables e below (s₁.setTop (entryFrame m #[(.ref a1), (.ref u8), (.ref a3), (.int (3 : Int32)), (.int (1 : Int32))] 11)) t := by
    intro t kt
    refine pre0 _ ?_
    show Steps p.tables e below (s₁.setTop (mkF m 0 #[.val (.ref a1), .val (.ref u8), .val (.ref a3), .val (.int (3 : Int32)), .val (.int (1 : Int32)), .unset, .unset, .unset, .unset, .unset, .unset] [])) _
    refine XS.aloadN X0.here hx rfl (hb hby d15_0) rfl rfl ?_
    show Steps p.tables e below (s₁.setTop (mkF m 1 #[.val (.ref a1), .val (.ref u8), .val (.ref a3), .val (.int (3 : Int32)), .val (.int (1 : Int32)), .unset, .unset, .unset, .unset, .unset, .unset] [(.ref a1)])) _
    refine st1 _ ?_
    show Steps p.tables e below (T1.setTop (mkF m 4 #[.val (.ref a1), .val (.ref u8), .val (.ref a3), .val (.int (3 : Int32)), .val (.int (1 : Int32)), .unset, .unset, .unset, .unset, .unset, .unset] [])) _
    refine XS.iload X1.here hx rfl (hb hby d15_4) rfl ?_
    show Steps p.tables e below (T1.setTop (mkF m 6 #[.val (.ref a1), .val (.ref u8), .val (.ref a3), .val (.int (3 : Int32)), .val (.int (1 : Int32)), .unset, .unset, .unset, .unset, .unset, .unset] [(.int (1 : Int32))])) _
    refine XS.ifYes X1.here hx rfl (pc0 := 6) (pc' := 30) rfl (hb hby d15_6) rfl (XT.i0_ne_t (by decide)) (by decide) (by decide) ?_
    show Steps p.tables e below (T1.setTop (mkF m 30 #[.val (.ref a1), .val (.ref u8), .val (.ref a3), .val (.int (3 : Int32)), .val (.int (1 : Int32)), .unset, .unset, .unset, .unset, .unset, .unset] [])) _
    refine XS.aloadN X1.here hx rfl (hb hby d15_30) rfl rfl ?_
    show Steps p.tables e below (T1.setTop (mkF m 31 #[.val (.ref a1), .val (.ref u8), .val (.ref a3), .val (.int (3 : Int32)), .val (.int (1 : Int32)), .unset, .unset, .unset, .unset, .unset, .unset] [(.ref u8)])) _
    refine st3 _ ?_
    show Steps p.tables e below (T3.setTop (mkF m 34 #[.val (.ref a1), .val (.ref u8), .val (.ref a3), .val (.int (3 : Int32)), .val (.int (1 : Int32)), .unset, .unset, .unset, .unset, .unset, .unset] [(.ref u8), (.ref u8)])) _
    refine Jvm.RoadKit.acmp (g := (mkF m 34 #[.val (.ref a1), .val (.ref u8), .val (.ref a3), .val (.int (3 : Int32)), .val (.int (1 : Int32)), .unset, .unset, .unset, .unset, .unset, .unset] [(.ref u8), (.ref u8)])) X3 hx rfl rfl rfl (pc0 := 34) (pc' := 37) (same := true) rfl (hb hby d15_34) rfl (decide_eq_true rfl) (by decide) (by decide) ?_
    show Steps p.tables e below (T3.setTop (mkF m 37 #[.val (.ref a1), .val (.ref u8), .val (.ref a3), .val (.int (3 : Int32)), .val (.int (1 : Int32)), .unset, .unset, .unset, .unset, .unset, .unset] [])) _
    refine st5 _ ?_
    show Steps p.tables e below (T5.setTop (mkF m 40 #[.val (.ref a1), .val (.ref u8), .val (.ref a3), .val (.int (3 : Int32)), .val (.int (1 : Int32)), .unset, .unset, .unset, .unset, .unset, .unset] [(.int cs)])) _
    refine XS.ifNo X5.here hx rfl (hb hby d15_40) rfl (XT.i0_eq_f hst.2.2.2.2.1) ?_
    show Steps p.tables e below (T5.setTop (mkF m 43 #[.val (.ref a1), .val (.ref u8), .val (.ref a3), .val (.int (3 : Int32)), .val (.int (1 : Int32)), .unset, .unset, .unset, .unset, .unset, .unset] [])) _
    refine XS.aloadN X5.here hx rfl (hb hby d15_43) rfl rfl ?_
    show Steps p.tables e below (T5.setTop (mkF m 44 #[.val (.ref a1), .val (.ref u8), .val (.ref a3), .val (.int (3 : Int32)), .val (.int (1 : Int32)), .unset, .unset, .unset, .unset, .unset, .unset] [(.ref a3)])) _
    refine XS.iloadN X5.here hx rfl (hb hby d15_44) rfl ?_
    show Steps p.tables e below (T5.setTop (mkF m 45 #[.val (.ref a1), .val (.ref u8), .val (.ref a3), .val (.int (3 : Int32)), .val (.int (1 : Int32)), .unset, .unset, .unset, .unset, .unset, .unset] [(.int (3 : Int32)), (.ref a3)])) _
    refine XS.iload X5.here hx rfl (hb hby d15_45) rfl ?_
    show Steps p.tables e below (T5.setTop (mkF m 47 #[.val (.ref a1), .val (.ref u8), .val (.ref a3), .val (.int (3 : Int32)), .val (.int (1 : Int32)), .unset, .unset, .unset, .unset, .unset, .unset] [(.int (1 : Int32)), (.int (3 : Int32)), (.ref a3)])) _
    refine st6 _ ?_
    show Steps p.tables e below (T6.setTop (mkF m 50 #[.val (.ref a1), .val (.ref u8), .val (.ref a3), .val (.int (3 : Int32)), .val (.int (1 : Int32)), .unset, .unset, .unset, .unset, .unset, .unset] [(.int (1 : Int32))])) _
    refine XS.istore X6.here hx rfl (hb hby d15_50) rfl (l' := #[.val (.ref a1), .val (.ref u8), .val (.ref a3), .val (.int (3 : Int32)), .val (.int (1 : Int32)), .val (.int (1 : Int32)), .unset, .unset, .unset, .unset, .unset]) rfl ?_
    show Steps p.tables e below (T6.setTop (mkF m 52 #[.val (.ref a1), .val (.ref u8), .val (.ref a3), .val (.int (3 : Int32)), .val (.int (1 : Int32)), .val (.int (1 : Int32)), .unset, .unset, .unset, .unset, .unset] [])) _
    refine XS.iload X6.here hx rfl (hb hby d15_52) rfl ?_
    show Steps p.tables e below (T6.setTop (mkF m 54 #[.val (.ref a1), .val (.ref u8), .val (.ref a3), .val (.int (3 : Int32)), .val (.int (1 : Int32)), .val (.int (1 : Int32)), .unset, .unset, .unset, .unset, .unset] [(.int (1 : Int32))])) _
    refine XS.iload X6.here hx rfl (hb hby d15_54) rfl ?_
    show Steps p.tables e below (T6.setTop (mkF m 56 #[.val (.ref a1), .val (.ref u8), .val (.ref a3), .val (.int (3 : Int32)), .val (.int (1 : Int32)), .val (.int (1 : Int32)), .unset, .unset, .unset, .unset, .unset] [(.int (1 : Int32)), (.int (1 : Int32))])) _
    refine XS.icmpNo X6.here hx rfl (hb hby d15_56) rfl (XT.ii_ne_f (by decide)) ?_
    show Steps p.tables e below (T6.setTop (mkF m 59 #[.val (.ref a1), .val (.ref u8), .val (.ref a3), .val (.int (3 : Int32)), .val (.int (1 : Int32)), .val (.int (1 : Int32)), .unset, .unset, .unset, .unset, .unset] [])) _
    refine XS.aloadN X6.here hx rfl (hb hby d15_59) rfl rfl ?_
    show Steps p.tables e below (T6.setTop (mkF m 60 #[.val (.ref a1), .val (.ref u8), .val (.ref a3), .val (.int (3 : Int32)), .val (.int (1 : Int32)), .val (.int (1 : Int32)), .unset, .unset, .unset, .unset, .unset] [(.ref a1)])) _
    refine XS.aloadN X6.here hx rfl (hb hby d15_60) rfl rfl ?_
    show Steps p.tables e below (T6.setTop (mkF m 61 #[.val (.ref a1), .val (.ref u8), .val (.ref a3), .val (.int (3 : Int32)), .val (.int (1 : Int32)), .val (.int (1 : Int32)), .unset, .unset, .unset, .unset, .unset] [(.ref a3), (.ref a1)])) _
    refine XS.iloadN X6.here hx rfl (hb hby d15_61) rfl ?_
    show Steps p.tables e below (T6.setTop (mkF m 62 #[.val (.ref a1), .val (.ref u8), .val (.ref a3), .val (.int (3 : Int32)), .val (.int (1 : Int32)), .val (.int (1 : Int32)), .unset, .unset, .unset, .unset, .unset] [(.int (3 : Int32)), (.ref a3), (.ref a1)])) _
    refine XS.iloadN X6.here hx rfl (hb hby d15_62) rfl ?_
    show Steps p.tables e below (T6.setTop (mkF m 63 #[.val (.ref a1), .val (.ref u8), .val (.ref a3), .val (.int (3 : Int32)), .val (.int (1 : Int32)), .val (.int (1 : Int32)), .unset, .unset, .unset, .unset, .unset] [(.int (3 : Int32)), (.int (3 : Int32)), (.ref a3), (.ref a1)])) _
    refine XS.iload X6.here hx rfl (hb hby d15_63) rfl ?_
    show Steps p.tables e below (T6.setTop (mkF m 65 #[.val (.ref a1), .val (.ref u8), .val (.ref a3), .val (.int (3 : Int32)), .val (.int (1 : Int32)), .val (.int (1 : Int32)), .unset, .unset, .unset, .unset, .unset] [(.int (1 : Int32)), (.int (3 : Int32)), (.int (3 : Int32)), (.ref a3), (.ref a1)])) _
    refine XS.iadd X6.here hx rfl (hb hby d15_65) rfl ?_
    exact kt
  have ql8 : ((3 : Int32) + (1 : Int32)) = (4 : Int32) := (by decide)
  have pre9 : ∀ t, Steps p.tables e below (T6.setTop (mkF m 66 #[.val (.ref a1), .val (.ref u8), .val (.ref a3), .val (.int (3 : Int32)), .val (.int (1 : Int32)), .val (.int (1 : Int32)), .unset, .unset, .unset, .unset, .unset] [(.int (4 : Int32)), (.int (3 : Int32)), (.ref a3), (.ref a1)])) t → Steps p.tables e below (s₁.setTop (entryFrame m #[(.ref a1), (.ref u8), (.ref a3), (.int (3 : Int32)), (.int (1 : Int32))] 11)) t := by
    intro t kt
    refine pre7 _ ?_
    rw [ql8]
    exact kt
  obtain ⟨_, _, ⟨T10, L10, k10, n10⟩, -, X10, ⟨Lc10, hQ10, l10, y10, z10⟩, st10⟩ := Jvm.LawKit.callS X6 hx (y := (⟨"java/util/Arrays", "copyOfRange", "([BII)[B"⟩ : MethodName)) hown (mvT hZ (hw _ (List.mem_of_getElem? (i := 90) rfl))) (mvT hZ (hw _ (List.mem_of_getElem? (i := 91) rfl))) (mvT hZ (hw _ (List.mem_of_getElem? (i := 92) rfl))) (mvT hZ (hw _ (List.mem_of_getElem? (i := 93) rfl))) (by decide) (backOf (W := 1) (rm17 l Z a0 hw [] a3 fb h0 n0 Z0 A_ab hob) hZ (hw _ (List.mem_of_getElem? (i := 93) rfl)) (hw _ (List.mem_of_getElem? (i := 92) rfl)) (by decide) (by decide)) (g := (mkF m 66 #[.val (.ref a1), .val (.ref u8), .val (.ref a3), .val (.int (3 : Int32)), .val (.int (1 : Int32)), .val (.int (1 : Int32)), .unset, .unset, .unset, .unset, .unset] [(.int (4 : Int32)), (.int (3 : Int32)), (.ref a3), (.ref a1)])) rfl (by rw [hml]; rfl) (argsL := [(.ref a3), (.int (3 : Int32)), (.int (4 : Int32))]) (rest := [(.ref a1)]) (lenOf pd_5 rfl) rfl (by show 2 * 0 + _ ≤ _; exact Nat.le_of_eq rfl) (hb hby d15_66) (fun _ _ => ⟨rfl, hE6, (by decide : 0 + 1 ≤ _), (by decide : 0 + 1 ≤ _)⟩)
  dsimp only [Pt.U, Pt.locs, Pt.cells, Pt.slots] at X10 l10 y10 z10 st10 hQ10
  subst l10 y10 z10
  obtain ⟨bb, rfl, N10q, K10, h_bb, p10_A⟩ := hQ10
  have N10 := Fr.app N6 N10q
  have ne_a1_bb : a1 ≠ bb := Nat.ne_of_lt (Nat.lt_of_lt_of_le E_a1.lt h_bb)
  have ne_a3_bb : a3 ≠ bb := Nat.ne_of_lt (Nat.lt_of_lt_of_le A_ab.lt h_bb)
  have g_bb : n0 ≤ bb := Nat.le_trans Z0 h_bb
  have sz_bb : h0.size ≤ bb := Nat.le_trans (Keep.refl h0 [a1]).1 h_bb
  have f11 := E_a1.keep K10
  have f12 := F_value.keep K10 nin0
  have f13 := F_coder.keep K10 nin0
  have f14 := A_ab.keep K10 nin0
  have f15 := O_x.keep K10 all0
  have Z18 := Nat.le_trans Z0 K10.1
  have K19 := (Keep.refl h0 [a1]).trans K10 all0
  obtain ⟨T20, gh20, X20, hE20, W20, st20⟩ := putF X10 hx hZ hown (host := "") (Or.inl (hw _ (List.mem_of_getElem? (i := 108) rfl))) Via.refl rfl f12 f11 (Or.inr ⟨(hw _ (List.mem_of_getElem? (i := 109) rfl)), rfl, hnm⟩) (hw _ (List.mem_of_getElem? (i := 57) rfl)) (ty := (.array .byte)) (by decide) rfl rfl (g := (mkF m 69 #[.val (.ref a1), .val (.ref u8), .val (.ref a3), .val (.int (3 : Int32)), .val (.int (1 : Int32)), .val (.int (1 : Int32)), .unset, .unset, .unset, .unset, .unset] [(.ref bb), (.ref a1)])) rfl rfl (hb hby d15_69)
  have Fw20 := f12.same W20
  have f21 := f11.wr W20
  have f23 := f13.other W20 (Or.inr (slot_ne (Or.inr (hw _ (List.mem_of_getElem? (i := 111) rfl))) (Or.inr (hw _ (List.mem_of_getElem? (i := 109) rfl))) (by decide) (t := .byte) (t' := (.array .byte)) (by decide) (by decide)))
  have f24 := f14.other W20 (Ne.symm n1b)
  have f25 := f15.wr W20 g_a1
  have f26 := p10_A.other W20 (Ne.symm ne_a1_bb)
  have Z27 := Nat.le_trans Z18 (Keep.of_wr W20).1
  have N28 := Fr.snoc X20 N10 g_a1
  have K29 := K19.wr W20 (Or.inl (List.mem_of_getElem? (i := 0) rfl))
  obtain ⟨T30, gh30, X30, hE30, W30, st30⟩ := putFN X20 hx hZ hown (hw _ (List.mem_of_getElem? (i := 110) rfl)) Via.refl hE20 f23 f21 (Or.inr ⟨(hw _ (List.mem_of_getElem? (i := 111) rfl)), rfl, hnm⟩) (hw _ (List.mem_of_getElem? (i := 57) rfl)) (ty := .byte) (v' := (.int (0 : Int32))) (by decide) rfl rfl (g := (mkF m 74 #[.val (.ref a1), .val (.ref u8), .val (.ref a3), .val (.int (3 : Int32)), .val (.int (1 : Int32)), .val (.int (1 : Int32)), .unset, .unset, .unset, .unset, .unset] [(.int (0 : Int32)), (.ref a1)])) rfl rfl (hb hby d15_74)
  have Fw30 := f23.same W30
  have f31 := f21.wr W30
  have f32 := Fw20.other W30 (Or.inr (slot_ne (Or.inr (hw _ (List.mem_of_getElem? (i := 109) rfl))) (Or.inr (hw _ (List.mem_of_getElem? (i := 111) rfl))) (by decide) (t := (.array .byte)) (t' := .byte) (by decide) (by decide)))
  have f34 := f24.other W30 (Ne.symm n1b)
  have f35 := f25.wr W30 g_a1
  have f36 := f26.other W30 (Ne.symm ne_a1_bb)
  have Z37 := Nat.le_trans Z27 (Keep.of_wr W30).1
  have N38 := Fr.snoc X30 N28 g_a1
  have K39 := K29.wr W30 (Or.inl (List.mem_of_getElem? (i := 0) rfl))
  have pre40 : ∀ t, Steps p.tables e below (T30.setTop (mkF m 77 #[.val (.ref a1), .val (.ref u8), .val (.ref a3), .val (.int (3 : Int32)), .val (.int (1 : Int32)), .val (.int (1 : Int32)), .unset, .unset, .unset, .unset, .unset] [])) t → Steps p.tables e below (s₁.setTop (entryFrame m #[(.ref a1), (.ref u8), (.ref a3), (.int (3 : Int32)), (.int (1 : Int32))] 11)) t := by
    intro t kt
    refine pre9 _ ?_
    show Steps p.tables e below (T6.setTop (mkF m 66 #[.val (.ref a1), .val (.ref u8), .val (.ref a3), .val (.int (3 : Int32)), .val (.int (1 : Int32)), .val (.int (1 : Int32)), .unset, .unset, .unset, .unset, .unset] [(.int (4 : Int32)), (.int (3 : Int32)), (.ref a3), (.ref a1)])) _
    refine st10 _ ?_
    show Steps p.tables e below (T10.setTop (mkF m 69 #[.val (.ref a1), .val (.ref u8), .val (.ref a3), .val (.int (3 : Int32)), .val (.int (1 : Int32)), .val (.int (1 : Int32)), .unset, .unset, .unset, .unset, .unset] [(.ref bb), (.ref a1)])) _
    refine st20 _ ?_
    show Steps p.tables e below (T20.setTop (mkF m 72 #[.val (.ref a1), .val (.ref u8), .val (.ref a3), .val (.int (3 : Int32)), .val (.int (1 : Int32)), .val (.int (1 : Int32)), .unset, .unset, .unset, .unset, .unset] [])) _
    refine XS.aloadN X20.here hx rfl (hb hby d15_72) rfl rfl ?_
    show Steps p.tables e below (T20.setTop (mkF m 73 #[.val (.ref a1), .val (.ref u8), .val (.ref a3), .val (.int (3 : Int32)), .val (.int (1 : Int32)), .val (.int (1 : Int32)), .unset, .unset, .unset, .unset, .unset] [(.ref a1)])) _
    refine XS.iconst X20.here hx rfl (hb hby d15_73) ?_
    show Steps p.tables e below (T20.setTop (mkF m 74 #[.val (.ref a1), .val (.ref u8), .val (.ref a3), .val (.int (3 : Int32)), .val (.int (1 : Int32)), .val (.int (1 : Int32)), .unset, .unset, .unset, .unset, .unset] [(.int (0 : Int32)), (.ref a1)])) _
    refine st30 _ ?_
    exact kt
  obtain ⟨fs, hr, hrun, hended, hW, hsame⟩ := X30.leave (v := none) (fun _ => rfl)
  refine ⟨_, _, pre40 _ ?_, hrun, hended, _, _, rfl, ?_, ⟨_, rfl⟩, hW, hsame.mono (by decide) (by decide)⟩
  · show Steps p.tables e below (T30.setTop (mkF m 77 #[.val (.ref a1), .val (.ref u8), .val (.ref a3), .val (.int (3 : Int32)), .val (.int (1 : Int32)), .val (.int (1 : Int32)), .unset, .unset, .unset, .unset, .unset] [])) _
    exact X30.returnOut hx Bd.returns (hb hby d15_77) hr
  · show Q15 Z a1 a3 fb u8 cs fmv h0 n0 _ T30.heap _
    rw [hE30]
    exact ⟨bb, rfl, N38, K39, sz_bb, f31, f32, Fw30, f36⟩
theorem pn_11 : plainName "java/lang/String" = true := by first | (simp [plainName, overriddenIn]; done) | decide +kernel
theorem ef_11 (m : MethodId) (x0 : Addr) (x1 : Addr) (x2 : Int32) (x3 : Int32) (x4 : Addr) : entryFrame m #[(.ref x0), (.ref x1), (.int x2), (.int x3), (.ref x4)] 5 = mkF m 0 #[.val (.ref x0), .val (.ref x1), .val (.int x2), .val (.int x3), .val (.ref x4)] [] := by first | (simp [entryFrame, mkF, argsToLocals, Value.category]; done) | rfl
theorem d11_0 : decode jdk_42_method_10_code 0 = .ok (.aload_n 0, 1) := by decide +kernel
theorem d11_1 : decode jdk_42_method_10_code 1 = .ok (.aload 4, 2) := by decide +kernel
theorem pd_7 : parseMethodDescriptor "(Ljava/lang/Object;)Ljava/lang/Object;" = some ⟨[(.object "java/lang/Object")], some (.object "java/lang/Object")⟩ := by decide +kernel
theorem d11_3 : decode jdk_42_method_10_code 3 = .ok (.invokestatic 78, 3) := by decide +kernel
theorem d11_6 : decode jdk_42_method_10_code 6 = .ok (.checkcast 84, 3) := by decide +kernel
theorem d11_9 : decode jdk_42_method_10_code 9 = .ok (.aload_n 1, 1) := by decide +kernel
theorem d11_10 : decode jdk_42_method_10_code 10 = .ok (.iload_n 2, 1) := by decide +kernel
theorem d11_11 : decode jdk_42_method_10_code 11 = .ok (.iload_n 3, 1) := by decide +kernel
theorem d11_12 : decode jdk_42_method_10_code 12 = .ok (.aload_n 1, 1) := by decide +kernel
theorem d11_13 : decode jdk_42_method_10_code 13 = .ok (.arraylength, 1) := by decide +kernel
theorem pd_8 : parseMethodDescriptor "(III)I" = some ⟨[.int, .int, .int], some .int⟩ := by decide +kernel
theorem d11_14 : decode jdk_42_method_10_code 14 = .ok (.invokestatic 34, 3) := by decide +kernel
theorem d11_17 : decode jdk_42_method_10_code 17 = .ok (.iload_n 3, 1) := by decide +kernel
theorem pd_9 : parseMethodDescriptor "(Ljava/nio/charset/Charset;[BII)V" = some ⟨[(.object "java/nio/charset/Charset"), (.array .byte), .int, .int], none⟩ := by decide +kernel
theorem d11_18 : decode jdk_42_method_10_code 18 = .ok (.invokespecial 75, 3) := by decide +kernel
theorem d11_21 : decode jdk_42_method_10_code 21 = .ok (.return_, 1) := by decide +kernel
def Q11 (Z : State) (a1 : Addr) (a2 : Addr) (fb : Nat → Int32) (u8 : Addr) (cs : Int32) (fmv : Value) (h0 : Heap) (n0 : Nat) (v : Option Value) (h : Heap) (L : List Loc) : Prop := ∃ b : Addr, v = none ∧ Fr n0 L ∧ Keep h0 h [a1] ∧ h0.size ≤ b ∧ Exa Z h a1 "java/lang/String" ∧ Fld Z h a1 "java/lang/String" "value" "[B" (.ref b) ∧ Fld Z h a1 "java/lang/String" "coder" "B" (.int (0 : Int32)) ∧ owAI Z h b .byte 1 (fun _ => (107 : Int32))
set_option maxRecDepth 65536 in
set_option maxHeartbeats 40000000 in
theorem rm11 (l : Launch) (Z : State) (a0 : Array Value) (hw : ∀ d ∈ tables_1, d.before a0 Z = true) (ws : List Jvm.Cond) (a1 : Addr) (a2 : Addr) (fb : Nat → Int32) (u8 : Addr) (cs : Int32) (fmv : Value) (h0 : Heap) (n0 : Nat) (Z0 : n0 ≤ h0.size) (E_a1 : Exa Z h0 a1 "java/lang/String") (F_value : Fld Z h0 a1 "java/lang/String" "value" "[B" .null) (F_coder : Fld Z h0 a1 "java/lang/String" "coder" "B" (.int (0 : Int32))) (A_ab : owAI Z h0 a2 .byte 9 fb) (g_a1 : n0 ≤ a1) (n1b : a1 ≠ a2) (hob : OB fb) (O_x : Old Z n0 h0) (hst : OST Z u8 cs fmv) :
    MetFree l (⟨"java/lang/String", "<init>", "([BIILjava/nio/charset/Charset;)V"⟩ : MethodName) (head1 (Jvm.Cond.code (⟨"java/lang/String", "<init>", "([BIILjava/nio/charset/Charset;)V"⟩ : MethodName) jdk_42_method_10_code 5 none :: ws) ({ frames := 4, cells := 1, slots := 1, locals := 71 } : Room)) (fun a U => a = #[(.ref a1), (.ref a2), (.int (3 : Int32)), (.int (1 : Int32)), (.ref u8)] ∧ Z.Warmed39 U.vm ∧ U.heap = h0) (fun _ _ _ _ _ => True) (fun _ U o U' => ∃ v L, o = .returned v ∧ Q11 Z a1 a2 fb u8 cs fmv h0 n0 v U'.heap L ∧ FrameEnd U o U' L ({ frames := 4, cells := 1, slots := 1, locals := 71 } : Room).cells ({ frames := 4, cells := 1, slots := 1, locals := 71 } : Room).slots) := by
  refine MetFree.of_bodySF (plainFor_of_name pn_11) hisR ?_
  intro p e s m args below meth c s₁ Bd hml0 hP hK
  obtain ⟨rfl, hZ, hh⟩ := hP
  have hx := Bd.exec
  have hby := Bd.bytes
  have hml : c.maxLocals = 5 := hml0
  have hown : s.vm.findClass "java/lang/String" = some m.cls := findClass_of_methodNamed Bd.named
  have hnm := (name_of_methodNamed Bd.named Bd.method).1
  have X0 : Stand p l e ({ frames := 4, cells := 1, slots := 1, locals := 71 } : Room) s m #[(.ref a1), (.ref a2), (.int (3 : Int32)), (.int (1 : Int32)), (.ref u8)] below meth c s₁ [] 0 0 := Stand.of_body Bd
  have e0 : s₁.heap = h0 := by rw [← hh, Bd.state]; rfl
  have N0 := Fr.nil n0
  have pre0 : ∀ t, Steps p.tables e below (s₁.setTop (mkF m 0 #[.val (.ref a1), .val (.ref a2), .val (.int (3 : Int32)), .val (.int (1 : Int32)), .val (.ref u8)] [])) t → Steps p.tables e below (s₁.setTop (entryFrame m #[(.ref a1), (.ref a2), (.int (3 : Int32)), (.int (1 : Int32)), (.ref u8)] 5)) t := fun t k => castTop (ef_11 m a1 a2 (3 : Int32) (1 : Int32) u8) k
  obtain ⟨_, _, ⟨T1, L1, k1, n1⟩, -, X1, ⟨Lc1, hQ1, l1, y1, z1⟩, st1⟩ := Jvm.LawKit.callS X0 hx (y := (⟨"java/util/Objects", "requireNonNull", "(Ljava/lang/Object;)Ljava/lang/Object;"⟩ : MethodName)) hown (mvT hZ (hw _ (List.mem_of_getElem? (i := 64) rfl))) (mvT hZ (hw _ (List.mem_of_getElem? (i := 65) rfl))) (mvT hZ (hw _ (List.mem_of_getElem? (i := 66) rfl))) (mvT hZ (hw _ (List.mem_of_getElem? (i := 67) rfl))) (by decide) (backOf (W := 1) (rm12 l Z a0 hw [] u8 h0 n0 Z0) hZ (hw _ (List.mem_of_getElem? (i := 67) rfl)) (hw _ (List.mem_of_getElem? (i := 66) rfl)) (by decide) (by decide)) (g := (mkF m 3 #[.val (.ref a1), .val (.ref a2), .val (.int (3 : Int32)), .val (.int (1 : Int32)), .val (.ref u8)] [(.ref u8), (.ref a1)])) rfl (by rw [hml]; rfl) (argsL := [(.ref u8)]) (rest := [(.ref a1)]) (lenOf pd_7 rfl) rfl (by show 2 * 0 + _ ≤ _; exact Nat.le_of_eq rfl) (hb hby d11_3) (fun _ _ => ⟨rfl, e0, (by decide : 0 + 0 ≤ _), (by decide : 0 + 0 ≤ _)⟩)
  dsimp only [Pt.U, Pt.locs, Pt.cells, Pt.slots] at X1 l1 y1 z1 st1 hQ1
  subst l1 y1 z1
  obtain ⟨rfl, N1q, hE1⟩ := hQ1
  have N1 := Fr.app N0 N1q
  have E2u := hst.2.2.1.ext O_x.2
  obtain ⟨T3, X3, hE3, st3⟩ := castY X1 hx hZ hown (hw _ (List.mem_of_getElem? (i := 68) rfl)) hE1 (Ins.of_exa E2u (hw _ (List.mem_of_getElem? (i := 69) rfl))) (g := (mkF m 6 #[.val (.ref a1), .val (.ref a2), .val (.int (3 : Int32)), .val (.int (1 : Int32)), .val (.ref u8)] [(.ref u8), (.ref a1)])) rfl rfl (hb hby d11_6)
  obtain ⟨_, _, ⟨T4, L4, k4, n4⟩, -, X4, ⟨Lc4, hQ4, l4, y4, z4⟩, st4⟩ := Jvm.LawKit.callS X3 hx (y := (⟨"java/lang/String", "checkBoundsOffCount", "(III)I"⟩ : MethodName)) hown (mvT hZ (hw _ (List.mem_of_getElem? (i := 70) rfl))) (mvT hZ (hw _ (List.mem_of_getElem? (i := 71) rfl))) (mvT hZ (hw _ (List.mem_of_getElem? (i := 58) rfl))) (mvT hZ (hw _ (List.mem_of_getElem? (i := 72) rfl))) (by decide) (backOf (W := 3) (rm13 l Z a0 hw [] fmv h0 n0 Z0 (hst.2.2.2.2.2.1.ext O_x.2) hst.2.2.2.2.2.2) hZ (hw _ (List.mem_of_getElem? (i := 72) rfl)) (hw _ (List.mem_of_getElem? (i := 58) rfl)) (by decide) (by decide)) (g := (mkF m 14 #[.val (.ref a1), .val (.ref a2), .val (.int (3 : Int32)), .val (.int (1 : Int32)), .val (.ref u8)] [(.int (9 : Int32)), (.int (1 : Int32)), (.int (3 : Int32)), (.ref a2), (.ref u8), (.ref a1)])) rfl (by rw [hml]; rfl) (argsL := [(.int (3 : Int32)), (.int (1 : Int32)), (.int (9 : Int32))]) (rest := [(.ref a2), (.ref u8), (.ref a1)]) (lenOf pd_8 rfl) rfl (by show 2 * 0 + _ ≤ _; exact Nat.le_of_eq rfl) (hb hby d11_14) (fun _ _ => ⟨rfl, hE3, (by decide : 0 + 0 ≤ _), (by decide : 0 + 0 ≤ _)⟩)
  dsimp only [Pt.U, Pt.locs, Pt.cells, Pt.slots] at X4 l4 y4 z4 st4 hQ4
  subst l4 y4 z4
  obtain ⟨rfl, N4q, hE4⟩ := hQ4
  have N4 := Fr.app N1 N4q
  obtain ⟨_, _, ⟨T5, L5, k5, n5⟩, -, X5, ⟨Lc5, hQ5, l5, y5, z5⟩, st5⟩ := X4.specialBackH hx (y := (⟨"java/lang/String", "<init>", "(Ljava/nio/charset/Charset;[BII)V"⟩ : MethodName)) rfl hown (mvT hZ (hw _ (List.mem_of_getElem? (i := 78) rfl))) (mvT hZ (hw _ (List.mem_of_getElem? (i := 79) rfl))) (mvT hZ (hw _ (List.mem_of_getElem? (i := 81) rfl))) (by decide) (backOfWith (W := 0) (rm15 l Z a0 hw [] a1 a2 fb u8 cs fmv h0 n0 Z0 E_a1 F_value F_coder A_ab g_a1 n1b hob O_x hst) hZ (hw _ (List.mem_of_getElem? (i := 81) rfl)) (hw _ (List.mem_of_getElem? (i := 58) rfl)) (by decide) (by decide)) (g := (mkF m 18 #[.val (.ref a1), .val (.ref a2), .val (.int (3 : Int32)), .val (.int (1 : Int32)), .val (.ref u8)] [(.int (1 : Int32)), (.int (3 : Int32)), (.ref a2), (.ref u8), (.ref a1)])) rfl (by rw [hml]; rfl) (Steps.refl _) (a := a1) (argsL := [(.ref u8), (.ref a2), (.int (3 : Int32)), (.int (1 : Int32))]) (rest := []) (lenOf pd_9 rfl) rfl (by show 2 * 0 + _ ≤ _; exact Nat.le_of_eq rfl) (hb hby d11_18) (fun _ _ => ⟨rfl, hE4, (by decide : 0 + 1 ≤ _), (by decide : 0 + 1 ≤ _)⟩)
  dsimp only [Pt.U, Pt.locs, Pt.cells, Pt.slots] at X5 l5 y5 z5 st5 hQ5
  subst l5 y5 z5
  obtain ⟨bb, rfl, N5q, K5, h_bb, p5_E, p5_v, p5_c, p5_A⟩ := hQ5
  have N5 := Fr.app N4 N5q
  have ne_a1_bb : a1 ≠ bb := Nat.ne_of_lt (Nat.lt_of_lt_of_le E_a1.lt h_bb)
  have ne_a2_bb : a2 ≠ bb := Nat.ne_of_lt (Nat.lt_of_lt_of_le A_ab.lt h_bb)
  have ne_u8_bb : u8 ≠ bb := Nat.ne_of_lt (Nat.lt_of_lt_of_le E2u.lt h_bb)
  have g_bb : n0 ≤ bb := Nat.le_trans Z0 h_bb
  have sz_bb : h0.size ≤ bb := Nat.le_trans (Keep.refl h0 [a1]).1 h_bb
  have f6 := E_a1.keep K5
  have f9 := A_ab.keep K5 (ninS (Ne.symm n1b) nin0)
  have f10 := O_x.keep K5 (allS g_a1 all0)
  have f11 := E2u.keep K5
  have Z12 := Nat.le_trans Z0 K5.1
  have K13 := (Keep.refl h0 [a1]).trans K5 (allS (Or.inl (List.mem_of_getElem? (i := 0) rfl)) all0)
  have pre14 : ∀ t, Steps p.tables e below (T5.setTop (mkF m 21 #[.val (.ref a1), .val (.ref a2), .val (.int (3 : Int32)), .val (.int (1 : Int32)), .val (.ref u8)] [])) t → Steps p.tables e below (s₁.setTop (entryFrame m #[(.ref a1), (.ref a2), (.int (3 : Int32)), (.int (1 : Int32)), (.ref u8)] 5)) t := by
    intro t kt
    refine pre0 _ ?_
    show Steps p.tables e below (s₁.setTop (mkF m 0 #[.val (.ref a1), .val (.ref a2), .val (.int (3 : Int32)), .val (.int (1 : Int32)), .val (.ref u8)] [])) _
    refine XS.aloadN X0.here hx rfl (hb hby d11_0) rfl rfl ?_
    show Steps p.tables e below (s₁.setTop (mkF m 1 #[.val (.ref a1), .val (.ref a2), .val (.int (3 : Int32)), .val (.int (1 : Int32)), .val (.ref u8)] [(.ref a1)])) _
    refine XS.aload X0.here hx rfl (hb hby d11_1) rfl rfl ?_
    show Steps p.tables e below (s₁.setTop (mkF m 3 #[.val (.ref a1), .val (.ref a2), .val (.int (3 : Int32)), .val (.int (1 : Int32)), .val (.ref u8)] [(.ref u8), (.ref a1)])) _
    refine st1 _ ?_
    show Steps p.tables e below (T1.setTop (mkF m 6 #[.val (.ref a1), .val (.ref a2), .val (.int (3 : Int32)), .val (.int (1 : Int32)), .val (.ref u8)] [(.ref u8), (.ref a1)])) _
    refine st3 _ ?_
    show Steps p.tables e below (T3.setTop (mkF m 9 #[.val (.ref a1), .val (.ref a2), .val (.int (3 : Int32)), .val (.int (1 : Int32)), .val (.ref u8)] [(.ref u8), (.ref a1)])) _
    refine XS.aloadN X3.here hx rfl (hb hby d11_9) rfl rfl ?_
    show Steps p.tables e below (T3.setTop (mkF m 10 #[.val (.ref a1), .val (.ref a2), .val (.int (3 : Int32)), .val (.int (1 : Int32)), .val (.ref u8)] [(.ref a2), (.ref u8), (.ref a1)])) _
    refine XS.iloadN X3.here hx rfl (hb hby d11_10) rfl ?_
    show Steps p.tables e below (T3.setTop (mkF m 11 #[.val (.ref a1), .val (.ref a2), .val (.int (3 : Int32)), .val (.int (1 : Int32)), .val (.ref u8)] [(.int (3 : Int32)), (.ref a2), (.ref u8), (.ref a1)])) _
    refine XS.iloadN X3.here hx rfl (hb hby d11_11) rfl ?_
    show Steps p.tables e below (T3.setTop (mkF m 12 #[.val (.ref a1), .val (.ref a2), .val (.int (3 : Int32)), .val (.int (1 : Int32)), .val (.ref u8)] [(.int (1 : Int32)), (.int (3 : Int32)), (.ref a2), (.ref u8), (.ref a1)])) _
    refine XS.aloadN X3.here hx rfl (hb hby d11_12) rfl rfl ?_
    show Steps p.tables e below (T3.setTop (mkF m 13 #[.val (.ref a1), .val (.ref a2), .val (.int (3 : Int32)), .val (.int (1 : Int32)), .val (.ref u8)] [(.ref a2), (.int (1 : Int32)), (.int (3 : Int32)), (.ref a2), (.ref u8), (.ref a1)])) _
    refine owLenI X3 hx hZ hE3 A_ab (z := (9 : Int32)) rfl (g := (mkF m 13 #[.val (.ref a1), .val (.ref a2), .val (.int (3 : Int32)), .val (.int (1 : Int32)), .val (.ref u8)] [(.ref a2), (.int (1 : Int32)), (.int (3 : Int32)), (.ref a2), (.ref u8), (.ref a1)])) rfl rfl (hb hby d11_13) _ ?_
    show Steps p.tables e below (T3.setTop (mkF m 14 #[.val (.ref a1), .val (.ref a2), .val (.int (3 : Int32)), .val (.int (1 : Int32)), .val (.ref u8)] [(.int (9 : Int32)), (.int (1 : Int32)), (.int (3 : Int32)), (.ref a2), (.ref u8), (.ref a1)])) _
    refine st4 _ ?_
    show Steps p.tables e below (T4.setTop (mkF m 17 #[.val (.ref a1), .val (.ref a2), .val (.int (3 : Int32)), .val (.int (1 : Int32)), .val (.ref u8)] [(.int (3 : Int32)), (.ref a2), (.ref u8), (.ref a1)])) _
    refine XS.iloadN X4.here hx rfl (hb hby d11_17) rfl ?_
    show Steps p.tables e below (T4.setTop (mkF m 18 #[.val (.ref a1), .val (.ref a2), .val (.int (3 : Int32)), .val (.int (1 : Int32)), .val (.ref u8)] [(.int (1 : Int32)), (.int (3 : Int32)), (.ref a2), (.ref u8), (.ref a1)])) _
    refine st5.trans ?_
    exact kt
  obtain ⟨fs, hr, hrun, hended, hW, hsame⟩ := X5.leave (v := none) (fun _ => rfl)
  refine ⟨_, _, pre14 _ ?_, hrun, hended, _, _, rfl, ?_, ⟨_, rfl⟩, hW, hsame.mono (by decide) (by decide)⟩
  · show Steps p.tables e below (T5.setTop (mkF m 21 #[.val (.ref a1), .val (.ref a2), .val (.int (3 : Int32)), .val (.int (1 : Int32)), .val (.ref u8)] [])) _
    exact X5.returnOut hx Bd.returns (hb hby d11_21) hr
  · show Q11 Z a1 a2 fb u8 cs fmv h0 n0 _ T5.heap _
    exact ⟨bb, rfl, N5, K13, sz_bb, p5_E, p5_v, p5_c, p5_A⟩
theorem d10_0 : decode prog_51_method_8_code 0 = .ok (.new 167, 3) := by decide +kernel
theorem d10_3 : decode prog_51_method_8_code 3 = .ok (.dup, 1) := by decide +kernel
theorem d10_4 : decode prog_51_method_8_code 4 = .ok (.aload_n 0, 1) := by decide +kernel
theorem d10_5 : decode prog_51_method_8_code 5 = .ok (.iload_n 1, 1) := by decide +kernel
theorem d10_6 : decode prog_51_method_8_code 6 = .ok (.iload_n 2, 1) := by decide +kernel
theorem d10_7 : decode prog_51_method_8_code 7 = .ok (.iload_n 1, 1) := by decide +kernel
theorem d10_8 : decode prog_51_method_8_code 8 = .ok (.isub, 1) := by decide +kernel
theorem d10_9 : decode prog_51_method_8_code 9 = .ok (.getstatic 169, 3) := by decide +kernel
theorem d10_12 : decode prog_51_method_8_code 12 = .ok (.invokespecial 175, 3) := by decide +kernel
theorem d10_15 : decode prog_51_method_8_code 15 = .ok (.areturn, 1) := by decide +kernel
theorem pn_10 : plainName "com/example/fama/fama/table/TableLines" = true := by first | (simp [plainName, overriddenIn]; done) | decide +kernel
theorem ef_10 (m : MethodId) (x0 : Addr) (x1 : Int32) (x2 : Int32) : entryFrame m #[(.ref x0), (.int x1), (.int x2)] 3 = mkF m 0 #[.val (.ref x0), .val (.int x1), .val (.int x2)] [] := by first | (simp [entryFrame, mkF, argsToLocals, Value.category]; done) | rfl
theorem pd_10 : parseMethodDescriptor "([BIILjava/nio/charset/Charset;)V" = some ⟨[(.array .byte), .int, .int, (.object "java/nio/charset/Charset")], none⟩ := by decide +kernel
def Q10 (Z : State) (a1 : Addr) (fb : Nat → Int32) (u8 : Addr) (cs : Int32) (fmv : Value) (h0 : Heap) (n0 : Nat) (v : Option Value) (h : Heap) (L : List Loc) : Prop := ∃ w b : Addr, v = some (.ref w) ∧ Fr n0 L ∧ Keep h0 h [] ∧ h0.size ≤ w ∧ h0.size ≤ b ∧ Exa Z h w "java/lang/String" ∧ Fld Z h w "java/lang/String" "value" "[B" (.ref b) ∧ Fld Z h w "java/lang/String" "coder" "B" (.int (0 : Int32)) ∧ owAI Z h b .byte 1 (fun _ => (107 : Int32))
set_option maxRecDepth 65536 in
set_option maxHeartbeats 40000000 in
theorem rm10 (l : Launch) (Z : State) (a0 : Array Value) (hw : ∀ d ∈ tables_1, d.before a0 Z = true) (ws : List Jvm.Cond) (a1 : Addr) (fb : Nat → Int32) (u8 : Addr) (cs : Int32) (fmv : Value) (h0 : Heap) (n0 : Nat) (Z0 : n0 ≤ h0.size) (A_ab : owAI Z h0 a1 .byte 9 fb) (hob : OB fb) (O_x : Old Z n0 h0) (hst : OST Z u8 cs fmv) :
    MetFree l (⟨"com/example/fama/fama/table/TableLines", "decode", "([BII)Ljava/lang/String;"⟩ : MethodName) (head1 (Jvm.Cond.code (⟨"com/example/fama/fama/table/TableLines", "decode", "([BII)Ljava/lang/String;"⟩ : MethodName) prog_51_method_8_code 3 (some (.object "java/lang/String")) :: ws) ({ frames := 5, cells := 2, slots := 5, locals := 88 } : Room)) (fun a U => a = #[(.ref a1), (.int (3 : Int32)), (.int (4 : Int32))] ∧ Z.Warmed39 U.vm ∧ U.heap = h0) (fun _ _ _ _ _ => True) (fun _ U o U' => ∃ v L, o = .returned v ∧ Q10 Z a1 fb u8 cs fmv h0 n0 v U'.heap L ∧ FrameEnd U o U' L ({ frames := 5, cells := 2, slots := 5, locals := 88 } : Room).cells ({ frames := 5, cells := 2, slots := 5, locals := 88 } : Room).slots) := by
  refine MetFree.of_bodySF (plainFor_of_name pn_10) hisR ?_
  intro p e s m args below meth c s₁ Bd hml0 hP hK
  obtain ⟨rfl, hZ, hh⟩ := hP
  have hx := Bd.exec
  have hby := Bd.bytes
  have hml : c.maxLocals = 3 := hml0
  have hown : s.vm.findClass "com/example/fama/fama/table/TableLines" = some m.cls := findClass_of_methodNamed Bd.named
  have hnm := (name_of_methodNamed Bd.named Bd.method).1
  have X0 : Stand p l e ({ frames := 5, cells := 2, slots := 5, locals := 88 } : Room) s m #[(.ref a1), (.int (3 : Int32)), (.int (4 : Int32))] below meth c s₁ [] 0 0 := Stand.of_body Bd
  have e0 : s₁.heap = h0 := by rw [← hh, Bd.state]; rfl
  have N0 := Fr.nil n0
  have pre0 : ∀ t, Steps p.tables e below (s₁.setTop (mkF m 0 #[.val (.ref a1), .val (.int (3 : Int32)), .val (.int (4 : Int32))] [])) t → Steps p.tables e below (s₁.setTop (entryFrame m #[(.ref a1), (.int (3 : Int32)), (.int (4 : Int32))] 3)) t := fun t k => castTop (ef_10 m a1 (3 : Int32) (4 : Int32)) k
  obtain ⟨T1, gh1, X1, hE1, E1, A1, D1, -, st1⟩ := newO X0 hx hZ hown (hw _ (List.mem_of_getElem? (i := 56) rfl)) (hw _ (List.mem_of_getElem? (i := 57) rfl)) (hw _ (List.mem_of_getElem? (i := 58) rfl)) e0 (g := (mkF m 0 #[.val (.ref a1), .val (.int (3 : Int32)), .val (.int (4 : Int32))] [])) rfl (hb hby d10_0) (by decide) (by decide)
  obtain ⟨ks, g1⟩ : ∃ z, z = h0.size := ⟨_, rfl⟩
  rw [← g1] at A1 D1 st1
  have ne_a1_ks : a1 ≠ ks := Nat.ne_of_lt (Nat.lt_of_lt_of_le A_ab.lt (Nat.le_of_eq g1.symm))
  have g_ks : n0 ≤ ks := Nat.le_trans Z0 (Nat.le_of_eq g1.symm)
  have sz_ks : h0.size ≤ ks := Nat.le_trans (Keep.refl h0 []).1 (Nat.le_of_eq g1.symm)
  have f2 := A_ab.ext E1
  have f3 := O_x.ext E1
  have Z4 := Nat.le_trans Z0 E1.1
  have K5 := (Keep.refl h0 []).ext E1
  have F_value_ks : Fld Z gh1 ks "java/lang/String" "value" "[B" .null := D1 (Or.inr (hw _ (List.mem_of_getElem? (i := 109) rfl))) (ty := (.array .byte)) (by decide)
  have F_coder_ks : Fld Z gh1 ks "java/lang/String" "coder" "B" (.int (0 : Int32)) := D1 (Or.inr (hw _ (List.mem_of_getElem? (i := 111) rfl))) (ty := .byte) (by decide)
  have S6 := hst.1.ext f3.2
  obtain ⟨T7, X7, hE7, st7⟩ := getS2 X1 hx hZ hown (host := "") (Or.inl (hw _ (List.mem_of_getElem? (i := 59) rfl))) Via.refl hE1 S6 (g := (mkF m 9 #[.val (.ref a1), .val (.int (3 : Int32)), .val (.int (4 : Int32))] [(.int ((4 : Int32) - (3 : Int32))), (.int (3 : Int32)), (.ref a1), (.ref ks), (.ref ks)])) rfl (hb hby d10_9)
  obtain ⟨_, _, ⟨T8, L8, k8, n8⟩, -, X8, ⟨Lc8, hQ8, l8, y8, z8⟩, st8⟩ := X7.specialBack hx (y := (⟨"java/lang/String", "<init>", "([BIILjava/nio/charset/Charset;)V"⟩ : MethodName)) rfl hown (mvT hZ (hw _ (List.mem_of_getElem? (i := 61) rfl))) (mvT hZ (hw _ (List.mem_of_getElem? (i := 62) rfl))) (mvT hZ (hw _ (List.mem_of_getElem? (i := 63) rfl))) (by decide) (backOf (W := 1) (rm11 l Z a0 hw [] ks a1 fb u8 cs fmv gh1 n0 Z4 A1 F_value_ks F_coder_ks f2 g_ks (Ne.symm ne_a1_ks) hob f3 hst) hZ (hw _ (List.mem_of_getElem? (i := 63) rfl)) (hw _ (List.mem_of_getElem? (i := 58) rfl)) (by decide) (by decide)) (g := (mkF m 12 #[.val (.ref a1), .val (.int (3 : Int32)), .val (.int (4 : Int32))] [(.ref u8), (.int ((4 : Int32) - (3 : Int32))), (.int (3 : Int32)), (.ref a1), (.ref ks), (.ref ks)])) rfl (by rw [hml]; rfl) (Steps.refl _) (a := ks) (argsL := [(.ref a1), (.int (3 : Int32)), (.int ((4 : Int32) - (3 : Int32))), (.ref u8)]) (rest := [(.ref ks)]) (lenOf pd_10 rfl) rfl (by show 2 * 0 + _ ≤ _; exact Nat.le_of_eq rfl) (hb hby d10_12) (fun _ _ => ⟨rfl, hE7, (by decide : 1 + 1 ≤ _), (by decide : 4 + 1 ≤ _)⟩)
  dsimp only [Pt.U, Pt.locs, Pt.cells, Pt.slots] at X8 l8 y8 z8 st8 hQ8
  subst l8 y8 z8
  obtain ⟨bb, rfl, N8q, K8, h_bb, p8_E, p8_v, p8_c, p8_A⟩ := hQ8
  have N8 := Fr.app N0 N8q
  have ne_a1_bb : a1 ≠ bb := Nat.ne_of_lt (Nat.lt_of_lt_of_le f2.lt h_bb)
  have ne_ks_bb : ks ≠ bb := Nat.ne_of_lt (Nat.lt_of_lt_of_le A1.lt h_bb)
  have g_bb : n0 ≤ bb := Nat.le_trans Z4 h_bb
  have sz_bb : h0.size ≤ bb := Nat.le_trans K5.1 h_bb
  have f9 := f2.keep K8 (ninS ne_a1_ks nin0)
  have f10 := f3.keep K8 (allS g_ks all0)
  have f11 := A1.keep K8
  have Z15 := Nat.le_trans Z4 K8.1
  have K16 := K5.trans K8 (allS (Or.inr sz_ks) all0)
  have pre17 : ∀ t, Steps p.tables e below (T8.setTop (mkF m 15 #[.val (.ref a1), .val (.int (3 : Int32)), .val (.int (4 : Int32))] [(.ref ks)])) t → Steps p.tables e below (s₁.setTop (entryFrame m #[(.ref a1), (.int (3 : Int32)), (.int (4 : Int32))] 3)) t := by
    intro t kt
    refine pre0 _ ?_
    show Steps p.tables e below (s₁.setTop (mkF m 0 #[.val (.ref a1), .val (.int (3 : Int32)), .val (.int (4 : Int32))] [])) _
    refine st1 _ ?_
    show Steps p.tables e below (T1.setTop (mkF m 3 #[.val (.ref a1), .val (.int (3 : Int32)), .val (.int (4 : Int32))] [(.ref ks)])) _
    refine XS.dup X1.here hx rfl (hb hby d10_3) rfl rfl ?_
    show Steps p.tables e below (T1.setTop (mkF m 4 #[.val (.ref a1), .val (.int (3 : Int32)), .val (.int (4 : Int32))] [(.ref ks), (.ref ks)])) _
    refine XS.aloadN X1.here hx rfl (hb hby d10_4) rfl rfl ?_
    show Steps p.tables e below (T1.setTop (mkF m 5 #[.val (.ref a1), .val (.int (3 : Int32)), .val (.int (4 : Int32))] [(.ref a1), (.ref ks), (.ref ks)])) _
    refine XS.iloadN X1.here hx rfl (hb hby d10_5) rfl ?_
    show Steps p.tables e below (T1.setTop (mkF m 6 #[.val (.ref a1), .val (.int (3 : Int32)), .val (.int (4 : Int32))] [(.int (3 : Int32)), (.ref a1), (.ref ks), (.ref ks)])) _
    refine XS.iloadN X1.here hx rfl (hb hby d10_6) rfl ?_
    show Steps p.tables e below (T1.setTop (mkF m 7 #[.val (.ref a1), .val (.int (3 : Int32)), .val (.int (4 : Int32))] [(.int (4 : Int32)), (.int (3 : Int32)), (.ref a1), (.ref ks), (.ref ks)])) _
    refine XS.iloadN X1.here hx rfl (hb hby d10_7) rfl ?_
    show Steps p.tables e below (T1.setTop (mkF m 8 #[.val (.ref a1), .val (.int (3 : Int32)), .val (.int (4 : Int32))] [(.int (3 : Int32)), (.int (4 : Int32)), (.int (3 : Int32)), (.ref a1), (.ref ks), (.ref ks)])) _
    refine XS.isub X1.here hx rfl (hb hby d10_8) rfl ?_
    show Steps p.tables e below (T1.setTop (mkF m 9 #[.val (.ref a1), .val (.int (3 : Int32)), .val (.int (4 : Int32))] [(.int ((4 : Int32) - (3 : Int32))), (.int (3 : Int32)), (.ref a1), (.ref ks), (.ref ks)])) _
    refine st7 _ ?_
    show Steps p.tables e below (T7.setTop (mkF m 12 #[.val (.ref a1), .val (.int (3 : Int32)), .val (.int (4 : Int32))] [(.ref u8), (.int ((4 : Int32) - (3 : Int32))), (.int (3 : Int32)), (.ref a1), (.ref ks), (.ref ks)])) _
    refine st8.trans ?_
    exact kt
  obtain ⟨fs, hr, hrun, hended, hW, hsame⟩ := X8.leave (v := some (.ref ks)) (fun h => by rw [Bd.returns] at h; cases h)
  refine ⟨_, _, pre17 _ ?_, hrun, hended, _, _, rfl, ?_, ⟨_, rfl⟩, hW, hsame.mono (by decide) (by decide)⟩
  · show Steps p.tables e below (T8.setTop (mkF m 15 #[.val (.ref a1), .val (.int (3 : Int32)), .val (.int (4 : Int32))] [(.ref ks)])) _
    exact X8.areturnOut hx rfl Bd.returns rfl (hb hby d10_15) hr
  · show Q10 Z a1 fb u8 cs fmv h0 n0 _ T8.heap _
    exact ⟨ks, bb, rfl, N8, K16, sz_ks, sz_bb, p8_E, p8_v, p8_c, p8_A⟩
theorem d9_0 : decode prog_30_method_9_code 0 = .ok (.aload_n 0, 1) := by decide +kernel
theorem d9_1 : decode prog_30_method_9_code 1 = .ok (.dup, 1) := by decide +kernel
theorem d9_2 : decode prog_30_method_9_code 2 = .ok (.getfield 24, 3) := by decide +kernel
theorem d9_5 : decode prog_30_method_9_code 5 = .ok (.iconst 1, 1) := by decide +kernel
theorem d9_6 : decode prog_30_method_9_code 6 = .ok (.iadd, 1) := by decide +kernel
theorem d9_7 : decode prog_30_method_9_code 7 = .ok (.dup_x1, 1) := by decide +kernel
theorem d9_8 : decode prog_30_method_9_code 8 = .ok (.putfield 24, 3) := by decide +kernel
theorem d9_11 : decode prog_30_method_9_code 11 = .ok (.istore_n 2, 1) := by decide +kernel
theorem d9_12 : decode prog_30_method_9_code 12 = .ok (.aconst_null, 1) := by decide +kernel
theorem d9_13 : decode prog_30_method_9_code 13 = .ok (.astore_n 3, 1) := by decide +kernel
theorem d9_14 : decode prog_30_method_9_code 14 = .ok (.iload_n 2, 1) := by decide +kernel
theorem d9_15 : decode prog_30_method_9_code 15 = .ok (.istore 4, 2) := by decide +kernel
theorem d9_17 : decode prog_30_method_9_code 17 = .ok (.aload_n 0, 1) := by decide +kernel
theorem d9_18 : decode prog_30_method_9_code 18 = .ok (.getfield 24, 3) := by decide +kernel
theorem d9_21 : decode prog_30_method_9_code 21 = .ok (.aload_n 0, 1) := by decide +kernel
theorem d9_22 : decode prog_30_method_9_code 22 = .ok (.getfield 21, 3) := by decide +kernel
theorem d9_25 : decode prog_30_method_9_code 25 = .ok (.if_icmp .ge 133, 3) := by decide +kernel
theorem d9_28 : decode prog_30_method_9_code 28 = .ok (.aload_n 0, 1) := by decide +kernel
theorem d9_29 : decode prog_30_method_9_code 29 = .ok (.getfield 13, 3) := by decide +kernel
theorem d9_32 : decode prog_30_method_9_code 32 = .ok (.aload_n 0, 1) := by decide +kernel
theorem d9_33 : decode prog_30_method_9_code 33 = .ok (.getfield 24, 3) := by decide +kernel
theorem d9_36 : decode prog_30_method_9_code 36 = .ok (.baload, 1) := by decide +kernel
theorem d9_37 : decode prog_30_method_9_code 37 = .ok (.bipush 34, 2) := by decide +kernel
theorem d9_39 : decode prog_30_method_9_code 39 = .ok (.if_icmp .eq 119, 3) := by decide +kernel
theorem d9_42 : decode prog_30_method_9_code 42 = .ok (.aload_n 0, 1) := by decide +kernel
theorem d9_43 : decode prog_30_method_9_code 43 = .ok (.getfield 13, 3) := by decide +kernel
theorem d9_46 : decode prog_30_method_9_code 46 = .ok (.aload_n 0, 1) := by decide +kernel
theorem d9_47 : decode prog_30_method_9_code 47 = .ok (.getfield 24, 3) := by decide +kernel
theorem d9_50 : decode prog_30_method_9_code 50 = .ok (.baload, 1) := by decide +kernel
theorem d9_51 : decode prog_30_method_9_code 51 = .ok (.istore 5, 2) := by decide +kernel
theorem d9_53 : decode prog_30_method_9_code 53 = .ok (.iload 5, 2) := by decide +kernel
theorem d9_55 : decode prog_30_method_9_code 55 = .ok (.bipush 92, 2) := by decide +kernel
theorem d9_57 : decode prog_30_method_9_code 57 = .ok (.if_icmp .ne 65, 3) := by decide +kernel
theorem d9_60 : decode prog_30_method_9_code 60 = .ok (.aload_n 0, 1) := by decide +kernel
theorem d9_61 : decode prog_30_method_9_code 61 = .ok (.getfield 24, 3) := by decide +kernel
theorem d9_64 : decode prog_30_method_9_code 64 = .ok (.istore 6, 2) := by decide +kernel
theorem d9_66 : decode prog_30_method_9_code 66 = .ok (.aload_n 0, 1) := by decide +kernel
theorem d9_67 : decode prog_30_method_9_code 67 = .ok (.invokevirtual 84, 3) := by decide +kernel
theorem d9_70 : decode prog_30_method_9_code 70 = .ok (.istore 7, 2) := by decide +kernel
theorem d9_72 : decode prog_30_method_9_code 72 = .ok (.iload_n 1, 1) := by decide +kernel
theorem d9_73 : decode prog_30_method_9_code 73 = .ok (.ifCond .eq 40, 3) := by decide +kernel
theorem d9_76 : decode prog_30_method_9_code 76 = .ok (.aload_n 3, 1) := by decide +kernel
theorem d9_77 : decode prog_30_method_9_code 77 = .ok (.ifnonnull 13, 3) := by decide +kernel
theorem d9_80 : decode prog_30_method_9_code 80 = .ok (.new 88, 3) := by decide +kernel
theorem d9_83 : decode prog_30_method_9_code 83 = .ok (.dup, 1) := by decide +kernel
theorem d9_84 : decode prog_30_method_9_code 84 = .ok (.invokespecial 90, 3) := by decide +kernel
theorem d9_87 : decode prog_30_method_9_code 87 = .ok (.goto 4, 3) := by decide +kernel
theorem d9_90 : decode prog_30_method_9_code 90 = .ok (.aload_n 3, 1) := by decide +kernel
theorem d9_91 : decode prog_30_method_9_code 91 = .ok (.astore_n 3, 1) := by decide +kernel
theorem d9_92 : decode prog_30_method_9_code 92 = .ok (.aload_n 3, 1) := by decide +kernel
theorem d9_93 : decode prog_30_method_9_code 93 = .ok (.aload_n 0, 1) := by decide +kernel
theorem d9_94 : decode prog_30_method_9_code 94 = .ok (.getfield 13, 3) := by decide +kernel
theorem d9_97 : decode prog_30_method_9_code 97 = .ok (.iload 4, 2) := by decide +kernel
theorem d9_99 : decode prog_30_method_9_code 99 = .ok (.iload 6, 2) := by decide +kernel
theorem d9_101 : decode prog_30_method_9_code 101 = .ok (.invokestatic 59, 3) := by decide +kernel
theorem d9_104 : decode prog_30_method_9_code 104 = .ok (.invokevirtual 91, 3) := by decide +kernel
theorem d9_107 : decode prog_30_method_9_code 107 = .ok (.iload 7, 2) := by decide +kernel
theorem d9_109 : decode prog_30_method_9_code 109 = .ok (.invokevirtual 95, 3) := by decide +kernel
theorem d9_112 : decode prog_30_method_9_code 112 = .ok (.pop, 1) := by decide +kernel
theorem d9_113 : decode prog_30_method_9_code 113 = .ok (.aload_n 0, 1) := by decide +kernel
theorem d9_114 : decode prog_30_method_9_code 114 = .ok (.getfield 24, 3) := by decide +kernel
theorem d9_117 : decode prog_30_method_9_code 117 = .ok (.istore 4, 2) := by decide +kernel
theorem d9_119 : decode prog_30_method_9_code 119 = .ok (.goto 36, 3) := by decide +kernel
theorem d9_122 : decode prog_30_method_9_code 122 = .ok (.iload 5, 2) := by decide +kernel
theorem d9_124 : decode prog_30_method_9_code 124 = .ok (.ifCond .lt 21, 3) := by decide +kernel
theorem d9_127 : decode prog_30_method_9_code 127 = .ok (.iload 5, 2) := by decide +kernel
theorem d9_129 : decode prog_30_method_9_code 129 = .ok (.bipush 32, 2) := by decide +kernel
theorem d9_131 : decode prog_30_method_9_code 131 = .ok (.if_icmp .ge 14, 3) := by decide +kernel
theorem d9_134 : decode prog_30_method_9_code 134 = .ok (.aload_n 0, 1) := by decide +kernel
theorem d9_135 : decode prog_30_method_9_code 135 = .ok (.ldc 98, 2) := by decide +kernel
theorem d9_137 : decode prog_30_method_9_code 137 = .ok (.aload_n 0, 1) := by decide +kernel
theorem d9_138 : decode prog_30_method_9_code 138 = .ok (.getfield 24, 3) := by decide +kernel
theorem d9_141 : decode prog_30_method_9_code 141 = .ok (.invokevirtual 100, 3) := by decide +kernel
theorem d9_144 : decode prog_30_method_9_code 144 = .ok (.athrow, 1) := by decide +kernel
theorem d9_145 : decode prog_30_method_9_code 145 = .ok (.aload_n 0, 1) := by decide +kernel
theorem d9_146 : decode prog_30_method_9_code 146 = .ok (.dup, 1) := by decide +kernel
theorem d9_147 : decode prog_30_method_9_code 147 = .ok (.getfield 24, 3) := by decide +kernel
theorem d9_150 : decode prog_30_method_9_code 150 = .ok (.iconst 1, 1) := by decide +kernel
theorem d9_151 : decode prog_30_method_9_code 151 = .ok (.iadd, 1) := by decide +kernel
theorem d9_152 : decode prog_30_method_9_code 152 = .ok (.putfield 24, 3) := by decide +kernel
theorem d9_155 : decode prog_30_method_9_code 155 = .ok (.goto (-138), 3) := by decide +kernel
theorem d9_158 : decode prog_30_method_9_code 158 = .ok (.aload_n 0, 1) := by decide +kernel
theorem d9_159 : decode prog_30_method_9_code 159 = .ok (.getfield 24, 3) := by decide +kernel
theorem d9_162 : decode prog_30_method_9_code 162 = .ok (.aload_n 0, 1) := by decide +kernel
theorem d9_163 : decode prog_30_method_9_code 163 = .ok (.getfield 21, 3) := by decide +kernel
theorem d9_166 : decode prog_30_method_9_code 166 = .ok (.if_icmp .ne 13, 3) := by decide +kernel
theorem d9_169 : decode prog_30_method_9_code 169 = .ok (.new 30, 3) := by decide +kernel
theorem d9_172 : decode prog_30_method_9_code 172 = .ok (.dup, 1) := by decide +kernel
theorem d9_173 : decode prog_30_method_9_code 173 = .ok (.ldc 104, 2) := by decide +kernel
theorem d9_175 : decode prog_30_method_9_code 175 = .ok (.invokespecial 34, 3) := by decide +kernel
theorem d9_178 : decode prog_30_method_9_code 178 = .ok (.athrow, 1) := by decide +kernel
theorem d9_179 : decode prog_30_method_9_code 179 = .ok (.aconst_null, 1) := by decide +kernel
theorem d9_180 : decode prog_30_method_9_code 180 = .ok (.astore 5, 2) := by decide +kernel
theorem d9_182 : decode prog_30_method_9_code 182 = .ok (.iload_n 1, 1) := by decide +kernel
theorem d9_183 : decode prog_30_method_9_code 183 = .ok (.ifCond .eq 24, 3) := by decide +kernel
theorem d9_186 : decode prog_30_method_9_code 186 = .ok (.aload_n 3, 1) := by decide +kernel
theorem d9_187 : decode prog_30_method_9_code 187 = .ok (.ifnonnull 20, 3) := by decide +kernel
theorem d9_190 : decode prog_30_method_9_code 190 = .ok (.aload_n 0, 1) := by decide +kernel
theorem d9_191 : decode prog_30_method_9_code 191 = .ok (.getfield 13, 3) := by decide +kernel
theorem d9_194 : decode prog_30_method_9_code 194 = .ok (.iload_n 2, 1) := by decide +kernel
theorem d9_195 : decode prog_30_method_9_code 195 = .ok (.aload_n 0, 1) := by decide +kernel
theorem d9_196 : decode prog_30_method_9_code 196 = .ok (.getfield 24, 3) := by decide +kernel
theorem d9_199 : decode prog_30_method_9_code 199 = .ok (.invokestatic 59, 3) := by decide +kernel
theorem d9_202 : decode prog_30_method_9_code 202 = .ok (.astore 5, 2) := by decide +kernel
theorem d9_204 : decode prog_30_method_9_code 204 = .ok (.goto 29, 3) := by decide +kernel
theorem d9_207 : decode prog_30_method_9_code 207 = .ok (.iload_n 1, 1) := by decide +kernel
theorem d9_208 : decode prog_30_method_9_code 208 = .ok (.ifCond .eq 25, 3) := by decide +kernel
theorem d9_211 : decode prog_30_method_9_code 211 = .ok (.aload_n 3, 1) := by decide +kernel
theorem d9_212 : decode prog_30_method_9_code 212 = .ok (.aload_n 0, 1) := by decide +kernel
theorem d9_213 : decode prog_30_method_9_code 213 = .ok (.getfield 13, 3) := by decide +kernel
theorem d9_216 : decode prog_30_method_9_code 216 = .ok (.iload 4, 2) := by decide +kernel
theorem d9_218 : decode prog_30_method_9_code 218 = .ok (.aload_n 0, 1) := by decide +kernel
theorem d9_219 : decode prog_30_method_9_code 219 = .ok (.getfield 24, 3) := by decide +kernel
theorem d9_222 : decode prog_30_method_9_code 222 = .ok (.invokestatic 59, 3) := by decide +kernel
theorem d9_225 : decode prog_30_method_9_code 225 = .ok (.invokevirtual 91, 3) := by decide +kernel
theorem d9_228 : decode prog_30_method_9_code 228 = .ok (.invokevirtual 106, 3) := by decide +kernel
theorem d9_231 : decode prog_30_method_9_code 231 = .ok (.astore 5, 2) := by decide +kernel
theorem d9_233 : decode prog_30_method_9_code 233 = .ok (.aload_n 0, 1) := by decide +kernel
theorem d9_234 : decode prog_30_method_9_code 234 = .ok (.dup, 1) := by decide +kernel
theorem d9_235 : decode prog_30_method_9_code 235 = .ok (.getfield 24, 3) := by decide +kernel
theorem d9_238 : decode prog_30_method_9_code 238 = .ok (.iconst 1, 1) := by decide +kernel
theorem d9_239 : decode prog_30_method_9_code 239 = .ok (.iadd, 1) := by decide +kernel
theorem d9_240 : decode prog_30_method_9_code 240 = .ok (.putfield 24, 3) := by decide +kernel
theorem d9_243 : decode prog_30_method_9_code 243 = .ok (.aload 5, 2) := by decide +kernel
theorem d9_245 : decode prog_30_method_9_code 245 = .ok (.areturn, 1) := by decide +kernel
theorem pn_9 : plainName "com/example/fama/fama/table/JsonLine" = true := by first | (simp [plainName, overriddenIn]; done) | decide +kernel
theorem ef_9 (m : MethodId) (x0 : Addr) (x1 : Int32) : entryFrame m #[(.ref x0), (.int x1)] 8 = mkF m 0 #[.val (.ref x0), .val (.int x1), .unset, .unset, .unset, .unset, .unset, .unset] [] := by first | (simp [entryFrame, mkF, argsToLocals, Value.category]; done) | rfl
theorem pd_11 : parseMethodDescriptor "([BII)Ljava/lang/String;" = some ⟨[(.array .byte), .int, .int], some (.object "java/lang/String")⟩ := by decide +kernel
def Q9 (Z : State) (a1 : Addr) (ab : Addr) (ie : Int32) (fb : Nat → Int32) (u8 : Addr) (cs : Int32) (fmv : Value) (h0 : Heap) (n0 : Nat) (v : Option Value) (h : Heap) (L : List Loc) : Prop := ∃ w b : Addr, v = some (.ref w) ∧ Fr n0 L ∧ Keep h0 h [a1] ∧ h0.size ≤ w ∧ h0.size ≤ b ∧ Exa Z h w "java/lang/String" ∧ Fld Z h w "java/lang/String" "value" "[B" (.ref b) ∧ Fld Z h w "java/lang/String" "coder" "B" (.int (0 : Int32)) ∧ owAI Z h b .byte 1 (fun _ => (107 : Int32)) ∧ Exa Z h a1 "com/example/fama/fama/table/JsonLine" ∧ Fld Z h a1 "com/example/fama/fama/table/JsonLine" "at" "I" (.int (5 : Int32)) ∧ Fld Z h a1 "com/example/fama/fama/table/JsonLine" "end" "I" (.int ie) ∧ Fld Z h a1 "com/example/fama/fama/table/JsonLine" "bytes" "[B" (.ref ab) ∧ Fld Z h a1 "com/example/fama/fama/table/JsonLine" "first" "Z" (.int (0 : Int32))
set_option maxRecDepth 65536 in
set_option maxHeartbeats 40000000 in
theorem rm9 (l : Launch) (Z : State) (a0 : Array Value) (hw : ∀ d ∈ tables_1, d.before a0 Z = true) (ws : List Jvm.Cond) (a1 : Addr) (ab : Addr) (ie : Int32) (fb : Nat → Int32) (u8 : Addr) (cs : Int32) (fmv : Value) (h0 : Heap) (n0 : Nat) (Z0 : n0 ≤ h0.size) (E_a1 : Exa Z h0 a1 "com/example/fama/fama/table/JsonLine") (F_at : Fld Z h0 a1 "com/example/fama/fama/table/JsonLine" "at" "I" (.int (2 : Int32))) (F_end : Fld Z h0 a1 "com/example/fama/fama/table/JsonLine" "end" "I" (.int ie)) (F_bytes : Fld Z h0 a1 "com/example/fama/fama/table/JsonLine" "bytes" "[B" (.ref ab)) (F_first : Fld Z h0 a1 "com/example/fama/fama/table/JsonLine" "first" "Z" (.int (0 : Int32))) (A_ab : owAI Z h0 ab .byte 9 fb) (g_a1 : n0 ≤ a1) (n1b : a1 ≠ ab) (hoe : OE ie) (hob : OB fb) (O_x : Old Z n0 h0) (hst : OST Z u8 cs fmv) :
    MetFree l (⟨"com/example/fama/fama/table/JsonLine", "string", "(Z)Ljava/lang/String;"⟩ : MethodName) (head1 (Jvm.Cond.code (⟨"com/example/fama/fama/table/JsonLine", "string", "(Z)Ljava/lang/String;"⟩ : MethodName) prog_30_method_9_code 8 (some (.object "java/lang/String")) :: ws) ({ frames := 6, cells := 2, slots := 5, locals := 102 } : Room)) (fun a U => a = #[(.ref a1), (.int (1 : Int32))] ∧ Z.Warmed39 U.vm ∧ U.heap = h0) (fun _ _ _ _ _ => True) (fun _ U o U' => ∃ v L, o = .returned v ∧ Q9 Z a1 ab ie fb u8 cs fmv h0 n0 v U'.heap L ∧ FrameEnd U o U' L ({ frames := 6, cells := 2, slots := 5, locals := 102 } : Room).cells ({ frames := 6, cells := 2, slots := 5, locals := 102 } : Room).slots) := by
  refine MetFree.of_bodySF (plainFor_of_name pn_9) hisR ?_
  intro p e s m args below meth c s₁ Bd hml0 hP hK
  obtain ⟨rfl, hZ, hh⟩ := hP
  have hx := Bd.exec
  have hby := Bd.bytes
  have hml : c.maxLocals = 8 := hml0
  have hown : s.vm.findClass "com/example/fama/fama/table/JsonLine" = some m.cls := findClass_of_methodNamed Bd.named
  have hnm := (name_of_methodNamed Bd.named Bd.method).1
  have X0 : Stand p l e ({ frames := 6, cells := 2, slots := 5, locals := 102 } : Room) s m #[(.ref a1), (.int (1 : Int32))] below meth c s₁ [] 0 0 := Stand.of_body Bd
  have e0 : s₁.heap = h0 := by rw [← hh, Bd.state]; rfl
  have N0 := Fr.nil n0
  have pre0 : ∀ t, Steps p.tables e below (s₁.setTop (mkF m 0 #[.val (.ref a1), .val (.int (1 : Int32)), .unset, .unset, .unset, .unset, .unset, .unset] [])) t → Steps p.tables e below (s₁.setTop (entryFrame m #[(.ref a1), (.int (1 : Int32))] 8)) t := fun t k => castTop (ef_9 m a1 (1 : Int32)) k
  obtain ⟨T1, X1, hE1, st1⟩ := getF X0 hx hZ hown (host := "") (Or.inl (hw _ (List.mem_of_getElem? (i := 19) rfl))) Via.refl e0 F_at (g := (mkF m 2 #[.val (.ref a1), .val (.int (1 : Int32)), .unset, .unset, .unset, .unset, .unset, .unset] [(.ref a1), (.ref a1)])) rfl rfl (hb hby d9_2)
  have pre2 : ∀ t, Steps p.tables e below (T1.setTop (mkF m 7 #[.val (.ref a1), .val (.int (1 : Int32)), .unset, .unset, .unset, .unset, .unset, .unset] [(.int ((2 : Int32) + (1 : Int32))), (.ref a1)])) t → Steps p.tables e below (s₁.setTop (entryFrame m #[(.ref a1), (.int (1 : Int32))] 8)) t := by
    intro t kt
    refine pre0 _ ?_
    show Steps p.tables e below (s₁.setTop (mkF m 0 #[.val (.ref a1), .val (.int (1 : Int32)), .unset, .unset, .unset, .unset, .unset, .unset] [])) _
    refine XS.aloadN X0.here hx rfl (hb hby d9_0) rfl rfl ?_
    show Steps p.tables e below (s₁.setTop (mkF m 1 #[.val (.ref a1), .val (.int (1 : Int32)), .unset, .unset, .unset, .unset, .unset, .unset] [(.ref a1)])) _
    refine XS.dup X0.here hx rfl (hb hby d9_1) rfl rfl ?_
    show Steps p.tables e below (s₁.setTop (mkF m 2 #[.val (.ref a1), .val (.int (1 : Int32)), .unset, .unset, .unset, .unset, .unset, .unset] [(.ref a1), (.ref a1)])) _
    refine st1 _ ?_
    show Steps p.tables e below (T1.setTop (mkF m 5 #[.val (.ref a1), .val (.int (1 : Int32)), .unset, .unset, .unset, .unset, .unset, .unset] [(.int (2 : Int32)), (.ref a1)])) _
    refine XS.iconst X1.here hx rfl (hb hby d9_5) ?_
    show Steps p.tables e below (T1.setTop (mkF m 6 #[.val (.ref a1), .val (.int (1 : Int32)), .unset, .unset, .unset, .unset, .unset, .unset] [(.int (1 : Int32)), (.int (2 : Int32)), (.ref a1)])) _
    refine XS.iadd X1.here hx rfl (hb hby d9_6) rfl ?_
    exact kt
  have ql3 : ((2 : Int32) + (1 : Int32)) = (3 : Int32) := (by decide)
  have pre4 : ∀ t, Steps p.tables e below (T1.setTop (mkF m 7 #[.val (.ref a1), .val (.int (1 : Int32)), .unset, .unset, .unset, .unset, .unset, .unset] [(.int (3 : Int32)), (.ref a1)])) t → Steps p.tables e below (s₁.setTop (entryFrame m #[(.ref a1), (.int (1 : Int32))] 8)) t := by
    intro t kt
    refine pre2 _ ?_
    rw [ql3]
    exact kt
  obtain ⟨T5, gh5, X5, hE5, W5, st5⟩ := putF X1 hx hZ hown (host := "") (Or.inl (hw _ (List.mem_of_getElem? (i := 19) rfl))) Via.refl hE1 F_at E_a1 (Or.inl (hw _ (List.mem_of_getElem? (i := 20) rfl))) (hw _ (List.mem_of_getElem? (i := 3) rfl)) (ty := .int) (by decide) rfl rfl (g := (mkF m 8 #[.val (.ref a1), .val (.int (1 : Int32)), .unset, .unset, .unset, .unset, .unset, .unset] [(.int (3 : Int32)), (.ref a1), (.int (3 : Int32))])) rfl rfl (hb hby d9_8)
  have Fw5 := F_at.same W5
  have f6 := E_a1.wr W5
  have f7 := A_ab.other W5 (Ne.symm n1b)
  have f9 := F_end.other W5 (Or.inr (slot_ne (Or.inr (hw _ (List.mem_of_getElem? (i := 18) rfl))) (Or.inl (hw _ (List.mem_of_getElem? (i := 20) rfl))) (by decide) (t := .int) (t' := .int) (by decide) (by decide)))
  have f10 := F_bytes.other W5 (Or.inr (slot_ne (Or.inr (hw _ (List.mem_of_getElem? (i := 14) rfl))) (Or.inl (hw _ (List.mem_of_getElem? (i := 20) rfl))) (by decide) (t := (.array .byte)) (t' := .int) (by decide) (by decide)))
  have f11 := F_first.other W5 (Or.inr (slot_ne (Or.inl (hw _ (List.mem_of_getElem? (i := 12) rfl))) (Or.inl (hw _ (List.mem_of_getElem? (i := 20) rfl))) (by decide) (t := .boolean) (t' := .int) (by decide) (by decide)))
  have f12 := O_x.wr W5 g_a1
  have Z13 := Nat.le_trans Z0 (Keep.of_wr W5).1
  have N14 := Fr.snoc X5 N0 g_a1
  have K15 := (Keep.refl h0 [a1]).wr W5 (Or.inl (List.mem_of_getElem? (i := 0) rfl))
  obtain ⟨T16, X16, hE16, st16⟩ := getF X5 hx hZ hown (host := "") (Or.inl (hw _ (List.mem_of_getElem? (i := 19) rfl))) Via.refl hE5 Fw5 (g := (mkF m 18 #[.val (.ref a1), .val (.int (1 : Int32)), .val (.int (3 : Int32)), .val .null, .val (.int (3 : Int32)), .unset, .unset, .unset] [(.ref a1)])) rfl rfl (hb hby d9_18)
  obtain ⟨T17, X17, hE17, st17⟩ := getF X16 hx hZ hown (host := "") (Or.inl (hw _ (List.mem_of_getElem? (i := 17) rfl))) Via.refl hE16 f9 (g := (mkF m 22 #[.val (.ref a1), .val (.int (1 : Int32)), .val (.int (3 : Int32)), .val .null, .val (.int (3 : Int32)), .unset, .unset, .unset] [(.ref a1), (.int (3 : Int32))])) rfl rfl (hb hby d9_22)
  obtain ⟨T18, X18, hE18, st18⟩ := getF X17 hx hZ hown (host := "") (Or.inl (hw _ (List.mem_of_getElem? (i := 13) rfl))) Via.refl hE17 f10 (g := (mkF m 29 #[.val (.ref a1), .val (.int (1 : Int32)), .val (.int (3 : Int32)), .val .null, .val (.int (3 : Int32)), .unset, .unset, .unset] [(.ref a1)])) rfl rfl (hb hby d9_29)
  obtain ⟨T19, X19, hE19, st19⟩ := getF X18 hx hZ hown (host := "") (Or.inl (hw _ (List.mem_of_getElem? (i := 19) rfl))) Via.refl hE18 Fw5 (g := (mkF m 33 #[.val (.ref a1), .val (.int (1 : Int32)), .val (.int (3 : Int32)), .val .null, .val (.int (3 : Int32)), .unset, .unset, .unset] [(.ref a1), (.ref ab)])) rfl rfl (hb hby d9_33)
  have pre20 : ∀ t, Steps p.tables e below (T19.setTop (mkF m 37 #[.val (.ref a1), .val (.int (1 : Int32)), .val (.int (3 : Int32)), .val .null, .val (.int (3 : Int32)), .unset, .unset, .unset] [(.int (fb 3))])) t → Steps p.tables e below (s₁.setTop (entryFrame m #[(.ref a1), (.int (1 : Int32))] 8)) t := by
    intro t kt
    refine pre4 _ ?_
    show Steps p.tables e below (T1.setTop (mkF m 7 #[.val (.ref a1), .val (.int (1 : Int32)), .unset, .unset, .unset, .unset, .unset, .unset] [(.int (3 : Int32)), (.ref a1)])) _
    refine XS.dupX1 X1.here hx rfl (hb hby d9_7) rfl rfl rfl ?_
    show Steps p.tables e below (T1.setTop (mkF m 8 #[.val (.ref a1), .val (.int (1 : Int32)), .unset, .unset, .unset, .unset, .unset, .unset] [(.int (3 : Int32)), (.ref a1), (.int (3 : Int32))])) _
    refine st5 _ ?_
    show Steps p.tables e below (T5.setTop (mkF m 11 #[.val (.ref a1), .val (.int (1 : Int32)), .unset, .unset, .unset, .unset, .unset, .unset] [(.int (3 : Int32))])) _
    refine XS.istoreN X5.here hx rfl (hb hby d9_11) rfl (l' := #[.val (.ref a1), .val (.int (1 : Int32)), .val (.int (3 : Int32)), .unset, .unset, .unset, .unset, .unset]) rfl ?_
    show Steps p.tables e below (T5.setTop (mkF m 12 #[.val (.ref a1), .val (.int (1 : Int32)), .val (.int (3 : Int32)), .unset, .unset, .unset, .unset, .unset] [])) _
    refine XS.aconstNull X5.here hx rfl (hb hby d9_12) ?_
    show Steps p.tables e below (T5.setTop (mkF m 13 #[.val (.ref a1), .val (.int (1 : Int32)), .val (.int (3 : Int32)), .unset, .unset, .unset, .unset, .unset] [.null])) _
    refine XS.astoreN X5.here hx rfl (hb hby d9_13) rfl rfl (l' := #[.val (.ref a1), .val (.int (1 : Int32)), .val (.int (3 : Int32)), .val .null, .unset, .unset, .unset, .unset]) rfl ?_
    show Steps p.tables e below (T5.setTop (mkF m 14 #[.val (.ref a1), .val (.int (1 : Int32)), .val (.int (3 : Int32)), .val .null, .unset, .unset, .unset, .unset] [])) _
    refine XS.iloadN X5.here hx rfl (hb hby d9_14) rfl ?_
    show Steps p.tables e below (T5.setTop (mkF m 15 #[.val (.ref a1), .val (.int (1 : Int32)), .val (.int (3 : Int32)), .val .null, .unset, .unset, .unset, .unset] [(.int (3 : Int32))])) _
    refine XS.istore X5.here hx rfl (hb hby d9_15) rfl (l' := #[.val (.ref a1), .val (.int (1 : Int32)), .val (.int (3 : Int32)), .val .null, .val (.int (3 : Int32)), .unset, .unset, .unset]) rfl ?_
    show Steps p.tables e below (T5.setTop (mkF m 17 #[.val (.ref a1), .val (.int (1 : Int32)), .val (.int (3 : Int32)), .val .null, .val (.int (3 : Int32)), .unset, .unset, .unset] [])) _
    refine XS.aloadN X5.here hx rfl (hb hby d9_17) rfl rfl ?_
    show Steps p.tables e below (T5.setTop (mkF m 18 #[.val (.ref a1), .val (.int (1 : Int32)), .val (.int (3 : Int32)), .val .null, .val (.int (3 : Int32)), .unset, .unset, .unset] [(.ref a1)])) _
    refine st16 _ ?_
    show Steps p.tables e below (T16.setTop (mkF m 21 #[.val (.ref a1), .val (.int (1 : Int32)), .val (.int (3 : Int32)), .val .null, .val (.int (3 : Int32)), .unset, .unset, .unset] [(.int (3 : Int32))])) _
    refine XS.aloadN X16.here hx rfl (hb hby d9_21) rfl rfl ?_
    show Steps p.tables e below (T16.setTop (mkF m 22 #[.val (.ref a1), .val (.int (1 : Int32)), .val (.int (3 : Int32)), .val .null, .val (.int (3 : Int32)), .unset, .unset, .unset] [(.ref a1), (.int (3 : Int32))])) _
    refine st17 _ ?_
    show Steps p.tables e below (T17.setTop (mkF m 25 #[.val (.ref a1), .val (.int (1 : Int32)), .val (.int (3 : Int32)), .val .null, .val (.int (3 : Int32)), .unset, .unset, .unset] [(.int ie), (.int (3 : Int32))])) _
    refine XS.icmpNo X17.here hx rfl (hb hby d9_25) rfl (XT.ii_ge_f (own_lt hoe (by decide))) ?_
    show Steps p.tables e below (T17.setTop (mkF m 28 #[.val (.ref a1), .val (.int (1 : Int32)), .val (.int (3 : Int32)), .val .null, .val (.int (3 : Int32)), .unset, .unset, .unset] [])) _
    refine XS.aloadN X17.here hx rfl (hb hby d9_28) rfl rfl ?_
    show Steps p.tables e below (T17.setTop (mkF m 29 #[.val (.ref a1), .val (.int (1 : Int32)), .val (.int (3 : Int32)), .val .null, .val (.int (3 : Int32)), .unset, .unset, .unset] [(.ref a1)])) _
    refine st18 _ ?_
    show Steps p.tables e below (T18.setTop (mkF m 32 #[.val (.ref a1), .val (.int (1 : Int32)), .val (.int (3 : Int32)), .val .null, .val (.int (3 : Int32)), .unset, .unset, .unset] [(.ref ab)])) _
    refine XS.aloadN X18.here hx rfl (hb hby d9_32) rfl rfl ?_
    show Steps p.tables e below (T18.setTop (mkF m 33 #[.val (.ref a1), .val (.int (1 : Int32)), .val (.int (3 : Int32)), .val .null, .val (.int (3 : Int32)), .unset, .unset, .unset] [(.ref a1), (.ref ab)])) _
    refine st19 _ ?_
    show Steps p.tables e below (T19.setTop (mkF m 36 #[.val (.ref a1), .val (.int (1 : Int32)), .val (.int (3 : Int32)), .val .null, .val (.int (3 : Int32)), .unset, .unset, .unset] [(.int (3 : Int32)), (.ref ab)])) _
    refine owLdB (k := 3) X19 hx hZ hE19 f7 (j := (3 : Int32)) rfl (by decide) (g := (mkF m 36 #[.val (.ref a1), .val (.int (1 : Int32)), .val (.int (3 : Int32)), .val .null, .val (.int (3 : Int32)), .unset, .unset, .unset] [(.int (3 : Int32)), (.ref ab)])) rfl rfl (hb hby d9_36) _ ?_
    exact kt
  have ql21 : (fb 3) = (107 : Int32) := hob.2.2.1
  have pre22 : ∀ t, Steps p.tables e below (T19.setTop (mkF m 37 #[.val (.ref a1), .val (.int (1 : Int32)), .val (.int (3 : Int32)), .val .null, .val (.int (3 : Int32)), .unset, .unset, .unset] [(.int (107 : Int32))])) t → Steps p.tables e below (s₁.setTop (entryFrame m #[(.ref a1), (.int (1 : Int32))] 8)) t := by
    intro t kt
    refine pre20 _ ?_
    rw [ql21]
    exact kt
  obtain ⟨T23, X23, hE23, st23⟩ := getF X19 hx hZ hown (host := "") (Or.inl (hw _ (List.mem_of_getElem? (i := 13) rfl))) Via.refl hE19 f10 (g := (mkF m 43 #[.val (.ref a1), .val (.int (1 : Int32)), .val (.int (3 : Int32)), .val .null, .val (.int (3 : Int32)), .unset, .unset, .unset] [(.ref a1)])) rfl rfl (hb hby d9_43)
  obtain ⟨T24, X24, hE24, st24⟩ := getF X23 hx hZ hown (host := "") (Or.inl (hw _ (List.mem_of_getElem? (i := 19) rfl))) Via.refl hE23 Fw5 (g := (mkF m 47 #[.val (.ref a1), .val (.int (1 : Int32)), .val (.int (3 : Int32)), .val .null, .val (.int (3 : Int32)), .unset, .unset, .unset] [(.ref a1), (.ref ab)])) rfl rfl (hb hby d9_47)
  have pre25 : ∀ t, Steps p.tables e below (T24.setTop (mkF m 51 #[.val (.ref a1), .val (.int (1 : Int32)), .val (.int (3 : Int32)), .val .null, .val (.int (3 : Int32)), .unset, .unset, .unset] [(.int (fb 3))])) t → Steps p.tables e below (s₁.setTop (entryFrame m #[(.ref a1), (.int (1 : Int32))] 8)) t := by
    intro t kt
    refine pre22 _ ?_
    show Steps p.tables e below (T19.setTop (mkF m 37 #[.val (.ref a1), .val (.int (1 : Int32)), .val (.int (3 : Int32)), .val .null, .val (.int (3 : Int32)), .unset, .unset, .unset] [(.int (107 : Int32))])) _
    refine XS.bipush X19.here hx rfl (hb hby d9_37) ?_
    show Steps p.tables e below (T19.setTop (mkF m 39 #[.val (.ref a1), .val (.int (1 : Int32)), .val (.int (3 : Int32)), .val .null, .val (.int (3 : Int32)), .unset, .unset, .unset] [(.int (34 : Int32)), (.int (107 : Int32))])) _
    refine XS.icmpNo X19.here hx rfl (hb hby d9_39) rfl (XT.ii_eq_f (by decide)) ?_
    show Steps p.tables e below (T19.setTop (mkF m 42 #[.val (.ref a1), .val (.int (1 : Int32)), .val (.int (3 : Int32)), .val .null, .val (.int (3 : Int32)), .unset, .unset, .unset] [])) _
    refine XS.aloadN X19.here hx rfl (hb hby d9_42) rfl rfl ?_
    show Steps p.tables e below (T19.setTop (mkF m 43 #[.val (.ref a1), .val (.int (1 : Int32)), .val (.int (3 : Int32)), .val .null, .val (.int (3 : Int32)), .unset, .unset, .unset] [(.ref a1)])) _
    refine st23 _ ?_
    show Steps p.tables e below (T23.setTop (mkF m 46 #[.val (.ref a1), .val (.int (1 : Int32)), .val (.int (3 : Int32)), .val .null, .val (.int (3 : Int32)), .unset, .unset, .unset] [(.ref ab)])) _
    refine XS.aloadN X23.here hx rfl (hb hby d9_46) rfl rfl ?_
    show Steps p.tables e below (T23.setTop (mkF m 47 #[.val (.ref a1), .val (.int (1 : Int32)), .val (.int (3 : Int32)), .val .null, .val (.int (3 : Int32)), .unset, .unset, .unset] [(.ref a1), (.ref ab)])) _
    refine st24 _ ?_
    show Steps p.tables e below (T24.setTop (mkF m 50 #[.val (.ref a1), .val (.int (1 : Int32)), .val (.int (3 : Int32)), .val .null, .val (.int (3 : Int32)), .unset, .unset, .unset] [(.int (3 : Int32)), (.ref ab)])) _
    refine owLdB (k := 3) X24 hx hZ hE24 f7 (j := (3 : Int32)) rfl (by decide) (g := (mkF m 50 #[.val (.ref a1), .val (.int (1 : Int32)), .val (.int (3 : Int32)), .val .null, .val (.int (3 : Int32)), .unset, .unset, .unset] [(.int (3 : Int32)), (.ref ab)])) rfl rfl (hb hby d9_50) _ ?_
    exact kt
  have ql26 : (fb 3) = (107 : Int32) := hob.2.2.1
  have pre27 : ∀ t, Steps p.tables e below (T24.setTop (mkF m 51 #[.val (.ref a1), .val (.int (1 : Int32)), .val (.int (3 : Int32)), .val .null, .val (.int (3 : Int32)), .unset, .unset, .unset] [(.int (107 : Int32))])) t → Steps p.tables e below (s₁.setTop (entryFrame m #[(.ref a1), (.int (1 : Int32))] 8)) t := by
    intro t kt
    refine pre25 _ ?_
    rw [ql26]
    exact kt
  obtain ⟨T28, X28, hE28, st28⟩ := getF X24 hx hZ hown (host := "") (Or.inl (hw _ (List.mem_of_getElem? (i := 19) rfl))) Via.refl hE24 Fw5 (g := (mkF m 147 #[.val (.ref a1), .val (.int (1 : Int32)), .val (.int (3 : Int32)), .val .null, .val (.int (3 : Int32)), .val (.int (107 : Int32)), .unset, .unset] [(.ref a1), (.ref a1)])) rfl rfl (hb hby d9_147)
  have pre29 : ∀ t, Steps p.tables e below (T28.setTop (mkF m 152 #[.val (.ref a1), .val (.int (1 : Int32)), .val (.int (3 : Int32)), .val .null, .val (.int (3 : Int32)), .val (.int (107 : Int32)), .unset, .unset] [(.int ((3 : Int32) + (1 : Int32))), (.ref a1)])) t → Steps p.tables e below (s₁.setTop (entryFrame m #[(.ref a1), (.int (1 : Int32))] 8)) t := by
    intro t kt
    refine pre27 _ ?_
    show Steps p.tables e below (T24.setTop (mkF m 51 #[.val (.ref a1), .val (.int (1 : Int32)), .val (.int (3 : Int32)), .val .null, .val (.int (3 : Int32)), .unset, .unset, .unset] [(.int (107 : Int32))])) _
    refine XS.istore X24.here hx rfl (hb hby d9_51) rfl (l' := #[.val (.ref a1), .val (.int (1 : Int32)), .val (.int (3 : Int32)), .val .null, .val (.int (3 : Int32)), .val (.int (107 : Int32)), .unset, .unset]) rfl ?_
    show Steps p.tables e below (T24.setTop (mkF m 53 #[.val (.ref a1), .val (.int (1 : Int32)), .val (.int (3 : Int32)), .val .null, .val (.int (3 : Int32)), .val (.int (107 : Int32)), .unset, .unset] [])) _
    refine XS.iload X24.here hx rfl (hb hby d9_53) rfl ?_
    show Steps p.tables e below (T24.setTop (mkF m 55 #[.val (.ref a1), .val (.int (1 : Int32)), .val (.int (3 : Int32)), .val .null, .val (.int (3 : Int32)), .val (.int (107 : Int32)), .unset, .unset] [(.int (107 : Int32))])) _
    refine XS.bipush X24.here hx rfl (hb hby d9_55) ?_
    show Steps p.tables e below (T24.setTop (mkF m 57 #[.val (.ref a1), .val (.int (1 : Int32)), .val (.int (3 : Int32)), .val .null, .val (.int (3 : Int32)), .val (.int (107 : Int32)), .unset, .unset] [(.int (92 : Int32)), (.int (107 : Int32))])) _
    refine XS.icmpYes X24.here hx rfl (pc0 := 57) (pc' := 122) rfl (hb hby d9_57) rfl (XT.ii_ne_t (by decide)) (by decide) (by decide) ?_
    show Steps p.tables e below (T24.setTop (mkF m 122 #[.val (.ref a1), .val (.int (1 : Int32)), .val (.int (3 : Int32)), .val .null, .val (.int (3 : Int32)), .val (.int (107 : Int32)), .unset, .unset] [])) _
    refine XS.iload X24.here hx rfl (hb hby d9_122) rfl ?_
    show Steps p.tables e below (T24.setTop (mkF m 124 #[.val (.ref a1), .val (.int (1 : Int32)), .val (.int (3 : Int32)), .val .null, .val (.int (3 : Int32)), .val (.int (107 : Int32)), .unset, .unset] [(.int (107 : Int32))])) _
    refine XS.ifNo X24.here hx rfl (hb hby d9_124) rfl (XT.i0_lt_f (by decide)) ?_
    show Steps p.tables e below (T24.setTop (mkF m 127 #[.val (.ref a1), .val (.int (1 : Int32)), .val (.int (3 : Int32)), .val .null, .val (.int (3 : Int32)), .val (.int (107 : Int32)), .unset, .unset] [])) _
    refine XS.iload X24.here hx rfl (hb hby d9_127) rfl ?_
    show Steps p.tables e below (T24.setTop (mkF m 129 #[.val (.ref a1), .val (.int (1 : Int32)), .val (.int (3 : Int32)), .val .null, .val (.int (3 : Int32)), .val (.int (107 : Int32)), .unset, .unset] [(.int (107 : Int32))])) _
    refine XS.bipush X24.here hx rfl (hb hby d9_129) ?_
    show Steps p.tables e below (T24.setTop (mkF m 131 #[.val (.ref a1), .val (.int (1 : Int32)), .val (.int (3 : Int32)), .val .null, .val (.int (3 : Int32)), .val (.int (107 : Int32)), .unset, .unset] [(.int (32 : Int32)), (.int (107 : Int32))])) _
    refine XS.icmpYes X24.here hx rfl (pc0 := 131) (pc' := 145) rfl (hb hby d9_131) rfl (XT.ii_ge_t (by decide)) (by decide) (by decide) ?_
    show Steps p.tables e below (T24.setTop (mkF m 145 #[.val (.ref a1), .val (.int (1 : Int32)), .val (.int (3 : Int32)), .val .null, .val (.int (3 : Int32)), .val (.int (107 : Int32)), .unset, .unset] [])) _
    refine XS.aloadN X24.here hx rfl (hb hby d9_145) rfl rfl ?_
    show Steps p.tables e below (T24.setTop (mkF m 146 #[.val (.ref a1), .val (.int (1 : Int32)), .val (.int (3 : Int32)), .val .null, .val (.int (3 : Int32)), .val (.int (107 : Int32)), .unset, .unset] [(.ref a1)])) _
    refine XS.dup X24.here hx rfl (hb hby d9_146) rfl rfl ?_
    show Steps p.tables e below (T24.setTop (mkF m 147 #[.val (.ref a1), .val (.int (1 : Int32)), .val (.int (3 : Int32)), .val .null, .val (.int (3 : Int32)), .val (.int (107 : Int32)), .unset, .unset] [(.ref a1), (.ref a1)])) _
    refine st28 _ ?_
    show Steps p.tables e below (T28.setTop (mkF m 150 #[.val (.ref a1), .val (.int (1 : Int32)), .val (.int (3 : Int32)), .val .null, .val (.int (3 : Int32)), .val (.int (107 : Int32)), .unset, .unset] [(.int (3 : Int32)), (.ref a1)])) _
    refine XS.iconst X28.here hx rfl (hb hby d9_150) ?_
    show Steps p.tables e below (T28.setTop (mkF m 151 #[.val (.ref a1), .val (.int (1 : Int32)), .val (.int (3 : Int32)), .val .null, .val (.int (3 : Int32)), .val (.int (107 : Int32)), .unset, .unset] [(.int (1 : Int32)), (.int (3 : Int32)), (.ref a1)])) _
    refine XS.iadd X28.here hx rfl (hb hby d9_151) rfl ?_
    exact kt
  have ql30 : ((3 : Int32) + (1 : Int32)) = (4 : Int32) := (by decide)
  have pre31 : ∀ t, Steps p.tables e below (T28.setTop (mkF m 152 #[.val (.ref a1), .val (.int (1 : Int32)), .val (.int (3 : Int32)), .val .null, .val (.int (3 : Int32)), .val (.int (107 : Int32)), .unset, .unset] [(.int (4 : Int32)), (.ref a1)])) t → Steps p.tables e below (s₁.setTop (entryFrame m #[(.ref a1), (.int (1 : Int32))] 8)) t := by
    intro t kt
    refine pre29 _ ?_
    rw [ql30]
    exact kt
  obtain ⟨T32, gh32, X32, hE32, W32, st32⟩ := putF X28 hx hZ hown (host := "") (Or.inl (hw _ (List.mem_of_getElem? (i := 19) rfl))) Via.refl hE28 Fw5 f6 (Or.inl (hw _ (List.mem_of_getElem? (i := 20) rfl))) (hw _ (List.mem_of_getElem? (i := 3) rfl)) (ty := .int) (by decide) rfl rfl (g := (mkF m 152 #[.val (.ref a1), .val (.int (1 : Int32)), .val (.int (3 : Int32)), .val .null, .val (.int (3 : Int32)), .val (.int (107 : Int32)), .unset, .unset] [(.int (4 : Int32)), (.ref a1)])) rfl rfl (hb hby d9_152)
  have Fw32 := Fw5.same W32
  have f33 := f6.wr W32
  have f34 := f7.other W32 (Ne.symm n1b)
  have f36 := f9.other W32 (Or.inr (slot_ne (Or.inr (hw _ (List.mem_of_getElem? (i := 18) rfl))) (Or.inl (hw _ (List.mem_of_getElem? (i := 20) rfl))) (by decide) (t := .int) (t' := .int) (by decide) (by decide)))
  have f37 := f10.other W32 (Or.inr (slot_ne (Or.inr (hw _ (List.mem_of_getElem? (i := 14) rfl))) (Or.inl (hw _ (List.mem_of_getElem? (i := 20) rfl))) (by decide) (t := (.array .byte)) (t' := .int) (by decide) (by decide)))
  have f38 := f11.other W32 (Or.inr (slot_ne (Or.inl (hw _ (List.mem_of_getElem? (i := 12) rfl))) (Or.inl (hw _ (List.mem_of_getElem? (i := 20) rfl))) (by decide) (t := .boolean) (t' := .int) (by decide) (by decide)))
  have f39 := f12.wr W32 g_a1
  have Z40 := Nat.le_trans Z13 (Keep.of_wr W32).1
  have N41 := Fr.snoc X32 N14 g_a1
  have K42 := K15.wr W32 (Or.inl (List.mem_of_getElem? (i := 0) rfl))
  obtain ⟨T43, X43, hE43, st43⟩ := getF X32 hx hZ hown (host := "") (Or.inl (hw _ (List.mem_of_getElem? (i := 19) rfl))) Via.refl hE32 Fw32 (g := (mkF m 18 #[.val (.ref a1), .val (.int (1 : Int32)), .val (.int (3 : Int32)), .val .null, .val (.int (3 : Int32)), .val (.int (107 : Int32)), .unset, .unset] [(.ref a1)])) rfl rfl (hb hby d9_18)
  obtain ⟨T44, X44, hE44, st44⟩ := getF X43 hx hZ hown (host := "") (Or.inl (hw _ (List.mem_of_getElem? (i := 17) rfl))) Via.refl hE43 f36 (g := (mkF m 22 #[.val (.ref a1), .val (.int (1 : Int32)), .val (.int (3 : Int32)), .val .null, .val (.int (3 : Int32)), .val (.int (107 : Int32)), .unset, .unset] [(.ref a1), (.int (4 : Int32))])) rfl rfl (hb hby d9_22)
  obtain ⟨T45, X45, hE45, st45⟩ := getF X44 hx hZ hown (host := "") (Or.inl (hw _ (List.mem_of_getElem? (i := 13) rfl))) Via.refl hE44 f37 (g := (mkF m 29 #[.val (.ref a1), .val (.int (1 : Int32)), .val (.int (3 : Int32)), .val .null, .val (.int (3 : Int32)), .val (.int (107 : Int32)), .unset, .unset] [(.ref a1)])) rfl rfl (hb hby d9_29)
  obtain ⟨T46, X46, hE46, st46⟩ := getF X45 hx hZ hown (host := "") (Or.inl (hw _ (List.mem_of_getElem? (i := 19) rfl))) Via.refl hE45 Fw32 (g := (mkF m 33 #[.val (.ref a1), .val (.int (1 : Int32)), .val (.int (3 : Int32)), .val .null, .val (.int (3 : Int32)), .val (.int (107 : Int32)), .unset, .unset] [(.ref a1), (.ref ab)])) rfl rfl (hb hby d9_33)
  have pre47 : ∀ t, Steps p.tables e below (T46.setTop (mkF m 37 #[.val (.ref a1), .val (.int (1 : Int32)), .val (.int (3 : Int32)), .val .null, .val (.int (3 : Int32)), .val (.int (107 : Int32)), .unset, .unset] [(.int (fb 4))])) t → Steps p.tables e below (s₁.setTop (entryFrame m #[(.ref a1), (.int (1 : Int32))] 8)) t := by
    intro t kt
    refine pre31 _ ?_
    show Steps p.tables e below (T28.setTop (mkF m 152 #[.val (.ref a1), .val (.int (1 : Int32)), .val (.int (3 : Int32)), .val .null, .val (.int (3 : Int32)), .val (.int (107 : Int32)), .unset, .unset] [(.int (4 : Int32)), (.ref a1)])) _
    refine st32 _ ?_
    show Steps p.tables e below (T32.setTop (mkF m 155 #[.val (.ref a1), .val (.int (1 : Int32)), .val (.int (3 : Int32)), .val .null, .val (.int (3 : Int32)), .val (.int (107 : Int32)), .unset, .unset] [])) _
    refine XS.goto X32.here hx rfl (pc0 := 155) (pc' := 17) rfl (hb hby d9_155) (by decide) (by decide) ?_
    show Steps p.tables e below (T32.setTop (mkF m 17 #[.val (.ref a1), .val (.int (1 : Int32)), .val (.int (3 : Int32)), .val .null, .val (.int (3 : Int32)), .val (.int (107 : Int32)), .unset, .unset] [])) _
    refine XS.aloadN X32.here hx rfl (hb hby d9_17) rfl rfl ?_
    show Steps p.tables e below (T32.setTop (mkF m 18 #[.val (.ref a1), .val (.int (1 : Int32)), .val (.int (3 : Int32)), .val .null, .val (.int (3 : Int32)), .val (.int (107 : Int32)), .unset, .unset] [(.ref a1)])) _
    refine st43 _ ?_
    show Steps p.tables e below (T43.setTop (mkF m 21 #[.val (.ref a1), .val (.int (1 : Int32)), .val (.int (3 : Int32)), .val .null, .val (.int (3 : Int32)), .val (.int (107 : Int32)), .unset, .unset] [(.int (4 : Int32))])) _
    refine XS.aloadN X43.here hx rfl (hb hby d9_21) rfl rfl ?_
    show Steps p.tables e below (T43.setTop (mkF m 22 #[.val (.ref a1), .val (.int (1 : Int32)), .val (.int (3 : Int32)), .val .null, .val (.int (3 : Int32)), .val (.int (107 : Int32)), .unset, .unset] [(.ref a1), (.int (4 : Int32))])) _
    refine st44 _ ?_
    show Steps p.tables e below (T44.setTop (mkF m 25 #[.val (.ref a1), .val (.int (1 : Int32)), .val (.int (3 : Int32)), .val .null, .val (.int (3 : Int32)), .val (.int (107 : Int32)), .unset, .unset] [(.int ie), (.int (4 : Int32))])) _
    refine XS.icmpNo X44.here hx rfl (hb hby d9_25) rfl (XT.ii_ge_f (own_lt hoe (by decide))) ?_
    show Steps p.tables e below (T44.setTop (mkF m 28 #[.val (.ref a1), .val (.int (1 : Int32)), .val (.int (3 : Int32)), .val .null, .val (.int (3 : Int32)), .val (.int (107 : Int32)), .unset, .unset] [])) _
    refine XS.aloadN X44.here hx rfl (hb hby d9_28) rfl rfl ?_
    show Steps p.tables e below (T44.setTop (mkF m 29 #[.val (.ref a1), .val (.int (1 : Int32)), .val (.int (3 : Int32)), .val .null, .val (.int (3 : Int32)), .val (.int (107 : Int32)), .unset, .unset] [(.ref a1)])) _
    refine st45 _ ?_
    show Steps p.tables e below (T45.setTop (mkF m 32 #[.val (.ref a1), .val (.int (1 : Int32)), .val (.int (3 : Int32)), .val .null, .val (.int (3 : Int32)), .val (.int (107 : Int32)), .unset, .unset] [(.ref ab)])) _
    refine XS.aloadN X45.here hx rfl (hb hby d9_32) rfl rfl ?_
    show Steps p.tables e below (T45.setTop (mkF m 33 #[.val (.ref a1), .val (.int (1 : Int32)), .val (.int (3 : Int32)), .val .null, .val (.int (3 : Int32)), .val (.int (107 : Int32)), .unset, .unset] [(.ref a1), (.ref ab)])) _
    refine st46 _ ?_
    show Steps p.tables e below (T46.setTop (mkF m 36 #[.val (.ref a1), .val (.int (1 : Int32)), .val (.int (3 : Int32)), .val .null, .val (.int (3 : Int32)), .val (.int (107 : Int32)), .unset, .unset] [(.int (4 : Int32)), (.ref ab)])) _
    refine owLdB (k := 4) X46 hx hZ hE46 f34 (j := (4 : Int32)) rfl (by decide) (g := (mkF m 36 #[.val (.ref a1), .val (.int (1 : Int32)), .val (.int (3 : Int32)), .val .null, .val (.int (3 : Int32)), .val (.int (107 : Int32)), .unset, .unset] [(.int (4 : Int32)), (.ref ab)])) rfl rfl (hb hby d9_36) _ ?_
    exact kt
  have ql48 : (fb 4) = (34 : Int32) := hob.2.2.2.1
  have pre49 : ∀ t, Steps p.tables e below (T46.setTop (mkF m 37 #[.val (.ref a1), .val (.int (1 : Int32)), .val (.int (3 : Int32)), .val .null, .val (.int (3 : Int32)), .val (.int (107 : Int32)), .unset, .unset] [(.int (34 : Int32))])) t → Steps p.tables e below (s₁.setTop (entryFrame m #[(.ref a1), (.int (1 : Int32))] 8)) t := by
    intro t kt
    refine pre47 _ ?_
    rw [ql48]
    exact kt
  obtain ⟨T50, X50, hE50, st50⟩ := getF X46 hx hZ hown (host := "") (Or.inl (hw _ (List.mem_of_getElem? (i := 19) rfl))) Via.refl hE46 Fw32 (g := (mkF m 159 #[.val (.ref a1), .val (.int (1 : Int32)), .val (.int (3 : Int32)), .val .null, .val (.int (3 : Int32)), .val (.int (107 : Int32)), .unset, .unset] [(.ref a1)])) rfl rfl (hb hby d9_159)
  obtain ⟨T51, X51, hE51, st51⟩ := getF X50 hx hZ hown (host := "") (Or.inl (hw _ (List.mem_of_getElem? (i := 17) rfl))) Via.refl hE50 f36 (g := (mkF m 163 #[.val (.ref a1), .val (.int (1 : Int32)), .val (.int (3 : Int32)), .val .null, .val (.int (3 : Int32)), .val (.int (107 : Int32)), .unset, .unset] [(.ref a1), (.int (4 : Int32))])) rfl rfl (hb hby d9_163)
  obtain ⟨T52, X52, hE52, st52⟩ := getF X51 hx hZ hown (host := "") (Or.inl (hw _ (List.mem_of_getElem? (i := 13) rfl))) Via.refl hE51 f37 (g := (mkF m 191 #[.val (.ref a1), .val (.int (1 : Int32)), .val (.int (3 : Int32)), .val .null, .val (.int (3 : Int32)), .val .null, .unset, .unset] [(.ref a1)])) rfl rfl (hb hby d9_191)
  obtain ⟨T53, X53, hE53, st53⟩ := getF X52 hx hZ hown (host := "") (Or.inl (hw _ (List.mem_of_getElem? (i := 19) rfl))) Via.refl hE52 Fw32 (g := (mkF m 196 #[.val (.ref a1), .val (.int (1 : Int32)), .val (.int (3 : Int32)), .val .null, .val (.int (3 : Int32)), .val .null, .unset, .unset] [(.ref a1), (.int (3 : Int32)), (.ref ab)])) rfl rfl (hb hby d9_196)
  obtain ⟨_, _, ⟨T54, L54, k54, n54⟩, -, X54, ⟨Lc54, hQ54, l54, y54, z54⟩, st54⟩ := Jvm.LawKit.callS X53 hx (y := (⟨"com/example/fama/fama/table/TableLines", "decode", "([BII)Ljava/lang/String;"⟩ : MethodName)) hown (mvT hZ (hw _ (List.mem_of_getElem? (i := 52) rfl))) (mvT hZ (hw _ (List.mem_of_getElem? (i := 53) rfl))) (mvT hZ (hw _ (List.mem_of_getElem? (i := 54) rfl))) (mvT hZ (hw _ (List.mem_of_getElem? (i := 55) rfl))) (by decide) (backOf (W := 0) (rm10 l Z a0 hw [] ab fb u8 cs fmv gh32 n0 Z40 f34 hob f39 hst) hZ (hw _ (List.mem_of_getElem? (i := 55) rfl)) (hw _ (List.mem_of_getElem? (i := 54) rfl)) (by decide) (by decide)) (g := (mkF m 199 #[.val (.ref a1), .val (.int (1 : Int32)), .val (.int (3 : Int32)), .val .null, .val (.int (3 : Int32)), .val .null, .unset, .unset] [(.int (4 : Int32)), (.int (3 : Int32)), (.ref ab)])) rfl (by rw [hml]; rfl) (argsL := [(.ref ab), (.int (3 : Int32)), (.int (4 : Int32))]) (rest := []) (lenOf pd_11 rfl) rfl (by show 2 * 0 + _ ≤ _; exact Nat.le_of_eq rfl) (hb hby d9_199) (fun _ _ => ⟨rfl, hE53, (by decide : 0 + 2 ≤ _), (by decide : 0 + 5 ≤ _)⟩)
  dsimp only [Pt.U, Pt.locs, Pt.cells, Pt.slots] at X54 l54 y54 z54 st54 hQ54
  subst l54 y54 z54
  obtain ⟨ks, bb, rfl, N54q, K54, h_ks, h_bb, p54_E, p54_v, p54_c, p54_A⟩ := hQ54
  have N54 := Fr.app N41 N54q
  have ne_a1_ks : a1 ≠ ks := Nat.ne_of_lt (Nat.lt_of_lt_of_le f33.lt h_ks)
  have ne_ab_ks : ab ≠ ks := Nat.ne_of_lt (Nat.lt_of_lt_of_le f34.lt h_ks)
  have g_ks : n0 ≤ ks := Nat.le_trans Z40 h_ks
  have sz_ks : h0.size ≤ ks := Nat.le_trans K42.1 h_ks
  have ne_a1_bb : a1 ≠ bb := Nat.ne_of_lt (Nat.lt_of_lt_of_le f33.lt h_bb)
  have ne_ab_bb : ab ≠ bb := Nat.ne_of_lt (Nat.lt_of_lt_of_le f34.lt h_bb)
  have g_bb : n0 ≤ bb := Nat.le_trans Z40 h_bb
  have sz_bb : h0.size ≤ bb := Nat.le_trans K42.1 h_bb
  have f55 := f33.keep K54
  have f56 := f34.keep K54 nin0
  have f57 := Fw32.keep K54 nin0
  have f58 := f36.keep K54 nin0
  have f59 := f37.keep K54 nin0
  have f60 := f38.keep K54 nin0
  have f61 := f39.keep K54 all0
  have Z62 := Nat.le_trans Z40 K54.1
  have K63 := K42.trans K54 all0
  obtain ⟨T64, X64, hE64, st64⟩ := getF X54 hx hZ hown (host := "") (Or.inl (hw _ (List.mem_of_getElem? (i := 19) rfl))) Via.refl rfl f57 (g := (mkF m 235 #[.val (.ref a1), .val (.int (1 : Int32)), .val (.int (3 : Int32)), .val .null, .val (.int (3 : Int32)), .val (.ref ks), .unset, .unset] [(.ref a1), (.ref a1)])) rfl rfl (hb hby d9_235)
  have pre65 : ∀ t, Steps p.tables e below (T64.setTop (mkF m 240 #[.val (.ref a1), .val (.int (1 : Int32)), .val (.int (3 : Int32)), .val .null, .val (.int (3 : Int32)), .val (.ref ks), .unset, .unset] [(.int ((4 : Int32) + (1 : Int32))), (.ref a1)])) t → Steps p.tables e below (s₁.setTop (entryFrame m #[(.ref a1), (.int (1 : Int32))] 8)) t := by
    intro t kt
    refine pre49 _ ?_
    show Steps p.tables e below (T46.setTop (mkF m 37 #[.val (.ref a1), .val (.int (1 : Int32)), .val (.int (3 : Int32)), .val .null, .val (.int (3 : Int32)), .val (.int (107 : Int32)), .unset, .unset] [(.int (34 : Int32))])) _
    refine XS.bipush X46.here hx rfl (hb hby d9_37) ?_
    show Steps p.tables e below (T46.setTop (mkF m 39 #[.val (.ref a1), .val (.int (1 : Int32)), .val (.int (3 : Int32)), .val .null, .val (.int (3 : Int32)), .val (.int (107 : Int32)), .unset, .unset] [(.int (34 : Int32)), (.int (34 : Int32))])) _
    refine XS.icmpYes X46.here hx rfl (pc0 := 39) (pc' := 158) rfl (hb hby d9_39) rfl (XT.ii_eq_t (by decide)) (by decide) (by decide) ?_
    show Steps p.tables e below (T46.setTop (mkF m 158 #[.val (.ref a1), .val (.int (1 : Int32)), .val (.int (3 : Int32)), .val .null, .val (.int (3 : Int32)), .val (.int (107 : Int32)), .unset, .unset] [])) _
    refine XS.aloadN X46.here hx rfl (hb hby d9_158) rfl rfl ?_
    show Steps p.tables e below (T46.setTop (mkF m 159 #[.val (.ref a1), .val (.int (1 : Int32)), .val (.int (3 : Int32)), .val .null, .val (.int (3 : Int32)), .val (.int (107 : Int32)), .unset, .unset] [(.ref a1)])) _
    refine st50 _ ?_
    show Steps p.tables e below (T50.setTop (mkF m 162 #[.val (.ref a1), .val (.int (1 : Int32)), .val (.int (3 : Int32)), .val .null, .val (.int (3 : Int32)), .val (.int (107 : Int32)), .unset, .unset] [(.int (4 : Int32))])) _
    refine XS.aloadN X50.here hx rfl (hb hby d9_162) rfl rfl ?_
    show Steps p.tables e below (T50.setTop (mkF m 163 #[.val (.ref a1), .val (.int (1 : Int32)), .val (.int (3 : Int32)), .val .null, .val (.int (3 : Int32)), .val (.int (107 : Int32)), .unset, .unset] [(.ref a1), (.int (4 : Int32))])) _
    refine st51 _ ?_
    show Steps p.tables e below (T51.setTop (mkF m 166 #[.val (.ref a1), .val (.int (1 : Int32)), .val (.int (3 : Int32)), .val .null, .val (.int (3 : Int32)), .val (.int (107 : Int32)), .unset, .unset] [(.int ie), (.int (4 : Int32))])) _
    refine XS.icmpYes X51.here hx rfl (pc0 := 166) (pc' := 179) rfl (hb hby d9_166) rfl (XT.ii_ne_t (own_ne hoe (by decide))) (by decide) (by decide) ?_
    show Steps p.tables e below (T51.setTop (mkF m 179 #[.val (.ref a1), .val (.int (1 : Int32)), .val (.int (3 : Int32)), .val .null, .val (.int (3 : Int32)), .val (.int (107 : Int32)), .unset, .unset] [])) _
    refine XS.aconstNull X51.here hx rfl (hb hby d9_179) ?_
    show Steps p.tables e below (T51.setTop (mkF m 180 #[.val (.ref a1), .val (.int (1 : Int32)), .val (.int (3 : Int32)), .val .null, .val (.int (3 : Int32)), .val (.int (107 : Int32)), .unset, .unset] [.null])) _
    refine XS.astore X51.here hx rfl (hb hby d9_180) rfl rfl (l' := #[.val (.ref a1), .val (.int (1 : Int32)), .val (.int (3 : Int32)), .val .null, .val (.int (3 : Int32)), .val .null, .unset, .unset]) rfl ?_
    show Steps p.tables e below (T51.setTop (mkF m 182 #[.val (.ref a1), .val (.int (1 : Int32)), .val (.int (3 : Int32)), .val .null, .val (.int (3 : Int32)), .val .null, .unset, .unset] [])) _
    refine XS.iloadN X51.here hx rfl (hb hby d9_182) rfl ?_
    show Steps p.tables e below (T51.setTop (mkF m 183 #[.val (.ref a1), .val (.int (1 : Int32)), .val (.int (3 : Int32)), .val .null, .val (.int (3 : Int32)), .val .null, .unset, .unset] [(.int (1 : Int32))])) _
    refine XS.ifNo X51.here hx rfl (hb hby d9_183) rfl (XT.i0_eq_f (by decide)) ?_
    show Steps p.tables e below (T51.setTop (mkF m 186 #[.val (.ref a1), .val (.int (1 : Int32)), .val (.int (3 : Int32)), .val .null, .val (.int (3 : Int32)), .val .null, .unset, .unset] [])) _
    refine XS.aloadN X51.here hx rfl (hb hby d9_186) rfl rfl ?_
    show Steps p.tables e below (T51.setTop (mkF m 187 #[.val (.ref a1), .val (.int (1 : Int32)), .val (.int (3 : Int32)), .val .null, .val (.int (3 : Int32)), .val .null, .unset, .unset] [.null])) _
    refine XS.ifnonnullNo X51.here hx rfl (hb hby d9_187) rfl ?_
    show Steps p.tables e below (T51.setTop (mkF m 190 #[.val (.ref a1), .val (.int (1 : Int32)), .val (.int (3 : Int32)), .val .null, .val (.int (3 : Int32)), .val .null, .unset, .unset] [])) _
    refine XS.aloadN X51.here hx rfl (hb hby d9_190) rfl rfl ?_
    show Steps p.tables e below (T51.setTop (mkF m 191 #[.val (.ref a1), .val (.int (1 : Int32)), .val (.int (3 : Int32)), .val .null, .val (.int (3 : Int32)), .val .null, .unset, .unset] [(.ref a1)])) _
    refine st52 _ ?_
    show Steps p.tables e below (T52.setTop (mkF m 194 #[.val (.ref a1), .val (.int (1 : Int32)), .val (.int (3 : Int32)), .val .null, .val (.int (3 : Int32)), .val .null, .unset, .unset] [(.ref ab)])) _
    refine XS.iloadN X52.here hx rfl (hb hby d9_194) rfl ?_
    show Steps p.tables e below (T52.setTop (mkF m 195 #[.val (.ref a1), .val (.int (1 : Int32)), .val (.int (3 : Int32)), .val .null, .val (.int (3 : Int32)), .val .null, .unset, .unset] [(.int (3 : Int32)), (.ref ab)])) _
    refine XS.aloadN X52.here hx rfl (hb hby d9_195) rfl rfl ?_
    show Steps p.tables e below (T52.setTop (mkF m 196 #[.val (.ref a1), .val (.int (1 : Int32)), .val (.int (3 : Int32)), .val .null, .val (.int (3 : Int32)), .val .null, .unset, .unset] [(.ref a1), (.int (3 : Int32)), (.ref ab)])) _
    refine st53 _ ?_
    show Steps p.tables e below (T53.setTop (mkF m 199 #[.val (.ref a1), .val (.int (1 : Int32)), .val (.int (3 : Int32)), .val .null, .val (.int (3 : Int32)), .val .null, .unset, .unset] [(.int (4 : Int32)), (.int (3 : Int32)), (.ref ab)])) _
    refine st54 _ ?_
    show Steps p.tables e below (T54.setTop (mkF m 202 #[.val (.ref a1), .val (.int (1 : Int32)), .val (.int (3 : Int32)), .val .null, .val (.int (3 : Int32)), .val .null, .unset, .unset] [(.ref ks)])) _
    refine XS.astore X54.here hx rfl (hb hby d9_202) rfl rfl (l' := #[.val (.ref a1), .val (.int (1 : Int32)), .val (.int (3 : Int32)), .val .null, .val (.int (3 : Int32)), .val (.ref ks), .unset, .unset]) rfl ?_
    show Steps p.tables e below (T54.setTop (mkF m 204 #[.val (.ref a1), .val (.int (1 : Int32)), .val (.int (3 : Int32)), .val .null, .val (.int (3 : Int32)), .val (.ref ks), .unset, .unset] [])) _
    refine XS.goto X54.here hx rfl (pc0 := 204) (pc' := 233) rfl (hb hby d9_204) (by decide) (by decide) ?_
    show Steps p.tables e below (T54.setTop (mkF m 233 #[.val (.ref a1), .val (.int (1 : Int32)), .val (.int (3 : Int32)), .val .null, .val (.int (3 : Int32)), .val (.ref ks), .unset, .unset] [])) _
    refine XS.aloadN X54.here hx rfl (hb hby d9_233) rfl rfl ?_
    show Steps p.tables e below (T54.setTop (mkF m 234 #[.val (.ref a1), .val (.int (1 : Int32)), .val (.int (3 : Int32)), .val .null, .val (.int (3 : Int32)), .val (.ref ks), .unset, .unset] [(.ref a1)])) _
    refine XS.dup X54.here hx rfl (hb hby d9_234) rfl rfl ?_
    show Steps p.tables e below (T54.setTop (mkF m 235 #[.val (.ref a1), .val (.int (1 : Int32)), .val (.int (3 : Int32)), .val .null, .val (.int (3 : Int32)), .val (.ref ks), .unset, .unset] [(.ref a1), (.ref a1)])) _
    refine st64 _ ?_
    show Steps p.tables e below (T64.setTop (mkF m 238 #[.val (.ref a1), .val (.int (1 : Int32)), .val (.int (3 : Int32)), .val .null, .val (.int (3 : Int32)), .val (.ref ks), .unset, .unset] [(.int (4 : Int32)), (.ref a1)])) _
    refine XS.iconst X64.here hx rfl (hb hby d9_238) ?_
    show Steps p.tables e below (T64.setTop (mkF m 239 #[.val (.ref a1), .val (.int (1 : Int32)), .val (.int (3 : Int32)), .val .null, .val (.int (3 : Int32)), .val (.ref ks), .unset, .unset] [(.int (1 : Int32)), (.int (4 : Int32)), (.ref a1)])) _
    refine XS.iadd X64.here hx rfl (hb hby d9_239) rfl ?_
    exact kt
  have ql66 : ((4 : Int32) + (1 : Int32)) = (5 : Int32) := (by decide)
  have pre67 : ∀ t, Steps p.tables e below (T64.setTop (mkF m 240 #[.val (.ref a1), .val (.int (1 : Int32)), .val (.int (3 : Int32)), .val .null, .val (.int (3 : Int32)), .val (.ref ks), .unset, .unset] [(.int (5 : Int32)), (.ref a1)])) t → Steps p.tables e below (s₁.setTop (entryFrame m #[(.ref a1), (.int (1 : Int32))] 8)) t := by
    intro t kt
    refine pre65 _ ?_
    rw [ql66]
    exact kt
  obtain ⟨T68, gh68, X68, hE68, W68, st68⟩ := putF X64 hx hZ hown (host := "") (Or.inl (hw _ (List.mem_of_getElem? (i := 19) rfl))) Via.refl hE64 f57 f55 (Or.inl (hw _ (List.mem_of_getElem? (i := 20) rfl))) (hw _ (List.mem_of_getElem? (i := 3) rfl)) (ty := .int) (by decide) rfl rfl (g := (mkF m 240 #[.val (.ref a1), .val (.int (1 : Int32)), .val (.int (3 : Int32)), .val .null, .val (.int (3 : Int32)), .val (.ref ks), .unset, .unset] [(.int (5 : Int32)), (.ref a1)])) rfl rfl (hb hby d9_240)
  have Fw68 := f57.same W68
  have f69 := f55.wr W68
  have f70 := f56.other W68 (Ne.symm n1b)
  have f72 := f58.other W68 (Or.inr (slot_ne (Or.inr (hw _ (List.mem_of_getElem? (i := 18) rfl))) (Or.inl (hw _ (List.mem_of_getElem? (i := 20) rfl))) (by decide) (t := .int) (t' := .int) (by decide) (by decide)))
  have f73 := f59.other W68 (Or.inr (slot_ne (Or.inr (hw _ (List.mem_of_getElem? (i := 14) rfl))) (Or.inl (hw _ (List.mem_of_getElem? (i := 20) rfl))) (by decide) (t := (.array .byte)) (t' := .int) (by decide) (by decide)))
  have f74 := f60.other W68 (Or.inr (slot_ne (Or.inl (hw _ (List.mem_of_getElem? (i := 12) rfl))) (Or.inl (hw _ (List.mem_of_getElem? (i := 20) rfl))) (by decide) (t := .boolean) (t' := .int) (by decide) (by decide)))
  have f75 := f61.wr W68 g_a1
  have f76 := p54_E.wr W68
  have f77 := p54_v.other W68 (Or.inl (Ne.symm ne_a1_ks))
  have f78 := p54_c.other W68 (Or.inl (Ne.symm ne_a1_ks))
  have f79 := p54_A.other W68 (Ne.symm ne_a1_bb)
  have Z80 := Nat.le_trans Z62 (Keep.of_wr W68).1
  have N81 := Fr.snoc X68 N54 g_a1
  have K82 := K63.wr W68 (Or.inl (List.mem_of_getElem? (i := 0) rfl))
  have pre83 : ∀ t, Steps p.tables e below (T68.setTop (mkF m 245 #[.val (.ref a1), .val (.int (1 : Int32)), .val (.int (3 : Int32)), .val .null, .val (.int (3 : Int32)), .val (.ref ks), .unset, .unset] [(.ref ks)])) t → Steps p.tables e below (s₁.setTop (entryFrame m #[(.ref a1), (.int (1 : Int32))] 8)) t := by
    intro t kt
    refine pre67 _ ?_
    show Steps p.tables e below (T64.setTop (mkF m 240 #[.val (.ref a1), .val (.int (1 : Int32)), .val (.int (3 : Int32)), .val .null, .val (.int (3 : Int32)), .val (.ref ks), .unset, .unset] [(.int (5 : Int32)), (.ref a1)])) _
    refine st68 _ ?_
    show Steps p.tables e below (T68.setTop (mkF m 243 #[.val (.ref a1), .val (.int (1 : Int32)), .val (.int (3 : Int32)), .val .null, .val (.int (3 : Int32)), .val (.ref ks), .unset, .unset] [])) _
    refine XS.aload X68.here hx rfl (hb hby d9_243) rfl rfl ?_
    exact kt
  obtain ⟨fs, hr, hrun, hended, hW, hsame⟩ := X68.leave (v := some (.ref ks)) (fun h => by rw [Bd.returns] at h; cases h)
  refine ⟨_, _, pre83 _ ?_, hrun, hended, _, _, rfl, ?_, ⟨_, rfl⟩, hW, hsame.mono (by decide) (by decide)⟩
  · show Steps p.tables e below (T68.setTop (mkF m 245 #[.val (.ref a1), .val (.int (1 : Int32)), .val (.int (3 : Int32)), .val .null, .val (.int (3 : Int32)), .val (.ref ks), .unset, .unset] [(.ref ks)])) _
    exact X68.areturnOut hx rfl Bd.returns rfl (hb hby d9_245) hr
  · show Q9 Z a1 ab ie fb u8 cs fmv h0 n0 _ T68.heap _
    rw [hE68]
    exact ⟨ks, bb, rfl, N81, K82, sz_ks, sz_bb, f76, f77, f78, f79, f69, Fw68, f72, f73, f74⟩
theorem own_at2 {ie : Int32} {fb : Nat → Int32} {a1 ab : Addr} (hoe : OE ie) (hob : OB fb) : (fn3 a1 ab (2 : Int32) ie fb 2) = (1 : Int32) := by unfold fn3; rw [if_pos (own_lt hoe (by decide)), if_pos hob.2.1]
theorem d8_0 : decode prog_30_method_8_code 0 = .ok (.aload_n 0, 1) := by decide +kernel
theorem d8_1 : decode prog_30_method_8_code 1 = .ok (.invokevirtual 27, 3) := by decide +kernel
theorem d8_4 : decode prog_30_method_8_code 4 = .ok (.aload_n 0, 1) := by decide +kernel
theorem d8_5 : decode prog_30_method_8_code 5 = .ok (.invokevirtual 49, 3) := by decide +kernel
theorem d8_8 : decode prog_30_method_8_code 8 = .ok (.ifCond .ne 10, 3) := by decide +kernel
theorem d8_11 : decode prog_30_method_8_code 11 = .ok (.aload_n 0, 1) := by decide +kernel
theorem d8_12 : decode prog_30_method_8_code 12 = .ok (.ldc 76, 2) := by decide +kernel
theorem d8_14 : decode prog_30_method_8_code 14 = .ok (.invokevirtual 78, 3) := by decide +kernel
theorem d8_17 : decode prog_30_method_8_code 17 = .ok (.athrow, 1) := by decide +kernel
theorem d8_18 : decode prog_30_method_8_code 18 = .ok (.aload_n 0, 1) := by decide +kernel
theorem d8_19 : decode prog_30_method_8_code 19 = .ok (.iload_n 1, 1) := by decide +kernel
theorem d8_20 : decode prog_30_method_8_code 20 = .ok (.invokevirtual 53, 3) := by decide +kernel
theorem d8_23 : decode prog_30_method_8_code 23 = .ok (.astore_n 2, 1) := by decide +kernel
theorem d8_24 : decode prog_30_method_8_code 24 = .ok (.aload_n 0, 1) := by decide +kernel
theorem d8_25 : decode prog_30_method_8_code 25 = .ok (.invokevirtual 27, 3) := by decide +kernel
theorem d8_28 : decode prog_30_method_8_code 28 = .ok (.aload_n 0, 1) := by decide +kernel
theorem d8_29 : decode prog_30_method_8_code 29 = .ok (.bipush 58, 2) := by decide +kernel
theorem d8_31 : decode prog_30_method_8_code 31 = .ok (.ldc 82, 2) := by decide +kernel
theorem d8_33 : decode prog_30_method_8_code 33 = .ok (.invokevirtual 41, 3) := by decide +kernel
theorem d8_36 : decode prog_30_method_8_code 36 = .ok (.aload_n 0, 1) := by decide +kernel
theorem d8_37 : decode prog_30_method_8_code 37 = .ok (.invokevirtual 27, 3) := by decide +kernel
theorem d8_40 : decode prog_30_method_8_code 40 = .ok (.aload_n 2, 1) := by decide +kernel
theorem d8_41 : decode prog_30_method_8_code 41 = .ok (.areturn, 1) := by decide +kernel
theorem pn_8 : plainName "com/example/fama/fama/table/JsonLine" = true := by first | (simp [plainName, overriddenIn]; done) | decide +kernel
theorem ef_8 (m : MethodId) (x0 : Addr) (x1 : Int32) : entryFrame m #[(.ref x0), (.int x1)] 3 = mkF m 0 #[.val (.ref x0), .val (.int x1), .unset] [] := by first | (simp [entryFrame, mkF, argsToLocals, Value.category]; done) | rfl
theorem pd_12 : parseMethodDescriptor "()Z" = some ⟨[], some .boolean⟩ := by decide +kernel
theorem pd_13 : parseMethodDescriptor "(Z)Ljava/lang/String;" = some ⟨[.boolean], some (.object "java/lang/String")⟩ := by decide +kernel
theorem pd_14 : parseMethodDescriptor "(CLjava/lang/String;)V" = some ⟨[.char, (.object "java/lang/String")], none⟩ := by decide +kernel
def Q8 (Z : State) (a1 : Addr) (ab : Addr) (ie : Int32) (fb : Nat → Int32) (u8 : Addr) (cs : Int32) (fmv : Value) (h0 : Heap) (n0 : Nat) (v : Option Value) (h : Heap) (L : List Loc) : Prop := ∃ w b : Addr, v = some (.ref w) ∧ Fr n0 L ∧ Keep h0 h [a1] ∧ h0.size ≤ w ∧ h0.size ≤ b ∧ Exa Z h w "java/lang/String" ∧ Fld Z h w "java/lang/String" "value" "[B" (.ref b) ∧ Fld Z h w "java/lang/String" "coder" "B" (.int (0 : Int32)) ∧ owAI Z h b .byte 1 (fun _ => (107 : Int32)) ∧ Exa Z h a1 "com/example/fama/fama/table/JsonLine" ∧ Fld Z h a1 "com/example/fama/fama/table/JsonLine" "at" "I" (.int (own_pos ie (fb 6) (fb 7))) ∧ Fld Z h a1 "com/example/fama/fama/table/JsonLine" "end" "I" (.int ie) ∧ Fld Z h a1 "com/example/fama/fama/table/JsonLine" "bytes" "[B" (.ref ab) ∧ Fld Z h a1 "com/example/fama/fama/table/JsonLine" "first" "Z" (.int (0 : Int32))
set_option maxRecDepth 65536 in
set_option maxHeartbeats 40000000 in
theorem rm8 (l : Launch) (Z : State) (a0 : Array Value) (hw : ∀ d ∈ tables_1, d.before a0 Z = true) (ws : List Jvm.Cond) (a1 : Addr) (ab : Addr) (ie : Int32) (fb : Nat → Int32) (u8 : Addr) (cs : Int32) (fmv : Value) (h0 : Heap) (n0 : Nat) (Z0 : n0 ≤ h0.size) (E_a1 : Exa Z h0 a1 "com/example/fama/fama/table/JsonLine") (F_at : Fld Z h0 a1 "com/example/fama/fama/table/JsonLine" "at" "I" (.int (2 : Int32))) (F_end : Fld Z h0 a1 "com/example/fama/fama/table/JsonLine" "end" "I" (.int ie)) (F_bytes : Fld Z h0 a1 "com/example/fama/fama/table/JsonLine" "bytes" "[B" (.ref ab)) (F_first : Fld Z h0 a1 "com/example/fama/fama/table/JsonLine" "first" "Z" (.int (0 : Int32))) (A_ab : owAI Z h0 ab .byte 9 fb) (g_a1 : n0 ≤ a1) (n1b : a1 ≠ ab) (hoe : OE ie) (hob : OB fb) (O_x : Old Z n0 h0) (hst : OST Z u8 cs fmv) :
    MetFree l (⟨"com/example/fama/fama/table/JsonLine", "key", "(Z)Ljava/lang/String;"⟩ : MethodName) (head1 (Jvm.Cond.code (⟨"com/example/fama/fama/table/JsonLine", "key", "(Z)Ljava/lang/String;"⟩ : MethodName) prog_30_method_8_code 3 (some (.object "java/lang/String")) :: ws) ({ frames := 7, cells := 4, slots := 37, locals := 121 } : Room)) (fun a U => a = #[(.ref a1), (.int (1 : Int32))] ∧ Z.Warmed39 U.vm ∧ U.heap = h0 ∧ CHv Z EL1 U.vm h0) (fun _ _ _ _ _ => True) (fun _ U o U' => ∃ v L, o = .returned v ∧ Q8 Z a1 ab ie fb u8 cs fmv h0 n0 v U'.heap L ∧ CHr Z EL1 U.vm U.heap U'.vm U'.heap ∧ ReturnedEndW U o U' L ({ frames := 7, cells := 4, slots := 37, locals := 121 } : Room).cells ({ frames := 7, cells := 4, slots := 37, locals := 121 } : Room).slots) := by
  refine MetFree.of_bodySF (plainFor_of_name pn_8) hisR ?_
  intro p e s m args below meth c s₁ Bd hml0 hP hK
  obtain ⟨rfl, hZ, hh, CH0⟩ := hP
  have hx := Bd.exec
  have hby := Bd.bytes
  have hml : c.maxLocals = 3 := hml0
  have hown : s.vm.findClass "com/example/fama/fama/table/JsonLine" = some m.cls := findClass_of_methodNamed Bd.named
  have hnm := (name_of_methodNamed Bd.named Bd.method).1
  have X0 : Stand p l e ({ frames := 7, cells := 4, slots := 37, locals := 121 } : Room) (s.setVm s.vm) m #[(.ref a1), (.int (1 : Int32))] below meth c s₁ [] 0 0 := Stand.of_body Bd
  have e0 : s₁.heap = h0 := by rw [← hh, Bd.state]; rfl
  have N0 := Fr.nil n0
  have pre0 : ∀ t, Steps p.tables e below (s₁.setTop (mkF m 0 #[.val (.ref a1), .val (.int (1 : Int32)), .unset] [])) t → Steps p.tables e below (s₁.setTop (entryFrame m #[(.ref a1), (.int (1 : Int32))] 3)) t := fun t k => castTop (ef_8 m a1 (1 : Int32)) k
  have hS : s.Since s.vm 0 := (State.WarmedH.refl s).since 0
  have hk : 0 ≤ h0.size := Nat.zero_le _
  have hEL : EW Z a0 EL1 := own_EW hw
  have hwS := own_wS hw
  obtain ⟨cq1, q1, q1'⟩ := E_a1.cell
  obtain ⟨_, _, ⟨T1, L1, k1, n1⟩, -, X1, ⟨Lc1, hQ1, l1, y1, z1⟩, st1⟩ := X0.privateBack hx (y := (⟨"com/example/fama/fama/table/JsonLine", "skipWhitespace", "()V"⟩ : MethodName)) hown (mvT hZ (hw _ (List.mem_of_getElem? (i := 31) rfl))) (mvT hZ (hw _ (List.mem_of_getElem? (i := 32) rfl))) (owSel (mvT hZ (hw _ (List.mem_of_getElem? (i := 3) rfl))) (Cond.privateMethod_at (mvP hZ (hw _ (List.mem_of_getElem? (i := 33) rfl)) (args := #[]))) (mvT hZ (hw _ (List.mem_of_getElem? (i := 32) rfl))) (by decide)) (Cond.privateMethod_at (mvP hZ (hw _ (List.mem_of_getElem? (i := 33) rfl)) (args := #[]))) (mvT hZ (hw _ (List.mem_of_getElem? (i := 34) rfl))) (by decide) (backOf (W := 0) (rm5 l Z a0 hw [] a1 ab (2 : Int32) ie fb 2 h0 n0 Z0 F_at F_end F_bytes A_ab (own_lt hoe (by decide)) rfl (by decide) (own_w2 hob)) hZ (hw _ (List.mem_of_getElem? (i := 34) rfl)) (hw _ (List.mem_of_getElem? (i := 4) rfl)) (by decide) (by decide)) (g := (mkF m 1 #[.val (.ref a1), .val (.int (1 : Int32)), .unset] [(.ref a1)])) rfl (by rw [hml]; rfl) (Steps.refl _) (a := a1) (by rw [e0]; exact q1) q1' (argsL := []) (rest := []) (lenOf pd_1 rfl) rfl (by show 2 * 0 + _ ≤ _; exact Nat.le_of_eq rfl) (hb hby d8_1) (fun _ _ => ⟨rfl, e0, (by decide : 0 + 0 ≤ _), (by decide : 0 + 0 ≤ _)⟩)
  dsimp only [Pt.U, Pt.locs, Pt.cells, Pt.slots] at X1 l1 y1 z1 st1 hQ1
  subst l1 y1 z1
  obtain ⟨rfl, N1q, hE1⟩ := hQ1
  have N1 := Fr.app N0 N1q
  obtain ⟨cq2, kq2, q2a, q2b, q2c⟩ := isOf hZ hE1 E_a1
  obtain ⟨_, _, ⟨T2, L2, k2, n2⟩, -, X2, ⟨Lc2, hQ2, l2, y2, z2⟩, st2⟩ := X1.virtualBack hx (y := (⟨"com/example/fama/fama/table/JsonLine", "atString", "()Z"⟩ : MethodName)) (z := (⟨"com/example/fama/fama/table/JsonLine", "atString", "()Z"⟩ : MethodName)) hown (mvT hZ (hw _ (List.mem_of_getElem? (i := 47) rfl))) (mvT hZ (hw _ (List.mem_of_getElem? (i := 22) rfl))) (notFace_of_selects (args := #[]) (mvT hZ (hw _ (List.mem_of_getElem? (i := 24) rfl)))) (mvT hZ (hw _ (List.mem_of_getElem? (i := 24) rfl))) (mvT hZ (hw _ (List.mem_of_getElem? (i := 23) rfl))) (by decide) (backOf (W := 0) (rm3 l Z a0 hw [] a1 ab (2 : Int32) ie fb 2 h0 n0 Z0 F_at F_end F_bytes A_ab (fun _ => ⟨rfl, by decide⟩)) hZ (hw _ (List.mem_of_getElem? (i := 25) rfl)) (hw _ (List.mem_of_getElem? (i := 4) rfl)) (by decide) (by decide)) q2a q2c (g := (mkF m 5 #[.val (.ref a1), .val (.int (1 : Int32)), .unset] [(.ref a1)])) rfl (by rw [hml]; rfl) (Steps.refl _) (argsL := []) (rest := []) (lenOf pd_12 rfl) rfl (by show 2 * 0 + _ ≤ _; exact Nat.le_of_eq rfl) (hb hby d8_5) (fun _ _ => ⟨rfl, hE1, (by decide : 0 + 0 ≤ _), (by decide : 0 + 0 ≤ _)⟩)
  dsimp only [Pt.U, Pt.locs, Pt.cells, Pt.slots] at X2 l2 y2 z2 st2 hQ2
  subst l2 y2 z2
  obtain ⟨rfl, N2q, hE2⟩ := hQ2
  have N2 := Fr.app N1 N2q
  have pre3 : ∀ t, Steps p.tables e below (T2.setTop (mkF m 8 #[.val (.ref a1), .val (.int (1 : Int32)), .unset] [(.int (fn3 a1 ab (2 : Int32) ie fb 2))])) t → Steps p.tables e below (s₁.setTop (entryFrame m #[(.ref a1), (.int (1 : Int32))] 3)) t := by
    intro t kt
    refine pre0 _ ?_
    show Steps p.tables e below (s₁.setTop (mkF m 0 #[.val (.ref a1), .val (.int (1 : Int32)), .unset] [])) _
    refine XS.aloadN X0.here hx rfl (hb hby d8_0) rfl rfl ?_
    show Steps p.tables e below (s₁.setTop (mkF m 1 #[.val (.ref a1), .val (.int (1 : Int32)), .unset] [(.ref a1)])) _
    refine st1.trans ?_
    show Steps p.tables e below (T1.setTop (mkF m 4 #[.val (.ref a1), .val (.int (1 : Int32)), .unset] [])) _
    refine XS.aloadN X1.here hx rfl (hb hby d8_4) rfl rfl ?_
    show Steps p.tables e below (T1.setTop (mkF m 5 #[.val (.ref a1), .val (.int (1 : Int32)), .unset] [(.ref a1)])) _
    refine st2.trans ?_
    exact kt
  have ql4 : (fn3 a1 ab (2 : Int32) ie fb 2) = (1 : Int32) := (own_at2 hoe hob)
  have pre5 : ∀ t, Steps p.tables e below (T2.setTop (mkF m 8 #[.val (.ref a1), .val (.int (1 : Int32)), .unset] [(.int (1 : Int32))])) t → Steps p.tables e below (s₁.setTop (entryFrame m #[(.ref a1), (.int (1 : Int32))] 3)) t := by
    intro t kt
    refine pre3 _ ?_
    rw [ql4]
    exact kt
  obtain ⟨cq6, q6, q6'⟩ := E_a1.cell
  obtain ⟨_, _, ⟨T6, L6, k6, n6⟩, -, X6, ⟨Lc6, hQ6, l6, y6, z6⟩, st6⟩ := X2.privateBack hx (y := (⟨"com/example/fama/fama/table/JsonLine", "string", "(Z)Ljava/lang/String;"⟩ : MethodName)) hown (mvT hZ (hw _ (List.mem_of_getElem? (i := 48) rfl))) (mvT hZ (hw _ (List.mem_of_getElem? (i := 49) rfl))) (owSel (mvT hZ (hw _ (List.mem_of_getElem? (i := 3) rfl))) (Cond.privateMethod_at (mvP hZ (hw _ (List.mem_of_getElem? (i := 50) rfl)) (args := #[]))) (mvT hZ (hw _ (List.mem_of_getElem? (i := 49) rfl))) (by decide)) (Cond.privateMethod_at (mvP hZ (hw _ (List.mem_of_getElem? (i := 50) rfl)) (args := #[]))) (mvT hZ (hw _ (List.mem_of_getElem? (i := 51) rfl))) (by decide) (backOf (W := 0) (rm9 l Z a0 hw [] a1 ab ie fb u8 cs fmv h0 n0 Z0 E_a1 F_at F_end F_bytes F_first A_ab g_a1 n1b hoe hob O_x hst) hZ (hw _ (List.mem_of_getElem? (i := 51) rfl)) (hw _ (List.mem_of_getElem? (i := 4) rfl)) (by decide) (by decide)) (g := (mkF m 20 #[.val (.ref a1), .val (.int (1 : Int32)), .unset] [(.int (1 : Int32)), (.ref a1)])) rfl (by rw [hml]; rfl) (Steps.refl _) (a := a1) (by rw [hE2]; exact q6) q6' (argsL := [(.int (1 : Int32))]) (rest := []) (lenOf pd_13 rfl) rfl (by show 2 * 0 + _ ≤ _; exact Nat.le_of_eq rfl) (hb hby d8_20) (fun _ _ => ⟨rfl, hE2, (by decide : 0 + 2 ≤ _), (by decide : 0 + 5 ≤ _)⟩)
  dsimp only [Pt.U, Pt.locs, Pt.cells, Pt.slots] at X6 l6 y6 z6 st6 hQ6
  subst l6 y6 z6
  obtain ⟨ks, bb, rfl, N6q, K6, h_ks, h_bb, p6_E, p6_v, p6_c, p6_A, p6_0, p6_1, p6_2, p6_3, p6_4⟩ := hQ6
  have N6 := Fr.app N2 N6q
  have ne_a1_ks : a1 ≠ ks := Nat.ne_of_lt (Nat.lt_of_lt_of_le E_a1.lt h_ks)
  have ne_ab_ks : ab ≠ ks := Nat.ne_of_lt (Nat.lt_of_lt_of_le A_ab.lt h_ks)
  have g_ks : n0 ≤ ks := Nat.le_trans Z0 h_ks
  have sz_ks : h0.size ≤ ks := Nat.le_trans (Keep.refl h0 [a1]).1 h_ks
  have ne_a1_bb : a1 ≠ bb := Nat.ne_of_lt (Nat.lt_of_lt_of_le E_a1.lt h_bb)
  have ne_ab_bb : ab ≠ bb := Nat.ne_of_lt (Nat.lt_of_lt_of_le A_ab.lt h_bb)
  have g_bb : n0 ≤ bb := Nat.le_trans Z0 h_bb
  have sz_bb : h0.size ≤ bb := Nat.le_trans (Keep.refl h0 [a1]).1 h_bb
  have f7 := E_a1.keep K6
  have f8 := A_ab.keep K6 (ninS (Ne.symm n1b) nin0)
  have f13 := O_x.keep K6 (allS g_a1 all0)
  have Z14 := Nat.le_trans Z0 K6.1
  have K15 := (Keep.refl h0 [a1]).trans K6 (allS (Or.inl (List.mem_of_getElem? (i := 0) rfl)) all0)
  obtain ⟨cq16, q16, q16'⟩ := p6_0.cell
  obtain ⟨_, _, ⟨T16, L16, k16, n16⟩, -, X16, ⟨Lc16, hQ16, l16, y16, z16⟩, st16⟩ := X6.privateBack hx (y := (⟨"com/example/fama/fama/table/JsonLine", "skipWhitespace", "()V"⟩ : MethodName)) hown (mvT hZ (hw _ (List.mem_of_getElem? (i := 31) rfl))) (mvT hZ (hw _ (List.mem_of_getElem? (i := 32) rfl))) (owSel (mvT hZ (hw _ (List.mem_of_getElem? (i := 3) rfl))) (Cond.privateMethod_at (mvP hZ (hw _ (List.mem_of_getElem? (i := 33) rfl)) (args := #[]))) (mvT hZ (hw _ (List.mem_of_getElem? (i := 32) rfl))) (by decide)) (Cond.privateMethod_at (mvP hZ (hw _ (List.mem_of_getElem? (i := 33) rfl)) (args := #[]))) (mvT hZ (hw _ (List.mem_of_getElem? (i := 34) rfl))) (by decide) (backOf (W := 0) (rm5 l Z a0 hw [] a1 ab (5 : Int32) ie fb 5 T6.heap n0 Z14 p6_1 p6_2 p6_3 f8 (own_lt hoe (by decide)) rfl (by decide) (own_w5 hob)) hZ (hw _ (List.mem_of_getElem? (i := 34) rfl)) (hw _ (List.mem_of_getElem? (i := 4) rfl)) (by decide) (by decide)) (g := (mkF m 25 #[.val (.ref a1), .val (.int (1 : Int32)), .val (.ref ks)] [(.ref a1)])) rfl (by rw [hml]; rfl) (Steps.refl _) (a := a1) q16 q16' (argsL := []) (rest := []) (lenOf pd_1 rfl) rfl (by show 2 * 0 + _ ≤ _; exact Nat.le_of_eq rfl) (hb hby d8_25) (fun _ _ => ⟨rfl, rfl, (by decide : 2 + 0 ≤ _), (by decide : 5 + 0 ≤ _)⟩)
  dsimp only [Pt.U, Pt.locs, Pt.cells, Pt.slots] at X16 l16 y16 z16 st16 hQ16
  subst l16 y16 z16
  obtain ⟨rfl, N16q, hE16⟩ := hQ16
  have N16 := Fr.app N6 N16q
  have CK17 := CHr.keep (Z := Z) (EL := EL1) K15 (sfS (Safe.exa hZ.alike E_a1 (by decide) (by decide)) sf0) CH0
  obtain ⟨lit18, T18, gh18, k18, X18, hE18, E18, hS, hk, hZ, hown, CC18, -, st18⟩ := ldcOH (s := s) (vm0 := s.vm) X16 hx hZ hown (hw _ (List.mem_of_getElem? (i := 112) rfl)) hwS hE16 hS (Nat.le_trans hk K15.1) hEL CK17.1 (g := (mkF m 31 #[.val (.ref a1), .val (.int (1 : Int32)), .val (.ref ks)] [(.int (58 : Int32)), (.ref a1)])) rfl (hb hby d8_31) (n := 28) (by decide) (by decide) (by decide) (by decide)
  have f19 := p6_0.ext E18
  have f20 := f8.ext E18
  have f21 := f13.ext E18
  have f22 := p6_1.ext E18
  have f23 := p6_2.ext E18
  have f24 := p6_3.ext E18
  have f25 := p6_4.ext E18
  have f26 := p6_E.ext E18
  have f27 := p6_v.ext E18
  have f28 := p6_c.ext E18
  have f29 := p6_A.ext E18
  have Z30 := Nat.le_trans Z14 E18.1
  have K31 := K15.ext E18
  have CR32 := CK17.trans CC18
  obtain ⟨cq33, q33, q33'⟩ := f19.cell
  obtain ⟨_, _, ⟨T33, L33, k33, n33⟩, -, X33, ⟨Lc33, hQ33, l33, y33, z33⟩, st33⟩ := X18.privateBack hx (y := (⟨"com/example/fama/fama/table/JsonLine", "expect", "(CLjava/lang/String;)V"⟩ : MethodName)) hown (mvT hZ (hw _ (List.mem_of_getElem? (i := 115) rfl))) (mvT hZ (hw _ (List.mem_of_getElem? (i := 116) rfl))) (owSel (mvT hZ (hw _ (List.mem_of_getElem? (i := 3) rfl))) (Cond.privateMethod_at (mvP hZ (hw _ (List.mem_of_getElem? (i := 117) rfl)) (args := #[]))) (mvT hZ (hw _ (List.mem_of_getElem? (i := 116) rfl))) (by decide)) (Cond.privateMethod_at (mvP hZ (hw _ (List.mem_of_getElem? (i := 117) rfl)) (args := #[]))) (mvT hZ (hw _ (List.mem_of_getElem? (i := 118) rfl))) (by decide) (backOf (W := 0) (rm21 l Z a0 hw [] a1 lit18 ab ie fb gh18 n0 Z30 f19 f22 f23 f24 f25 f20 g_a1 n1b hoe hob) hZ (hw _ (List.mem_of_getElem? (i := 118) rfl)) (hw _ (List.mem_of_getElem? (i := 4) rfl)) (by decide) (by decide)) (g := (mkF m 33 #[.val (.ref a1), .val (.int (1 : Int32)), .val (.ref ks)] [(.ref lit18), (.int (58 : Int32)), (.ref a1)])) rfl (by rw [hml]; rfl) (Steps.refl _) (a := a1) (by rw [hE18]; exact q33) q33' (argsL := [(.int (58 : Int32)), (.ref lit18)]) (rest := []) (lenOf pd_14 rfl) rfl (by show 2 * 0 + _ ≤ _; exact Nat.le_of_eq rfl) (hb hby d8_33) (fun _ _ => ⟨rfl, hE18, (by decide : 4 + 0 ≤ _), (by decide : 37 + 0 ≤ _)⟩)
  dsimp only [Pt.U, Pt.locs, Pt.cells, Pt.slots] at X33 l33 y33 z33 st33 hQ33
  subst l33 y33 z33
  obtain ⟨rfl, N33q, K33, p33_0, p33_1, p33_2, p33_3, p33_4⟩ := hQ33
  have N33 := Fr.app N16 N33q
  have f34 := f19.keep K33
  have f35 := f20.keep K33 (ninS (Ne.symm n1b) nin0)
  have f36 := f21.keep K33 (allS g_a1 all0)
  have f41 := f26.keep K33
  have f42 := f27.keep K33 (ninS (Ne.symm ne_a1_ks) nin0)
  have f43 := f28.keep K33 (ninS (Ne.symm ne_a1_ks) nin0)
  have f44 := f29.keep K33 (ninS (Ne.symm ne_a1_bb) nin0)
  have Z45 := Nat.le_trans Z30 K33.1
  have K46 := K31.trans K33 (allS (Or.inl (List.mem_of_getElem? (i := 0) rfl)) all0)
  have K47 := (Keep.refl gh18 [a1]).trans K33 (allS (Or.inl (List.mem_of_getElem? (i := 0) rfl)) all0)
  obtain ⟨cq48, q48, q48'⟩ := p33_0.cell
  obtain ⟨_, _, ⟨T48, L48, k48, n48⟩, -, X48, ⟨Lc48, hQ48, l48, y48, z48⟩, st48⟩ := X33.privateBack hx (y := (⟨"com/example/fama/fama/table/JsonLine", "skipWhitespace", "()V"⟩ : MethodName)) hown (mvT hZ (hw _ (List.mem_of_getElem? (i := 31) rfl))) (mvT hZ (hw _ (List.mem_of_getElem? (i := 32) rfl))) (owSel (mvT hZ (hw _ (List.mem_of_getElem? (i := 3) rfl))) (Cond.privateMethod_at (mvP hZ (hw _ (List.mem_of_getElem? (i := 33) rfl)) (args := #[]))) (mvT hZ (hw _ (List.mem_of_getElem? (i := 32) rfl))) (by decide)) (Cond.privateMethod_at (mvP hZ (hw _ (List.mem_of_getElem? (i := 33) rfl)) (args := #[]))) (mvT hZ (hw _ (List.mem_of_getElem? (i := 34) rfl))) (by decide) (backOf (W := 0) (rm5x l Z a0 hw [] a1 ab ie fb T33.heap n0 Z45 p33_0 p33_1 p33_2 p33_3 p33_4 f35 g_a1 n1b hoe hob) hZ (hw _ (List.mem_of_getElem? (i := 34) rfl)) (hw _ (List.mem_of_getElem? (i := 4) rfl)) (by decide) (by decide)) (g := (mkF m 37 #[.val (.ref a1), .val (.int (1 : Int32)), .val (.ref ks)] [(.ref a1)])) rfl (by rw [hml]; rfl) (Steps.refl _) (a := a1) q48 q48' (argsL := []) (rest := []) (lenOf pd_1 rfl) rfl (by show 2 * 0 + _ ≤ _; exact Nat.le_of_eq rfl) (hb hby d8_37) (fun _ _ => ⟨rfl, rfl, (by decide : 4 + 0 ≤ _), (by decide : 37 + 0 ≤ _)⟩)
  dsimp only [Pt.U, Pt.locs, Pt.cells, Pt.slots] at X48 l48 y48 z48 st48 hQ48
  subst l48 y48 z48
  obtain ⟨rfl, N48q, K48, p48_0, p48_1, p48_2, p48_3, p48_4⟩ := hQ48
  have N48 := Fr.app N33 N48q
  have f49 := p33_0.keep K48
  have f50 := f35.keep K48 (ninS (Ne.symm n1b) nin0)
  have f51 := f36.keep K48 (allS g_a1 all0)
  have f52 := f41.keep K48
  have f53 := f42.keep K48 (ninS (Ne.symm ne_a1_ks) nin0)
  have f54 := f43.keep K48 (ninS (Ne.symm ne_a1_ks) nin0)
  have f55 := f44.keep K48 (ninS (Ne.symm ne_a1_bb) nin0)
  have Z60 := Nat.le_trans Z45 K48.1
  have K61 := K46.trans K48 (allS (Or.inl (List.mem_of_getElem? (i := 0) rfl)) all0)
  have K62 := K47.trans K48 (allS (Or.inl (List.mem_of_getElem? (i := 0) rfl)) all0)
  have pre63 : ∀ t, Steps p.tables e below (T48.setTop (mkF m 41 #[.val (.ref a1), .val (.int (1 : Int32)), .val (.ref ks)] [(.ref ks)])) t → Steps p.tables e below (s₁.setTop (entryFrame m #[(.ref a1), (.int (1 : Int32))] 3)) t := by
    intro t kt
    refine pre5 _ ?_
    show Steps p.tables e below (T2.setTop (mkF m 8 #[.val (.ref a1), .val (.int (1 : Int32)), .unset] [(.int (1 : Int32))])) _
    refine XS.ifYes X2.here hx rfl (pc0 := 8) (pc' := 18) rfl (hb hby d8_8) rfl (XT.i0_ne_t (by decide)) (by decide) (by decide) ?_
    show Steps p.tables e below (T2.setTop (mkF m 18 #[.val (.ref a1), .val (.int (1 : Int32)), .unset] [])) _
    refine XS.aloadN X2.here hx rfl (hb hby d8_18) rfl rfl ?_
    show Steps p.tables e below (T2.setTop (mkF m 19 #[.val (.ref a1), .val (.int (1 : Int32)), .unset] [(.ref a1)])) _
    refine XS.iloadN X2.here hx rfl (hb hby d8_19) rfl ?_
    show Steps p.tables e below (T2.setTop (mkF m 20 #[.val (.ref a1), .val (.int (1 : Int32)), .unset] [(.int (1 : Int32)), (.ref a1)])) _
    refine st6.trans ?_
    show Steps p.tables e below (T6.setTop (mkF m 23 #[.val (.ref a1), .val (.int (1 : Int32)), .unset] [(.ref ks)])) _
    refine XS.astoreN X6.here hx rfl (hb hby d8_23) rfl rfl (l' := #[.val (.ref a1), .val (.int (1 : Int32)), .val (.ref ks)]) rfl ?_
    show Steps p.tables e below (T6.setTop (mkF m 24 #[.val (.ref a1), .val (.int (1 : Int32)), .val (.ref ks)] [])) _
    refine XS.aloadN X6.here hx rfl (hb hby d8_24) rfl rfl ?_
    show Steps p.tables e below (T6.setTop (mkF m 25 #[.val (.ref a1), .val (.int (1 : Int32)), .val (.ref ks)] [(.ref a1)])) _
    refine st16.trans ?_
    show Steps p.tables e below (T16.setTop (mkF m 28 #[.val (.ref a1), .val (.int (1 : Int32)), .val (.ref ks)] [])) _
    refine XS.aloadN X16.here hx rfl (hb hby d8_28) rfl rfl ?_
    show Steps p.tables e below (T16.setTop (mkF m 29 #[.val (.ref a1), .val (.int (1 : Int32)), .val (.ref ks)] [(.ref a1)])) _
    refine XS.bipush X16.here hx rfl (hb hby d8_29) ?_
    show Steps p.tables e below (T16.setTop (mkF m 31 #[.val (.ref a1), .val (.int (1 : Int32)), .val (.ref ks)] [(.int (58 : Int32)), (.ref a1)])) _
    refine st18 _ ?_
    show Steps p.tables e below (T18.setTop (mkF m 33 #[.val (.ref a1), .val (.int (1 : Int32)), .val (.ref ks)] [(.ref lit18), (.int (58 : Int32)), (.ref a1)])) _
    refine st33.trans ?_
    show Steps p.tables e below (T33.setTop (mkF m 36 #[.val (.ref a1), .val (.int (1 : Int32)), .val (.ref ks)] [])) _
    refine XS.aloadN X33.here hx rfl (hb hby d8_36) rfl rfl ?_
    show Steps p.tables e below (T33.setTop (mkF m 37 #[.val (.ref a1), .val (.int (1 : Int32)), .val (.ref ks)] [(.ref a1)])) _
    refine st48.trans ?_
    show Steps p.tables e below (T48.setTop (mkF m 40 #[.val (.ref a1), .val (.int (1 : Int32)), .val (.ref ks)] [])) _
    refine XS.aloadN X48.here hx rfl (hb hby d8_40) rfl rfl ?_
    exact kt
  have CK64 := CHr.keep (Z := Z) (EL := EL1) K62 (sfS (Safe.exa hZ.alike f19 (by decide) (by decide)) sf0) CC18.1
  obtain ⟨fs, hr, hrun, hended, hEnd⟩ := X48.leaveW hS (Nat.le_trans hk K62.1) (v := some (.ref ks)) (fun h => by rw [Bd.returns] at h; cases h)
  have CT := CK64.trans (CHv.at (s := s) (vm0 := T18.vm) X48 hZ hEL CK64.1)
  refine ⟨_, _, pre63 _ ?_, hrun, hended, _, _, rfl, ?_, ?_, hEnd.1, hEnd.2.1, hEnd.2.2.1, hEnd.2.2.2.mono (by decide) (by decide)⟩
  · show Steps p.tables e below (T48.setTop (mkF m 41 #[.val (.ref a1), .val (.int (1 : Int32)), .val (.ref ks)] [(.ref ks)])) _
    exact X48.areturnOut hx rfl Bd.returns rfl (hb hby d8_41) hr
  · show Q8 Z a1 ab ie fb u8 cs fmv h0 n0 _ T48.heap _
    exact ⟨ks, bb, rfl, N48, K61, sz_ks, sz_bb, f52, f53, f54, f55, p48_0, p48_1, p48_2, p48_3, p48_4⟩
  · rw [hh]
    show CHr Z EL1 s.vm h0 T48.vm T48.heap
    exact CR32.trans CT
theorem d7_0 : decode prog_30_method_3_code 0 = .ok (.aload_n 0, 1) := by decide +kernel
theorem d7_1 : decode prog_30_method_3_code 1 = .ok (.invokevirtual 27, 3) := by decide +kernel
theorem d7_4 : decode prog_30_method_3_code 4 = .ok (.aload_n 0, 1) := by decide +kernel
theorem d7_5 : decode prog_30_method_3_code 5 = .ok (.getfield 24, 3) := by decide +kernel
theorem d7_8 : decode prog_30_method_3_code 8 = .ok (.aload_n 0, 1) := by decide +kernel
theorem d7_9 : decode prog_30_method_3_code 9 = .ok (.getfield 21, 3) := by decide +kernel
theorem d7_12 : decode prog_30_method_3_code 12 = .ok (.if_icmp .ge 29, 3) := by decide +kernel
theorem d7_15 : decode prog_30_method_3_code 15 = .ok (.aload_n 0, 1) := by decide +kernel
theorem d7_16 : decode prog_30_method_3_code 16 = .ok (.getfield 13, 3) := by decide +kernel
theorem d7_19 : decode prog_30_method_3_code 19 = .ok (.aload_n 0, 1) := by decide +kernel
theorem d7_20 : decode prog_30_method_3_code 20 = .ok (.getfield 24, 3) := by decide +kernel
theorem d7_23 : decode prog_30_method_3_code 23 = .ok (.baload, 1) := by decide +kernel
theorem d7_24 : decode prog_30_method_3_code 24 = .ok (.bipush 125, 2) := by decide +kernel
theorem d7_26 : decode prog_30_method_3_code 26 = .ok (.if_icmp .ne 15, 3) := by decide +kernel
theorem d7_29 : decode prog_30_method_3_code 29 = .ok (.aload_n 0, 1) := by decide +kernel
theorem d7_30 : decode prog_30_method_3_code 30 = .ok (.dup, 1) := by decide +kernel
theorem d7_31 : decode prog_30_method_3_code 31 = .ok (.getfield 24, 3) := by decide +kernel
theorem d7_34 : decode prog_30_method_3_code 34 = .ok (.iconst 1, 1) := by decide +kernel
theorem d7_35 : decode prog_30_method_3_code 35 = .ok (.iadd, 1) := by decide +kernel
theorem d7_36 : decode prog_30_method_3_code 36 = .ok (.putfield 24, 3) := by decide +kernel
theorem d7_39 : decode prog_30_method_3_code 39 = .ok (.aconst_null, 1) := by decide +kernel
theorem d7_40 : decode prog_30_method_3_code 40 = .ok (.areturn, 1) := by decide +kernel
theorem d7_41 : decode prog_30_method_3_code 41 = .ok (.aload_n 0, 1) := by decide +kernel
theorem d7_42 : decode prog_30_method_3_code 42 = .ok (.getfield 7, 3) := by decide +kernel
theorem d7_45 : decode prog_30_method_3_code 45 = .ok (.ifCond .ne 11, 3) := by decide +kernel
theorem d7_48 : decode prog_30_method_3_code 48 = .ok (.aload_n 0, 1) := by decide +kernel
theorem d7_49 : decode prog_30_method_3_code 49 = .ok (.bipush 44, 2) := by decide +kernel
theorem d7_51 : decode prog_30_method_3_code 51 = .ok (.ldc 39, 2) := by decide +kernel
theorem d7_53 : decode prog_30_method_3_code 53 = .ok (.invokevirtual 41, 3) := by decide +kernel
theorem d7_56 : decode prog_30_method_3_code 56 = .ok (.aload_n 0, 1) := by decide +kernel
theorem d7_57 : decode prog_30_method_3_code 57 = .ok (.iconst 0, 1) := by decide +kernel
theorem d7_58 : decode prog_30_method_3_code 58 = .ok (.putfield 7, 3) := by decide +kernel
theorem d7_61 : decode prog_30_method_3_code 61 = .ok (.aload_n 0, 1) := by decide +kernel
theorem d7_62 : decode prog_30_method_3_code 62 = .ok (.iconst 1, 1) := by decide +kernel
theorem d7_63 : decode prog_30_method_3_code 63 = .ok (.invokevirtual 45, 3) := by decide +kernel
theorem d7_66 : decode prog_30_method_3_code 66 = .ok (.areturn, 1) := by decide +kernel
theorem pn_7 : plainName "com/example/fama/fama/table/JsonLine" = true := by first | (simp [plainName, overriddenIn]; done) | decide +kernel
theorem ef_7 (m : MethodId) (x0 : Addr) : entryFrame m #[(.ref x0)] 1 = mkF m 0 #[.val (.ref x0)] [] := by first | (simp [entryFrame, mkF, argsToLocals, Value.category]; done) | rfl
def Q7 (Z : State) (a1 : Addr) (ab : Addr) (ie : Int32) (fb : Nat → Int32) (u8 : Addr) (cs : Int32) (fmv : Value) (h0 : Heap) (n0 : Nat) (v : Option Value) (h : Heap) (L : List Loc) : Prop := ∃ w b : Addr, v = some (.ref w) ∧ Fr n0 L ∧ Keep h0 h [a1] ∧ h0.size ≤ w ∧ h0.size ≤ b ∧ Exa Z h w "java/lang/String" ∧ Fld Z h w "java/lang/String" "value" "[B" (.ref b) ∧ Fld Z h w "java/lang/String" "coder" "B" (.int (0 : Int32)) ∧ owAI Z h b .byte 1 (fun _ => (107 : Int32)) ∧ Exa Z h a1 "com/example/fama/fama/table/JsonLine" ∧ Fld Z h a1 "com/example/fama/fama/table/JsonLine" "at" "I" (.int (own_pos ie (fb 6) (fb 7))) ∧ Fld Z h a1 "com/example/fama/fama/table/JsonLine" "end" "I" (.int ie) ∧ Fld Z h a1 "com/example/fama/fama/table/JsonLine" "bytes" "[B" (.ref ab) ∧ Fld Z h a1 "com/example/fama/fama/table/JsonLine" "first" "Z" (.int (0 : Int32))
set_option maxRecDepth 65536 in
set_option maxHeartbeats 40000000 in
theorem rm7 (l : Launch) (Z : State) (a0 : Array Value) (hw : ∀ d ∈ tables_1, d.before a0 Z = true) (ws : List Jvm.Cond) (a1 : Addr) (ab : Addr) (ie : Int32) (fb : Nat → Int32) (u8 : Addr) (cs : Int32) (fmv : Value) (h0 : Heap) (n0 : Nat) (Z0 : n0 ≤ h0.size) (E_a1 : Exa Z h0 a1 "com/example/fama/fama/table/JsonLine") (F_at : Fld Z h0 a1 "com/example/fama/fama/table/JsonLine" "at" "I" (.int (2 : Int32))) (F_end : Fld Z h0 a1 "com/example/fama/fama/table/JsonLine" "end" "I" (.int ie)) (F_bytes : Fld Z h0 a1 "com/example/fama/fama/table/JsonLine" "bytes" "[B" (.ref ab)) (F_first : Fld Z h0 a1 "com/example/fama/fama/table/JsonLine" "first" "Z" (.int (1 : Int32))) (A_ab : owAI Z h0 ab .byte 9 fb) (g_a1 : n0 ≤ a1) (n1b : a1 ≠ ab) (hoe : OE ie) (hob : OB fb) (O_x : Old Z n0 h0) (hst : OST Z u8 cs fmv) :
    MetFree l (⟨"com/example/fama/fama/table/JsonLine", "nextKey", "()Ljava/lang/String;"⟩ : MethodName) (head1 (Jvm.Cond.code (⟨"com/example/fama/fama/table/JsonLine", "nextKey", "()Ljava/lang/String;"⟩ : MethodName) prog_30_method_3_code 1 (some (.object "java/lang/String")) :: ws) ({ frames := 8, cells := 4, slots := 37, locals := 135 } : Room)) (fun a U => a = #[(.ref a1)] ∧ Z.Warmed39 U.vm ∧ U.heap = h0 ∧ CHv Z EL1 U.vm h0) (fun _ _ _ _ _ => True) (fun _ U o U' => ∃ v L, o = .returned v ∧ Q7 Z a1 ab ie fb u8 cs fmv h0 n0 v U'.heap L ∧ CHr Z EL1 U.vm U.heap U'.vm U'.heap ∧ ReturnedEndW U o U' L ({ frames := 8, cells := 4, slots := 37, locals := 135 } : Room).cells ({ frames := 8, cells := 4, slots := 37, locals := 135 } : Room).slots) := by
  refine MetFree.of_bodySF (plainFor_of_name pn_7) hisR ?_
  intro p e s m args below meth c s₁ Bd hml0 hP hK
  obtain ⟨rfl, hZ, hh, CH0⟩ := hP
  have hx := Bd.exec
  have hby := Bd.bytes
  have hml : c.maxLocals = 1 := hml0
  have hown : s.vm.findClass "com/example/fama/fama/table/JsonLine" = some m.cls := findClass_of_methodNamed Bd.named
  have hnm := (name_of_methodNamed Bd.named Bd.method).1
  have X0 : Stand p l e ({ frames := 8, cells := 4, slots := 37, locals := 135 } : Room) (s.setVm s.vm) m #[(.ref a1)] below meth c s₁ [] 0 0 := Stand.of_body Bd
  have e0 : s₁.heap = h0 := by rw [← hh, Bd.state]; rfl
  have N0 := Fr.nil n0
  have pre0 : ∀ t, Steps p.tables e below (s₁.setTop (mkF m 0 #[.val (.ref a1)] [])) t → Steps p.tables e below (s₁.setTop (entryFrame m #[(.ref a1)] 1)) t := fun t k => castTop (ef_7 m a1) k
  have hS : s.Since s.vm 0 := (State.WarmedH.refl s).since 0
  have hk : 0 ≤ h0.size := Nat.zero_le _
  have hEL : EW Z a0 EL1 := own_EW hw
  have hwS := own_wS hw
  obtain ⟨cq1, q1, q1'⟩ := E_a1.cell
  obtain ⟨_, _, ⟨T1, L1, k1, n1⟩, -, X1, ⟨Lc1, hQ1, l1, y1, z1⟩, st1⟩ := X0.privateBack hx (y := (⟨"com/example/fama/fama/table/JsonLine", "skipWhitespace", "()V"⟩ : MethodName)) hown (mvT hZ (hw _ (List.mem_of_getElem? (i := 31) rfl))) (mvT hZ (hw _ (List.mem_of_getElem? (i := 32) rfl))) (owSel (mvT hZ (hw _ (List.mem_of_getElem? (i := 3) rfl))) (Cond.privateMethod_at (mvP hZ (hw _ (List.mem_of_getElem? (i := 33) rfl)) (args := #[]))) (mvT hZ (hw _ (List.mem_of_getElem? (i := 32) rfl))) (by decide)) (Cond.privateMethod_at (mvP hZ (hw _ (List.mem_of_getElem? (i := 33) rfl)) (args := #[]))) (mvT hZ (hw _ (List.mem_of_getElem? (i := 34) rfl))) (by decide) (backOf (W := 0) (rm5 l Z a0 hw [] a1 ab (2 : Int32) ie fb 2 h0 n0 Z0 F_at F_end F_bytes A_ab (own_lt hoe (by decide)) rfl (by decide) (own_w2 hob)) hZ (hw _ (List.mem_of_getElem? (i := 34) rfl)) (hw _ (List.mem_of_getElem? (i := 4) rfl)) (by decide) (by decide)) (g := (mkF m 1 #[.val (.ref a1)] [(.ref a1)])) rfl (by rw [hml]; rfl) (Steps.refl _) (a := a1) (by rw [e0]; exact q1) q1' (argsL := []) (rest := []) (lenOf pd_1 rfl) rfl (by show 2 * 0 + _ ≤ _; exact Nat.le_of_eq rfl) (hb hby d7_1) (fun _ _ => ⟨rfl, e0, (by decide : 0 + 0 ≤ _), (by decide : 0 + 0 ≤ _)⟩)
  dsimp only [Pt.U, Pt.locs, Pt.cells, Pt.slots] at X1 l1 y1 z1 st1 hQ1
  subst l1 y1 z1
  obtain ⟨rfl, N1q, hE1⟩ := hQ1
  have N1 := Fr.app N0 N1q
  obtain ⟨T2, X2, hE2, st2⟩ := getF X1 hx hZ hown (host := "") (Or.inl (hw _ (List.mem_of_getElem? (i := 19) rfl))) Via.refl hE1 F_at (g := (mkF m 5 #[.val (.ref a1)] [(.ref a1)])) rfl rfl (hb hby d7_5)
  obtain ⟨T3, X3, hE3, st3⟩ := getF X2 hx hZ hown (host := "") (Or.inl (hw _ (List.mem_of_getElem? (i := 17) rfl))) Via.refl hE2 F_end (g := (mkF m 9 #[.val (.ref a1)] [(.ref a1), (.int (2 : Int32))])) rfl rfl (hb hby d7_9)
  obtain ⟨T4, X4, hE4, st4⟩ := getF X3 hx hZ hown (host := "") (Or.inl (hw _ (List.mem_of_getElem? (i := 13) rfl))) Via.refl hE3 F_bytes (g := (mkF m 16 #[.val (.ref a1)] [(.ref a1)])) rfl rfl (hb hby d7_16)
  obtain ⟨T5, X5, hE5, st5⟩ := getF X4 hx hZ hown (host := "") (Or.inl (hw _ (List.mem_of_getElem? (i := 19) rfl))) Via.refl hE4 F_at (g := (mkF m 20 #[.val (.ref a1)] [(.ref a1), (.ref ab)])) rfl rfl (hb hby d7_20)
  have pre6 : ∀ t, Steps p.tables e below (T5.setTop (mkF m 24 #[.val (.ref a1)] [(.int (fb 2))])) t → Steps p.tables e below (s₁.setTop (entryFrame m #[(.ref a1)] 1)) t := by
    intro t kt
    refine pre0 _ ?_
    show Steps p.tables e below (s₁.setTop (mkF m 0 #[.val (.ref a1)] [])) _
    refine XS.aloadN X0.here hx rfl (hb hby d7_0) rfl rfl ?_
    show Steps p.tables e below (s₁.setTop (mkF m 1 #[.val (.ref a1)] [(.ref a1)])) _
    refine st1.trans ?_
    show Steps p.tables e below (T1.setTop (mkF m 4 #[.val (.ref a1)] [])) _
    refine XS.aloadN X1.here hx rfl (hb hby d7_4) rfl rfl ?_
    show Steps p.tables e below (T1.setTop (mkF m 5 #[.val (.ref a1)] [(.ref a1)])) _
    refine st2 _ ?_
    show Steps p.tables e below (T2.setTop (mkF m 8 #[.val (.ref a1)] [(.int (2 : Int32))])) _
    refine XS.aloadN X2.here hx rfl (hb hby d7_8) rfl rfl ?_
    show Steps p.tables e below (T2.setTop (mkF m 9 #[.val (.ref a1)] [(.ref a1), (.int (2 : Int32))])) _
    refine st3 _ ?_
    show Steps p.tables e below (T3.setTop (mkF m 12 #[.val (.ref a1)] [(.int ie), (.int (2 : Int32))])) _
    refine XS.icmpNo X3.here hx rfl (hb hby d7_12) rfl (XT.ii_ge_f (own_lt hoe (by decide))) ?_
    show Steps p.tables e below (T3.setTop (mkF m 15 #[.val (.ref a1)] [])) _
    refine XS.aloadN X3.here hx rfl (hb hby d7_15) rfl rfl ?_
    show Steps p.tables e below (T3.setTop (mkF m 16 #[.val (.ref a1)] [(.ref a1)])) _
    refine st4 _ ?_
    show Steps p.tables e below (T4.setTop (mkF m 19 #[.val (.ref a1)] [(.ref ab)])) _
    refine XS.aloadN X4.here hx rfl (hb hby d7_19) rfl rfl ?_
    show Steps p.tables e below (T4.setTop (mkF m 20 #[.val (.ref a1)] [(.ref a1), (.ref ab)])) _
    refine st5 _ ?_
    show Steps p.tables e below (T5.setTop (mkF m 23 #[.val (.ref a1)] [(.int (2 : Int32)), (.ref ab)])) _
    refine owLdB (k := 2) X5 hx hZ hE5 A_ab (j := (2 : Int32)) rfl (by decide) (g := (mkF m 23 #[.val (.ref a1)] [(.int (2 : Int32)), (.ref ab)])) rfl rfl (hb hby d7_23) _ ?_
    exact kt
  have ql7 : (fb 2) = (34 : Int32) := hob.2.1
  have pre8 : ∀ t, Steps p.tables e below (T5.setTop (mkF m 24 #[.val (.ref a1)] [(.int (34 : Int32))])) t → Steps p.tables e below (s₁.setTop (entryFrame m #[(.ref a1)] 1)) t := by
    intro t kt
    refine pre6 _ ?_
    rw [ql7]
    exact kt
  obtain ⟨T9, X9, hE9, st9⟩ := getF X5 hx hZ hown (host := "") (Or.inl (hw _ (List.mem_of_getElem? (i := 11) rfl))) Via.refl hE5 F_first (g := (mkF m 42 #[.val (.ref a1)] [(.ref a1)])) rfl rfl (hb hby d7_42)
  obtain ⟨T10, gh10, X10, hE10, W10, st10⟩ := putFN X9 hx hZ hown (hw _ (List.mem_of_getElem? (i := 11) rfl)) Via.refl hE9 F_first E_a1 (Or.inl (hw _ (List.mem_of_getElem? (i := 12) rfl))) (hw _ (List.mem_of_getElem? (i := 3) rfl)) (ty := .boolean) (v' := (.int (0 : Int32))) (by decide) rfl rfl (g := (mkF m 58 #[.val (.ref a1)] [(.int (0 : Int32)), (.ref a1)])) rfl rfl (hb hby d7_58)
  have Fw10 := F_first.same W10
  have f11 := E_a1.wr W10
  have f12 := A_ab.other W10 (Ne.symm n1b)
  have f13 := F_at.other W10 (Or.inr (slot_ne (Or.inl (hw _ (List.mem_of_getElem? (i := 20) rfl))) (Or.inl (hw _ (List.mem_of_getElem? (i := 12) rfl))) (by decide) (t := .int) (t' := .boolean) (by decide) (by decide)))
  have f14 := F_end.other W10 (Or.inr (slot_ne (Or.inr (hw _ (List.mem_of_getElem? (i := 18) rfl))) (Or.inl (hw _ (List.mem_of_getElem? (i := 12) rfl))) (by decide) (t := .int) (t' := .boolean) (by decide) (by decide)))
  have f15 := F_bytes.other W10 (Or.inr (slot_ne (Or.inr (hw _ (List.mem_of_getElem? (i := 14) rfl))) (Or.inl (hw _ (List.mem_of_getElem? (i := 12) rfl))) (by decide) (t := (.array .byte)) (t' := .boolean) (by decide) (by decide)))
  have f17 := O_x.wr W10 g_a1
  have Z18 := Nat.le_trans Z0 (Keep.of_wr W10).1
  have N19 := Fr.snoc X10 N1 g_a1
  have K20 := (Keep.refl h0 [a1]).wr W10 (Or.inl (List.mem_of_getElem? (i := 0) rfl))
  have CK22 := CHr.keep (Z := Z) (EL := EL1) K20 (sfS (Safe.exa hZ.alike E_a1 (by decide) (by decide)) sf0) CH0
  obtain ⟨cq21, q21, q21'⟩ := f11.cell
  obtain ⟨_, _, ⟨T21, L21, k21, n21⟩, -, X21, hSn, hgr, ⟨Lc21, hQ21, l21, y21, z21, CC21⟩, st21⟩ := X10.privateBackS hx (y := (⟨"com/example/fama/fama/table/JsonLine", "key", "(Z)Ljava/lang/String;"⟩ : MethodName)) hown (mvT hZ (hw _ (List.mem_of_getElem? (i := 43) rfl))) (mvT hZ (hw _ (List.mem_of_getElem? (i := 44) rfl))) (owSel (mvT hZ (hw _ (List.mem_of_getElem? (i := 3) rfl))) (Cond.privateMethod_at (mvP hZ (hw _ (List.mem_of_getElem? (i := 45) rfl)) (args := #[]))) (mvT hZ (hw _ (List.mem_of_getElem? (i := 44) rfl))) (by decide)) (Cond.privateMethod_at (mvP hZ (hw _ (List.mem_of_getElem? (i := 45) rfl)) (args := #[]))) (mvT hZ (hw _ (List.mem_of_getElem? (i := 46) rfl))) (by decide) (backOfSH (s := s) (vm0 := s.vm) (W := 0) (rm8 l Z a0 hw [] a1 ab ie fb u8 cs fmv gh10 n0 Z18 f11 f13 f14 f15 Fw10 f12 g_a1 n1b hoe hob f17 hst) hZ (hw _ (List.mem_of_getElem? (i := 46) rfl)) (hw _ (List.mem_of_getElem? (i := 4) rfl)) (by decide) (by decide) hEL CK22.1) (g := (mkF m 63 #[.val (.ref a1)] [(.int (1 : Int32)), (.ref a1)])) rfl (by rw [hml]; rfl) (Steps.refl _) (a := a1) (by rw [hE10]; exact q21) q21' (argsL := [(.int (1 : Int32))]) (rest := []) (lenOf pd_13 rfl) rfl (by show 2 * 0 + _ ≤ _; exact Nat.le_of_eq rfl) (hb hby d7_63) (fun _ _ => ⟨rfl, hE10, (by decide : 0 + 4 ≤ _), (by decide : 0 + 37 ≤ _)⟩)
  dsimp only [Pt.U, Pt.locs, Pt.cells, Pt.slots] at X21 l21 y21 z21 st21 hQ21
  subst l21 y21 z21
  dsimp only [Pt.U, Pt.locs, Pt.cells, Pt.slots] at hSn hgr CC21
  obtain ⟨X21, hS, hZ, hown⟩ := rebS hS (n1 := T10.heap.size) (by rw [hE10]; exact Nat.le_trans hk K20.1) X21 hSn hgr hZ hown
  have hk : T21.heap.size ≤ T21.heap.size := Nat.le_refl _
  obtain ⟨ks, bb, rfl, N21q, K21, h_ks, h_bb, p21_E, p21_v, p21_c, p21_A, p21_0, p21_1, p21_2, p21_3, p21_4⟩ := hQ21
  have N21 := Fr.app N19 N21q
  have ne_a1_ks : a1 ≠ ks := Nat.ne_of_lt (Nat.lt_of_lt_of_le f11.lt h_ks)
  have ne_ab_ks : ab ≠ ks := Nat.ne_of_lt (Nat.lt_of_lt_of_le f12.lt h_ks)
  have g_ks : n0 ≤ ks := Nat.le_trans Z18 h_ks
  have sz_ks : h0.size ≤ ks := Nat.le_trans K20.1 h_ks
  have ne_a1_bb : a1 ≠ bb := Nat.ne_of_lt (Nat.lt_of_lt_of_le f11.lt h_bb)
  have ne_ab_bb : ab ≠ bb := Nat.ne_of_lt (Nat.lt_of_lt_of_le f12.lt h_bb)
  have g_bb : n0 ≤ bb := Nat.le_trans Z18 h_bb
  have sz_bb : h0.size ≤ bb := Nat.le_trans K20.1 h_bb
  have f23 := f11.keep K21
  have f24 := f12.keep K21 (ninS (Ne.symm n1b) nin0)
  have f29 := f17.keep K21 (allS g_a1 all0)
  have Z30 := Nat.le_trans Z18 K21.1
  have K31 := K20.trans K21 (allS (Or.inl (List.mem_of_getElem? (i := 0) rfl)) all0)
  have CR32 := CK22.trans CC21
  have pre33 : ∀ t, Steps p.tables e below (T21.setTop (mkF m 66 #[.val (.ref a1)] [(.ref ks)])) t → Steps p.tables e below (s₁.setTop (entryFrame m #[(.ref a1)] 1)) t := by
    intro t kt
    refine pre8 _ ?_
    show Steps p.tables e below (T5.setTop (mkF m 24 #[.val (.ref a1)] [(.int (34 : Int32))])) _
    refine XS.bipush X5.here hx rfl (hb hby d7_24) ?_
    show Steps p.tables e below (T5.setTop (mkF m 26 #[.val (.ref a1)] [(.int (125 : Int32)), (.int (34 : Int32))])) _
    refine XS.icmpYes X5.here hx rfl (pc0 := 26) (pc' := 41) rfl (hb hby d7_26) rfl (XT.ii_ne_t (by decide)) (by decide) (by decide) ?_
    show Steps p.tables e below (T5.setTop (mkF m 41 #[.val (.ref a1)] [])) _
    refine XS.aloadN X5.here hx rfl (hb hby d7_41) rfl rfl ?_
    show Steps p.tables e below (T5.setTop (mkF m 42 #[.val (.ref a1)] [(.ref a1)])) _
    refine st9 _ ?_
    show Steps p.tables e below (T9.setTop (mkF m 45 #[.val (.ref a1)] [(.int (1 : Int32))])) _
    refine XS.ifYes X9.here hx rfl (pc0 := 45) (pc' := 56) rfl (hb hby d7_45) rfl (XT.i0_ne_t (by decide)) (by decide) (by decide) ?_
    show Steps p.tables e below (T9.setTop (mkF m 56 #[.val (.ref a1)] [])) _
    refine XS.aloadN X9.here hx rfl (hb hby d7_56) rfl rfl ?_
    show Steps p.tables e below (T9.setTop (mkF m 57 #[.val (.ref a1)] [(.ref a1)])) _
    refine XS.iconst X9.here hx rfl (hb hby d7_57) ?_
    show Steps p.tables e below (T9.setTop (mkF m 58 #[.val (.ref a1)] [(.int (0 : Int32)), (.ref a1)])) _
    refine st10 _ ?_
    show Steps p.tables e below (T10.setTop (mkF m 61 #[.val (.ref a1)] [])) _
    refine XS.aloadN X10.here hx rfl (hb hby d7_61) rfl rfl ?_
    show Steps p.tables e below (T10.setTop (mkF m 62 #[.val (.ref a1)] [(.ref a1)])) _
    refine XS.iconst X10.here hx rfl (hb hby d7_62) ?_
    show Steps p.tables e below (T10.setTop (mkF m 63 #[.val (.ref a1)] [(.int (1 : Int32)), (.ref a1)])) _
    refine st21.trans ?_
    exact kt
  have CK34 := CHr.keep (Z := Z) (EL := EL1) (Keep.refl T21.heap [a1]) (sfS (Safe.exa hZ.alike p21_0 (by decide) (by decide)) sf0) CC21.1
  obtain ⟨fs, hr, hrun, hended, hEnd⟩ := X21.leaveW hS (Nat.le_trans hk (Keep.refl T21.heap [a1]).1) (v := some (.ref ks)) (fun h => by rw [Bd.returns] at h; cases h)
  have CT := CK34.trans (CHv.at (s := s) (vm0 := T21.vm) X21 hZ hEL CK34.1)
  refine ⟨_, _, pre33 _ ?_, hrun, hended, _, _, rfl, ?_, ?_, hEnd.1, hEnd.2.1, hEnd.2.2.1, hEnd.2.2.2.mono (by decide) (by decide)⟩
  · show Steps p.tables e below (T21.setTop (mkF m 66 #[.val (.ref a1)] [(.ref ks)])) _
    exact X21.areturnOut hx rfl Bd.returns rfl (hb hby d7_66) hr
  · show Q7 Z a1 ab ie fb u8 cs fmv h0 n0 _ T21.heap _
    exact ⟨ks, bb, rfl, N21, K31, sz_ks, sz_bb, p21_E, p21_v, p21_c, p21_A, p21_0, p21_1, p21_2, p21_3, p21_4⟩
  · rw [hh]
    show CHr Z EL1 s.vm h0 T21.vm T21.heap
    exact CR32.trans CT
theorem pn_23 : plainName "java/lang/StringLatin1" = true := by first | (simp [plainName, overriddenIn]; done) | decide +kernel
theorem ef_23 (m : MethodId) (x0 : Addr) (x1 : Addr) : entryFrame m #[(.ref x0), (.ref x1)] 3 = mkF m 0 #[.val (.ref x0), .val (.ref x1), .unset] [] := by first | (simp [entryFrame, mkF, argsToLocals, Value.category]; done) | rfl
theorem d23_0 : decode jdk_43_method_13_code 0 = .ok (.aload_n 0, 1) := by decide +kernel
theorem d23_1 : decode jdk_43_method_13_code 1 = .ok (.arraylength, 1) := by decide +kernel
theorem d23_2 : decode jdk_43_method_13_code 2 = .ok (.aload_n 1, 1) := by decide +kernel
theorem d23_3 : decode jdk_43_method_13_code 3 = .ok (.arraylength, 1) := by decide +kernel
theorem d23_4 : decode jdk_43_method_13_code 4 = .ok (.if_icmp .ne 30, 3) := by decide +kernel
theorem d23_7 : decode jdk_43_method_13_code 7 = .ok (.iconst 0, 1) := by decide +kernel
theorem d23_8 : decode jdk_43_method_13_code 8 = .ok (.istore_n 2, 1) := by decide +kernel
theorem d23_9 : decode jdk_43_method_13_code 9 = .ok (.iload_n 2, 1) := by decide +kernel
theorem d23_10 : decode jdk_43_method_13_code 10 = .ok (.aload_n 0, 1) := by decide +kernel
theorem d23_11 : decode jdk_43_method_13_code 11 = .ok (.arraylength, 1) := by decide +kernel
theorem d23_12 : decode jdk_43_method_13_code 12 = .ok (.if_icmp .ge 20, 3) := by decide +kernel
theorem d23_15 : decode jdk_43_method_13_code 15 = .ok (.aload_n 0, 1) := by decide +kernel
theorem d23_16 : decode jdk_43_method_13_code 16 = .ok (.iload_n 2, 1) := by decide +kernel
theorem d23_17 : decode jdk_43_method_13_code 17 = .ok (.baload, 1) := by decide +kernel
theorem d23_18 : decode jdk_43_method_13_code 18 = .ok (.aload_n 1, 1) := by decide +kernel
theorem d23_19 : decode jdk_43_method_13_code 19 = .ok (.iload_n 2, 1) := by decide +kernel
theorem d23_20 : decode jdk_43_method_13_code 20 = .ok (.baload, 1) := by decide +kernel
theorem d23_21 : decode jdk_43_method_13_code 21 = .ok (.if_icmp .eq 5, 3) := by decide +kernel
theorem d23_26 : decode jdk_43_method_13_code 26 = .ok (.iinc 2 1, 3) := by decide +kernel
theorem d23_29 : decode jdk_43_method_13_code 29 = .ok (.goto (-20), 3) := by decide +kernel
theorem d23_32 : decode jdk_43_method_13_code 32 = .ok (.iconst 1, 1) := by decide +kernel
theorem d23_33 : decode jdk_43_method_13_code 33 = .ok (.ireturn, 1) := by decide +kernel
def Q23 (Z : State) (a1 : Addr) (a2 : Addr) (h0 : Heap) (n0 : Nat) (v : Option Value) (h : Heap) (L : List Loc) : Prop := v = some (.int (1 : Int32)) ∧ Fr n0 L ∧ h = h0
set_option maxRecDepth 65536 in
set_option maxHeartbeats 40000000 in
theorem rm23 (l : Launch) (Z : State) (a0 : Array Value) (hw : ∀ d ∈ tables_1, d.before a0 Z = true) (ws : List Jvm.Cond) (a1 : Addr) (a2 : Addr) (h0 : Heap) (n0 : Nat) (Z0 : n0 ≤ h0.size) (A_1 : owAI Z h0 a1 .byte 1 (fun _ => (107 : Int32))) (A_2 : owAI Z h0 a2 .byte 1 (fun _ => (107 : Int32))) :
    MetFree l (⟨"java/lang/StringLatin1", "equals", "([B[B)Z"⟩ : MethodName) (head1 (Jvm.Cond.code (⟨"java/lang/StringLatin1", "equals", "([B[B)Z"⟩ : MethodName) jdk_43_method_13_code 3 (some .boolean) :: ws) ({ frames := 0, cells := 0, slots := 0, locals := 0 } : Room)) (fun a U => a = #[(.ref a1), (.ref a2)] ∧ Z.Warmed39 U.vm ∧ U.heap = h0) (fun _ _ _ _ _ => True) (fun _ U o U' => ∃ v L, o = .returned v ∧ Q23 Z a1 a2 h0 n0 v U'.heap L ∧ FrameEnd U o U' L ({ frames := 0, cells := 0, slots := 0, locals := 0 } : Room).cells ({ frames := 0, cells := 0, slots := 0, locals := 0 } : Room).slots) := by
  refine MetFree.of_bodySF (plainFor_of_name pn_23) hisR ?_
  intro p e s m args below meth c s₁ Bd hml0 hP hK
  obtain ⟨rfl, hZ, hh⟩ := hP
  have hx := Bd.exec
  have hby := Bd.bytes
  have hml : c.maxLocals = 3 := hml0
  have hown : s.vm.findClass "java/lang/StringLatin1" = some m.cls := findClass_of_methodNamed Bd.named
  have hnm := (name_of_methodNamed Bd.named Bd.method).1
  have X0 : Stand p l e ({ frames := 0, cells := 0, slots := 0, locals := 0 } : Room) s m #[(.ref a1), (.ref a2)] below meth c s₁ [] 0 0 := Stand.of_body Bd
  have e0 : s₁.heap = h0 := by rw [← hh, Bd.state]; rfl
  have N0 := Fr.nil n0
  have pre0 : ∀ t, Steps p.tables e below (s₁.setTop (mkF m 0 #[.val (.ref a1), .val (.ref a2), .unset] [])) t → Steps p.tables e below (s₁.setTop (entryFrame m #[(.ref a1), (.ref a2)] 3)) t := fun t k => castTop (ef_23 m a1 a2) k
  have pre1 : ∀ t, Steps p.tables e below (s₁.setTop (mkF m 33 #[.val (.ref a1), .val (.ref a2), .val (.int (1 : Int32))] [(.int (1 : Int32))])) t → Steps p.tables e below (s₁.setTop (entryFrame m #[(.ref a1), (.ref a2)] 3)) t := by
    intro t kt
    refine pre0 _ ?_
    show Steps p.tables e below (s₁.setTop (mkF m 0 #[.val (.ref a1), .val (.ref a2), .unset] [])) _
    refine XS.aloadN X0.here hx rfl (hb hby d23_0) rfl rfl ?_
    show Steps p.tables e below (s₁.setTop (mkF m 1 #[.val (.ref a1), .val (.ref a2), .unset] [(.ref a1)])) _
    refine owLenI X0 hx hZ e0 A_1 (z := (1 : Int32)) rfl (g := (mkF m 1 #[.val (.ref a1), .val (.ref a2), .unset] [(.ref a1)])) rfl rfl (hb hby d23_1) _ ?_
    show Steps p.tables e below (s₁.setTop (mkF m 2 #[.val (.ref a1), .val (.ref a2), .unset] [(.int (1 : Int32))])) _
    refine XS.aloadN X0.here hx rfl (hb hby d23_2) rfl rfl ?_
    show Steps p.tables e below (s₁.setTop (mkF m 3 #[.val (.ref a1), .val (.ref a2), .unset] [(.ref a2), (.int (1 : Int32))])) _
    refine owLenI X0 hx hZ e0 A_2 (z := (1 : Int32)) rfl (g := (mkF m 3 #[.val (.ref a1), .val (.ref a2), .unset] [(.ref a2), (.int (1 : Int32))])) rfl rfl (hb hby d23_3) _ ?_
    show Steps p.tables e below (s₁.setTop (mkF m 4 #[.val (.ref a1), .val (.ref a2), .unset] [(.int (1 : Int32)), (.int (1 : Int32))])) _
    refine XS.icmpNo X0.here hx rfl (hb hby d23_4) rfl (XT.ii_ne_f (by decide)) ?_
    show Steps p.tables e below (s₁.setTop (mkF m 7 #[.val (.ref a1), .val (.ref a2), .unset] [])) _
    refine XS.iconst X0.here hx rfl (hb hby d23_7) ?_
    show Steps p.tables e below (s₁.setTop (mkF m 8 #[.val (.ref a1), .val (.ref a2), .unset] [(.int (0 : Int32))])) _
    refine XS.istoreN X0.here hx rfl (hb hby d23_8) rfl (l' := #[.val (.ref a1), .val (.ref a2), .val (.int (0 : Int32))]) rfl ?_
    show Steps p.tables e below (s₁.setTop (mkF m 9 #[.val (.ref a1), .val (.ref a2), .val (.int (0 : Int32))] [])) _
    refine XS.iloadN X0.here hx rfl (hb hby d23_9) rfl ?_
    show Steps p.tables e below (s₁.setTop (mkF m 10 #[.val (.ref a1), .val (.ref a2), .val (.int (0 : Int32))] [(.int (0 : Int32))])) _
    refine XS.aloadN X0.here hx rfl (hb hby d23_10) rfl rfl ?_
    show Steps p.tables e below (s₁.setTop (mkF m 11 #[.val (.ref a1), .val (.ref a2), .val (.int (0 : Int32))] [(.ref a1), (.int (0 : Int32))])) _
    refine owLenI X0 hx hZ e0 A_1 (z := (1 : Int32)) rfl (g := (mkF m 11 #[.val (.ref a1), .val (.ref a2), .val (.int (0 : Int32))] [(.ref a1), (.int (0 : Int32))])) rfl rfl (hb hby d23_11) _ ?_
    show Steps p.tables e below (s₁.setTop (mkF m 12 #[.val (.ref a1), .val (.ref a2), .val (.int (0 : Int32))] [(.int (1 : Int32)), (.int (0 : Int32))])) _
    refine XS.icmpNo X0.here hx rfl (hb hby d23_12) rfl (XT.ii_ge_f (by decide)) ?_
    show Steps p.tables e below (s₁.setTop (mkF m 15 #[.val (.ref a1), .val (.ref a2), .val (.int (0 : Int32))] [])) _
    refine XS.aloadN X0.here hx rfl (hb hby d23_15) rfl rfl ?_
    show Steps p.tables e below (s₁.setTop (mkF m 16 #[.val (.ref a1), .val (.ref a2), .val (.int (0 : Int32))] [(.ref a1)])) _
    refine XS.iloadN X0.here hx rfl (hb hby d23_16) rfl ?_
    show Steps p.tables e below (s₁.setTop (mkF m 17 #[.val (.ref a1), .val (.ref a2), .val (.int (0 : Int32))] [(.int (0 : Int32)), (.ref a1)])) _
    refine owLdB (k := 0) X0 hx hZ e0 A_1 (j := (0 : Int32)) rfl (by decide) (g := (mkF m 17 #[.val (.ref a1), .val (.ref a2), .val (.int (0 : Int32))] [(.int (0 : Int32)), (.ref a1)])) rfl rfl (hb hby d23_17) _ ?_
    show Steps p.tables e below (s₁.setTop (mkF m 18 #[.val (.ref a1), .val (.ref a2), .val (.int (0 : Int32))] [(.int ((fun _ => (107 : Int32)) 0))])) _
    refine XS.aloadN X0.here hx rfl (hb hby d23_18) rfl rfl ?_
    show Steps p.tables e below (s₁.setTop (mkF m 19 #[.val (.ref a1), .val (.ref a2), .val (.int (0 : Int32))] [(.ref a2), (.int ((fun _ => (107 : Int32)) 0))])) _
    refine XS.iloadN X0.here hx rfl (hb hby d23_19) rfl ?_
    show Steps p.tables e below (s₁.setTop (mkF m 20 #[.val (.ref a1), .val (.ref a2), .val (.int (0 : Int32))] [(.int (0 : Int32)), (.ref a2), (.int ((fun _ => (107 : Int32)) 0))])) _
    refine owLdB (k := 0) X0 hx hZ e0 A_2 (j := (0 : Int32)) rfl (by decide) (g := (mkF m 20 #[.val (.ref a1), .val (.ref a2), .val (.int (0 : Int32))] [(.int (0 : Int32)), (.ref a2), (.int ((fun _ => (107 : Int32)) 0))])) rfl rfl (hb hby d23_20) _ ?_
    show Steps p.tables e below (s₁.setTop (mkF m 21 #[.val (.ref a1), .val (.ref a2), .val (.int (0 : Int32))] [(.int ((fun _ => (107 : Int32)) 0)), (.int ((fun _ => (107 : Int32)) 0))])) _
    refine XS.icmpYes X0.here hx rfl (pc0 := 21) (pc' := 26) rfl (hb hby d23_21) rfl (XT.ii_eq_t rfl) (by decide) (by decide) ?_
    show Steps p.tables e below (s₁.setTop (mkF m 26 #[.val (.ref a1), .val (.ref a2), .val (.int (0 : Int32))] [])) _
    refine XS.iinc X0.here hx rfl (hb hby d23_26) rfl (l' := #[.val (.ref a1), .val (.ref a2), .val (.int (1 : Int32))]) rfl ?_
    show Steps p.tables e below (s₁.setTop (mkF m 29 #[.val (.ref a1), .val (.ref a2), .val (.int (1 : Int32))] [])) _
    refine XS.goto X0.here hx rfl (pc0 := 29) (pc' := 9) rfl (hb hby d23_29) (by decide) (by decide) ?_
    show Steps p.tables e below (s₁.setTop (mkF m 9 #[.val (.ref a1), .val (.ref a2), .val (.int (1 : Int32))] [])) _
    refine XS.iloadN X0.here hx rfl (hb hby d23_9) rfl ?_
    show Steps p.tables e below (s₁.setTop (mkF m 10 #[.val (.ref a1), .val (.ref a2), .val (.int (1 : Int32))] [(.int (1 : Int32))])) _
    refine XS.aloadN X0.here hx rfl (hb hby d23_10) rfl rfl ?_
    show Steps p.tables e below (s₁.setTop (mkF m 11 #[.val (.ref a1), .val (.ref a2), .val (.int (1 : Int32))] [(.ref a1), (.int (1 : Int32))])) _
    refine owLenI X0 hx hZ e0 A_1 (z := (1 : Int32)) rfl (g := (mkF m 11 #[.val (.ref a1), .val (.ref a2), .val (.int (1 : Int32))] [(.ref a1), (.int (1 : Int32))])) rfl rfl (hb hby d23_11) _ ?_
    show Steps p.tables e below (s₁.setTop (mkF m 12 #[.val (.ref a1), .val (.ref a2), .val (.int (1 : Int32))] [(.int (1 : Int32)), (.int (1 : Int32))])) _
    refine XS.icmpYes X0.here hx rfl (pc0 := 12) (pc' := 32) rfl (hb hby d23_12) rfl (XT.ii_ge_t (by decide)) (by decide) (by decide) ?_
    show Steps p.tables e below (s₁.setTop (mkF m 32 #[.val (.ref a1), .val (.ref a2), .val (.int (1 : Int32))] [])) _
    refine XS.iconst X0.here hx rfl (hb hby d23_32) ?_
    exact kt
  obtain ⟨fs, hr, hrun, hended, hW, hsame⟩ := X0.leave (v := some (.int (1 : Int32))) (fun h => by rw [Bd.returns] at h; cases h)
  refine ⟨_, _, pre1 _ ?_, hrun, hended, _, _, rfl, ?_, ⟨_, rfl⟩, hW, hsame.mono (by decide) (by decide)⟩
  · show Steps p.tables e below (s₁.setTop (mkF m 33 #[.val (.ref a1), .val (.ref a2), .val (.int (1 : Int32))] [(.int (1 : Int32))])) _
    exact retN X0 hx (t := .boolean) Bd.returns (by simp) (hb hby d23_33) hr
  · show Q23 Z a1 a2 h0 n0 _ s₁.heap _
    rw [e0]
    exact ⟨rfl, N0, rfl⟩
theorem pn_22 : plainName "java/lang/String" = true := by first | (simp [plainName, overriddenIn]; done) | decide +kernel
theorem ef_22 (m : MethodId) (x0 : Addr) (x1 : Addr) : entryFrame m #[(.ref x0), (.ref x1)] 3 = mkF m 0 #[.val (.ref x0), .val (.ref x1), .unset] [] := by first | (simp [entryFrame, mkF, argsToLocals, Value.category]; done) | rfl
theorem d22_0 : decode jdk_42_method_66_code 0 = .ok (.aload_n 0, 1) := by decide +kernel
theorem d22_1 : decode jdk_42_method_66_code 1 = .ok (.aload_n 1, 1) := by decide +kernel
theorem d22_2 : decode jdk_42_method_66_code 2 = .ok (.if_acmp .ne 5, 3) := by decide +kernel
theorem d22_5 : decode jdk_42_method_66_code 5 = .ok (.iconst 1, 1) := by decide +kernel
theorem d22_6 : decode jdk_42_method_66_code 6 = .ok (.ireturn, 1) := by decide +kernel
theorem d22_7 : decode jdk_42_method_66_code 7 = .ok (.aload_n 1, 1) := by decide +kernel
theorem d22_8 : decode jdk_42_method_66_code 8 = .ok (.instanceof 10, 3) := by decide +kernel
theorem d22_11 : decode jdk_42_method_66_code 11 = .ok (.ifCond .eq 43, 3) := by decide +kernel
theorem d22_14 : decode jdk_42_method_66_code 14 = .ok (.aload_n 1, 1) := by decide +kernel
theorem d22_15 : decode jdk_42_method_66_code 15 = .ok (.checkcast 10, 3) := by decide +kernel
theorem d22_18 : decode jdk_42_method_66_code 18 = .ok (.astore_n 2, 1) := by decide +kernel
theorem d22_19 : decode jdk_42_method_66_code 19 = .ok (.getstatic 38, 3) := by decide +kernel
theorem d22_22 : decode jdk_42_method_66_code 22 = .ok (.ifCond .eq 14, 3) := by decide +kernel
theorem d22_25 : decode jdk_42_method_66_code 25 = .ok (.aload_n 0, 1) := by decide +kernel
theorem d22_26 : decode jdk_42_method_66_code 26 = .ok (.getfield 15, 3) := by decide +kernel
theorem d22_29 : decode jdk_42_method_66_code 29 = .ok (.aload_n 2, 1) := by decide +kernel
theorem d22_30 : decode jdk_42_method_66_code 30 = .ok (.getfield 15, 3) := by decide +kernel
theorem d22_33 : decode jdk_42_method_66_code 33 = .ok (.if_icmp .ne 21, 3) := by decide +kernel
theorem d22_36 : decode jdk_42_method_66_code 36 = .ok (.aload_n 0, 1) := by decide +kernel
theorem d22_37 : decode jdk_42_method_66_code 37 = .ok (.getfield 9, 3) := by decide +kernel
theorem d22_40 : decode jdk_42_method_66_code 40 = .ok (.aload_n 2, 1) := by decide +kernel
theorem d22_41 : decode jdk_42_method_66_code 41 = .ok (.getfield 9, 3) := by decide +kernel
theorem pd_15 : parseMethodDescriptor "([B[B)Z" = some ⟨[(.array .byte), (.array .byte)], some .boolean⟩ := by decide +kernel
theorem d22_44 : decode jdk_42_method_66_code 44 = .ok (.invokestatic 541, 3) := by decide +kernel
theorem d22_47 : decode jdk_42_method_66_code 47 = .ok (.ifCond .eq 7, 3) := by decide +kernel
theorem d22_50 : decode jdk_42_method_66_code 50 = .ok (.iconst 1, 1) := by decide +kernel
theorem d22_51 : decode jdk_42_method_66_code 51 = .ok (.goto 4, 3) := by decide +kernel
theorem d22_55 : decode jdk_42_method_66_code 55 = .ok (.ireturn, 1) := by decide +kernel
def Q22 (Z : State) (a1 : Addr) (a2 : Addr) (b1 b2 : Addr) (u8 : Addr) (cs : Int32) (fmv : Value) (h0 : Heap) (n0 : Nat) (v : Option Value) (h : Heap) (L : List Loc) : Prop := v = some (.int (1 : Int32)) ∧ Fr n0 L ∧ h = h0
set_option maxRecDepth 65536 in
set_option maxHeartbeats 40000000 in
theorem rm22 (l : Launch) (Z : State) (a0 : Array Value) (hw : ∀ d ∈ tables_1, d.before a0 Z = true) (ws : List Jvm.Cond) (a1 : Addr) (a2 : Addr) (b1 b2 : Addr) (u8 : Addr) (cs : Int32) (fmv : Value) (h0 : Heap) (n0 : Nat) (Z0 : n0 ≤ h0.size) (E_a1 : Exa Z h0 a1 "java/lang/String") (Fv_a1 : Fld Z h0 a1 "java/lang/String" "value" "[B" (.ref b1)) (Fc_a1 : Fld Z h0 a1 "java/lang/String" "coder" "B" (.int (0 : Int32))) (A_b1 : owAI Z h0 b1 .byte 1 (fun _ => (107 : Int32))) (E_a2 : Exa Z h0 a2 "java/lang/String") (Fv_a2 : Fld Z h0 a2 "java/lang/String" "value" "[B" (.ref b2)) (Fc_a2 : Fld Z h0 a2 "java/lang/String" "coder" "B" (.int (0 : Int32))) (A_b2 : owAI Z h0 b2 .byte 1 (fun _ => (107 : Int32))) (O_x : Old Z n0 h0) (hst : OST Z u8 cs fmv) :
    MetFree l (⟨"java/lang/String", "equals", "(Ljava/lang/Object;)Z"⟩ : MethodName) (head1 (Jvm.Cond.code (⟨"java/lang/String", "equals", "(Ljava/lang/Object;)Z"⟩ : MethodName) jdk_42_method_66_code 3 (some .boolean) :: ws) ({ frames := 1, cells := 0, slots := 0, locals := 14 } : Room)) (fun a U => a = #[(.ref a1), (.ref a2)] ∧ Z.Warmed39 U.vm ∧ U.heap = h0) (fun _ _ _ _ _ => True) (fun _ U o U' => ∃ v L, o = .returned v ∧ Q22 Z a1 a2 b1 b2 u8 cs fmv h0 n0 v U'.heap L ∧ FrameEnd U o U' L ({ frames := 1, cells := 0, slots := 0, locals := 14 } : Room).cells ({ frames := 1, cells := 0, slots := 0, locals := 14 } : Room).slots) := by
  refine MetFree.of_bodySF (plainFor_of_name pn_22) hisR ?_
  intro p e s m args below meth c s₁ Bd hml0 hP hK
  obtain ⟨rfl, hZ, hh⟩ := hP
  have hx := Bd.exec
  have hby := Bd.bytes
  have hml : c.maxLocals = 3 := hml0
  have hown : s.vm.findClass "java/lang/String" = some m.cls := findClass_of_methodNamed Bd.named
  have hnm := (name_of_methodNamed Bd.named Bd.method).1
  have X0 : Stand p l e ({ frames := 1, cells := 0, slots := 0, locals := 14 } : Room) s m #[(.ref a1), (.ref a2)] below meth c s₁ [] 0 0 := Stand.of_body Bd
  have e0 : s₁.heap = h0 := by rw [← hh, Bd.state]; rfl
  have N0 := Fr.nil n0
  have pre0 : ∀ t, Steps p.tables e below (s₁.setTop (mkF m 0 #[.val (.ref a1), .val (.ref a2), .unset] [])) t → Steps p.tables e below (s₁.setTop (entryFrame m #[(.ref a1), (.ref a2)] 3)) t := fun t k => castTop (ef_22 m a1 a2) k
  have pre1 : ∀ t, Steps p.tables e below (s₁.setTop (mkF m 2 #[.val (.ref a1), .val (.ref a2), .unset] [(.ref a2), (.ref a1)])) t → Steps p.tables e below (s₁.setTop (entryFrame m #[(.ref a1), (.ref a2)] 3)) t := by
    intro t kt
    refine pre0 _ ?_
    show Steps p.tables e below (s₁.setTop (mkF m 0 #[.val (.ref a1), .val (.ref a2), .unset] [])) _
    refine XS.aloadN X0.here hx rfl (hb hby d22_0) rfl rfl ?_
    show Steps p.tables e below (s₁.setTop (mkF m 1 #[.val (.ref a1), .val (.ref a2), .unset] [(.ref a1)])) _
    refine XS.aloadN X0.here hx rfl (hb hby d22_1) rfl rfl ?_
    exact kt
  by_cases hc2_2 : a1 = a2
  · skip
    have pre3 : ∀ t, Steps p.tables e below (s₁.setTop (mkF m 6 #[.val (.ref a1), .val (.ref a2), .unset] [(.int (1 : Int32))])) t → Steps p.tables e below (s₁.setTop (entryFrame m #[(.ref a1), (.ref a2)] 3)) t := by
      intro t kt
      refine pre1 _ ?_
      show Steps p.tables e below (s₁.setTop (mkF m 2 #[.val (.ref a1), .val (.ref a2), .unset] [(.ref a2), (.ref a1)])) _
      refine Jvm.RoadKit.acmp (g := (mkF m 2 #[.val (.ref a1), .val (.ref a2), .unset] [(.ref a2), (.ref a1)])) X0 hx rfl rfl rfl (pc0 := 2) (pc' := 5) (same := true) rfl (hb hby d22_2) rfl (decide_eq_true (congrArg Value.ref hc2_2)) (by decide) (by decide) ?_
      show Steps p.tables e below (s₁.setTop (mkF m 5 #[.val (.ref a1), .val (.ref a2), .unset] [])) _
      refine XS.iconst X0.here hx rfl (hb hby d22_5) ?_
      exact kt
    obtain ⟨fs, hr, hrun, hended, hW, hsame⟩ := X0.leave (v := some (.int (1 : Int32))) (fun h => by rw [Bd.returns] at h; cases h)
    refine ⟨_, _, pre3 _ ?_, hrun, hended, _, _, rfl, ?_, ⟨_, rfl⟩, hW, hsame.mono (by decide) (by decide)⟩
    · show Steps p.tables e below (s₁.setTop (mkF m 6 #[.val (.ref a1), .val (.ref a2), .unset] [(.int (1 : Int32))])) _
      exact retN X0 hx (t := .boolean) Bd.returns (by simp) (hb hby d22_6) hr
    · show Q22 Z a1 a2 b1 b2 u8 cs fmv h0 n0 _ s₁.heap _
      rw [e0]
      exact ⟨rfl, N0, rfl⟩
  · skip
    obtain ⟨T4, X4, hE4, st4⟩ := instY X0 hx hZ hown (hw _ (List.mem_of_getElem? (i := 125) rfl)) e0 (Ins.self E_a2) (g := (mkF m 8 #[.val (.ref a1), .val (.ref a2), .unset] [(.ref a2)])) rfl rfl (hb hby d22_8)
    obtain ⟨T5, X5, hE5, st5⟩ := castY X4 hx hZ hown (hw _ (List.mem_of_getElem? (i := 125) rfl)) hE4 (Ins.self E_a2) (g := (mkF m 15 #[.val (.ref a1), .val (.ref a2), .unset] [(.ref a2)])) rfl rfl (hb hby d22_15)
    have S6 := hst.2.2.2.1.ext O_x.2
    obtain ⟨T7, X7, hE7, st7⟩ := getS2 X5 hx hZ hown (host := "") (Or.inl (hw _ (List.mem_of_getElem? (i := 85) rfl))) Via.refl hE5 S6 (g := (mkF m 19 #[.val (.ref a1), .val (.ref a2), .val (.ref a2)] [])) rfl (hb hby d22_19)
    obtain ⟨T8, X8, hE8, st8⟩ := getF X7 hx hZ hown (host := "") (Or.inl (hw _ (List.mem_of_getElem? (i := 110) rfl))) Via.refl hE7 Fc_a1 (g := (mkF m 26 #[.val (.ref a1), .val (.ref a2), .val (.ref a2)] [(.ref a1)])) rfl rfl (hb hby d22_26)
    obtain ⟨T9, X9, hE9, st9⟩ := getF X8 hx hZ hown (host := "") (Or.inl (hw _ (List.mem_of_getElem? (i := 110) rfl))) Via.refl hE8 Fc_a2 (g := (mkF m 30 #[.val (.ref a1), .val (.ref a2), .val (.ref a2)] [(.ref a2), (.int (0 : Int32))])) rfl rfl (hb hby d22_30)
    obtain ⟨T10, X10, hE10, st10⟩ := getF X9 hx hZ hown (host := "") (Or.inl (hw _ (List.mem_of_getElem? (i := 108) rfl))) Via.refl hE9 Fv_a1 (g := (mkF m 37 #[.val (.ref a1), .val (.ref a2), .val (.ref a2)] [(.ref a1)])) rfl rfl (hb hby d22_37)
    obtain ⟨T11, X11, hE11, st11⟩ := getF X10 hx hZ hown (host := "") (Or.inl (hw _ (List.mem_of_getElem? (i := 108) rfl))) Via.refl hE10 Fv_a2 (g := (mkF m 41 #[.val (.ref a1), .val (.ref a2), .val (.ref a2)] [(.ref a2), (.ref b1)])) rfl rfl (hb hby d22_41)
    obtain ⟨_, _, ⟨T12, L12, k12, n12⟩, -, X12, ⟨Lc12, hQ12, l12, y12, z12⟩, st12⟩ := Jvm.LawKit.callS X11 hx (y := (⟨"java/lang/StringLatin1", "equals", "([B[B)Z"⟩ : MethodName)) hown (mvT hZ (hw _ (List.mem_of_getElem? (i := 126) rfl))) (mvT hZ (hw _ (List.mem_of_getElem? (i := 127) rfl))) (mvT hZ (hw _ (List.mem_of_getElem? (i := 128) rfl))) (mvT hZ (hw _ (List.mem_of_getElem? (i := 129) rfl))) (by decide) (backOf (W := 0) (rm23 l Z a0 hw [] b1 b2 h0 n0 Z0 A_b1 A_b2) hZ (hw _ (List.mem_of_getElem? (i := 129) rfl)) (hw _ (List.mem_of_getElem? (i := 128) rfl)) (by decide) (by decide)) (g := (mkF m 44 #[.val (.ref a1), .val (.ref a2), .val (.ref a2)] [(.ref b2), (.ref b1)])) rfl (by rw [hml]; rfl) (argsL := [(.ref b1), (.ref b2)]) (rest := []) (lenOf pd_15 rfl) rfl (by show 2 * 0 + _ ≤ _; exact Nat.le_of_eq rfl) (hb hby d22_44) (fun _ _ => ⟨rfl, hE11, (by decide : 0 + 0 ≤ _), (by decide : 0 + 0 ≤ _)⟩)
    dsimp only [Pt.U, Pt.locs, Pt.cells, Pt.slots] at X12 l12 y12 z12 st12 hQ12
    subst l12 y12 z12
    obtain ⟨rfl, N12q, hE12⟩ := hQ12
    have N12 := Fr.app N0 N12q
    have pre13 : ∀ t, Steps p.tables e below (T12.setTop (mkF m 55 #[.val (.ref a1), .val (.ref a2), .val (.ref a2)] [(.int (1 : Int32))])) t → Steps p.tables e below (s₁.setTop (entryFrame m #[(.ref a1), (.ref a2)] 3)) t := by
      intro t kt
      refine pre1 _ ?_
      show Steps p.tables e below (s₁.setTop (mkF m 2 #[.val (.ref a1), .val (.ref a2), .unset] [(.ref a2), (.ref a1)])) _
      refine Jvm.RoadKit.acmp (g := (mkF m 2 #[.val (.ref a1), .val (.ref a2), .unset] [(.ref a2), (.ref a1)])) X0 hx rfl rfl rfl (pc0 := 2) (pc' := 7) (same := false) rfl (hb hby d22_2) rfl (decide_eq_false fun q => hc2_2 (Value.ref.inj q)) (by decide) (by decide) ?_
      show Steps p.tables e below (s₁.setTop (mkF m 7 #[.val (.ref a1), .val (.ref a2), .unset] [])) _
      refine XS.aloadN X0.here hx rfl (hb hby d22_7) rfl rfl ?_
      show Steps p.tables e below (s₁.setTop (mkF m 8 #[.val (.ref a1), .val (.ref a2), .unset] [(.ref a2)])) _
      refine st4 _ ?_
      show Steps p.tables e below (T4.setTop (mkF m 11 #[.val (.ref a1), .val (.ref a2), .unset] [(.int (1 : Int32))])) _
      refine XS.ifNo X4.here hx rfl (hb hby d22_11) rfl (XT.i0_eq_f (by decide)) ?_
      show Steps p.tables e below (T4.setTop (mkF m 14 #[.val (.ref a1), .val (.ref a2), .unset] [])) _
      refine XS.aloadN X4.here hx rfl (hb hby d22_14) rfl rfl ?_
      show Steps p.tables e below (T4.setTop (mkF m 15 #[.val (.ref a1), .val (.ref a2), .unset] [(.ref a2)])) _
      refine st5 _ ?_
      show Steps p.tables e below (T5.setTop (mkF m 18 #[.val (.ref a1), .val (.ref a2), .unset] [(.ref a2)])) _
      refine XS.astoreN X5.here hx rfl (hb hby d22_18) rfl rfl (l' := #[.val (.ref a1), .val (.ref a2), .val (.ref a2)]) rfl ?_
      show Steps p.tables e below (T5.setTop (mkF m 19 #[.val (.ref a1), .val (.ref a2), .val (.ref a2)] [])) _
      refine st7 _ ?_
      show Steps p.tables e below (T7.setTop (mkF m 22 #[.val (.ref a1), .val (.ref a2), .val (.ref a2)] [(.int cs)])) _
      refine XS.ifNo X7.here hx rfl (hb hby d22_22) rfl (XT.i0_eq_f hst.2.2.2.2.1) ?_
      show Steps p.tables e below (T7.setTop (mkF m 25 #[.val (.ref a1), .val (.ref a2), .val (.ref a2)] [])) _
      refine XS.aloadN X7.here hx rfl (hb hby d22_25) rfl rfl ?_
      show Steps p.tables e below (T7.setTop (mkF m 26 #[.val (.ref a1), .val (.ref a2), .val (.ref a2)] [(.ref a1)])) _
      refine st8 _ ?_
      show Steps p.tables e below (T8.setTop (mkF m 29 #[.val (.ref a1), .val (.ref a2), .val (.ref a2)] [(.int (0 : Int32))])) _
      refine XS.aloadN X8.here hx rfl (hb hby d22_29) rfl rfl ?_
      show Steps p.tables e below (T8.setTop (mkF m 30 #[.val (.ref a1), .val (.ref a2), .val (.ref a2)] [(.ref a2), (.int (0 : Int32))])) _
      refine st9 _ ?_
      show Steps p.tables e below (T9.setTop (mkF m 33 #[.val (.ref a1), .val (.ref a2), .val (.ref a2)] [(.int (0 : Int32)), (.int (0 : Int32))])) _
      refine XS.icmpNo X9.here hx rfl (hb hby d22_33) rfl (XT.ii_ne_f (by decide)) ?_
      show Steps p.tables e below (T9.setTop (mkF m 36 #[.val (.ref a1), .val (.ref a2), .val (.ref a2)] [])) _
      refine XS.aloadN X9.here hx rfl (hb hby d22_36) rfl rfl ?_
      show Steps p.tables e below (T9.setTop (mkF m 37 #[.val (.ref a1), .val (.ref a2), .val (.ref a2)] [(.ref a1)])) _
      refine st10 _ ?_
      show Steps p.tables e below (T10.setTop (mkF m 40 #[.val (.ref a1), .val (.ref a2), .val (.ref a2)] [(.ref b1)])) _
      refine XS.aloadN X10.here hx rfl (hb hby d22_40) rfl rfl ?_
      show Steps p.tables e below (T10.setTop (mkF m 41 #[.val (.ref a1), .val (.ref a2), .val (.ref a2)] [(.ref a2), (.ref b1)])) _
      refine st11 _ ?_
      show Steps p.tables e below (T11.setTop (mkF m 44 #[.val (.ref a1), .val (.ref a2), .val (.ref a2)] [(.ref b2), (.ref b1)])) _
      refine st12 _ ?_
      show Steps p.tables e below (T12.setTop (mkF m 47 #[.val (.ref a1), .val (.ref a2), .val (.ref a2)] [(.int (1 : Int32))])) _
      refine XS.ifNo X12.here hx rfl (hb hby d22_47) rfl (XT.i0_eq_f (by decide)) ?_
      show Steps p.tables e below (T12.setTop (mkF m 50 #[.val (.ref a1), .val (.ref a2), .val (.ref a2)] [])) _
      refine XS.iconst X12.here hx rfl (hb hby d22_50) ?_
      show Steps p.tables e below (T12.setTop (mkF m 51 #[.val (.ref a1), .val (.ref a2), .val (.ref a2)] [(.int (1 : Int32))])) _
      refine XS.goto X12.here hx rfl (pc0 := 51) (pc' := 55) rfl (hb hby d22_51) (by decide) (by decide) ?_
      exact kt
    obtain ⟨fs, hr, hrun, hended, hW, hsame⟩ := X12.leave (v := some (.int (1 : Int32))) (fun h => by rw [Bd.returns] at h; cases h)
    refine ⟨_, _, pre13 _ ?_, hrun, hended, _, _, rfl, ?_, ⟨_, rfl⟩, hW, hsame.mono (by decide) (by decide)⟩
    · show Steps p.tables e below (T12.setTop (mkF m 55 #[.val (.ref a1), .val (.ref a2), .val (.ref a2)] [(.int (1 : Int32))])) _
      exact retN X12 hx (t := .boolean) Bd.returns (by simp) (hb hby d22_55) hr
    · show Q22 Z a1 a2 b1 b2 u8 cs fmv h0 n0 _ T12.heap _
      rw [hE12]
      exact ⟨rfl, N12, rfl⟩
theorem own_en (p5 en : Int32) (h_en : en = ((6 : Int32) + ((p5 &&& (2147483647 : Int32)) % (3 : Int32)))) : OE en := by
  have h1 := c_mask p5 2147483647 31 (by decide) (by decide)
  have h2 := (c_irem (p5 &&& 2147483647) 3 3 rfl).1
  obtain ⟨r, hr⟩ : ∃ r, r = (p5 &&& (2147483647 : Int32)) % (3 : Int32) := ⟨_, rfl⟩
  rw [← hr] at h2 h_en
  have h3 := c_iadd 6 r
  rw [← h_en] at h3
  have h4 := rng32 en
  have l6 : (6 : Int32).toInt = 6 := rfl
  constructor <;> omega
theorem own_ob (fb : Nat → Int32) (p3 p4 bv bw : Int32) (h_fb : fb = (owUp (owUp (owUp (owUp (owUp (owUp (owUp (owUp (owUp (fun _ => 0) 0 ((p3.toInt8.toInt32).toInt8.toInt32)) 1 ((123 : Int32).toInt8.toInt32)) 2 ((34 : Int32).toInt8.toInt32)) 3 ((107 : Int32).toInt8.toInt32)) 4 ((34 : Int32).toInt8.toInt32)) 5 ((58 : Int32).toInt8.toInt32)) 6 (bv.toInt8.toInt32)) 7 (bw.toInt8.toInt32)) 8 ((p4.toInt8.toInt32).toInt8.toInt32))) : OB fb := by
  have hr : ∀ i, -128 ≤ (fb i).toInt ∧ (fb i).toInt < 128 := by
    rw [h_fb]
    exact owUpP (P := fun x : Int32 => -128 ≤ x.toInt ∧ x.toInt < 128) (owUpP (P := fun x : Int32 => -128 ≤ x.toInt ∧ x.toInt < 128) (owUpP (P := fun x : Int32 => -128 ≤ x.toInt ∧ x.toInt < 128) (owUpP (P := fun x : Int32 => -128 ≤ x.toInt ∧ x.toInt < 128) (owUpP (P := fun x : Int32 => -128 ≤ x.toInt ∧ x.toInt < 128) (owUpP (P := fun x : Int32 => -128 ≤ x.toInt ∧ x.toInt < 128) (owUpP (P := fun x : Int32 => -128 ≤ x.toInt ∧ x.toInt < 128) (owUpP (P := fun x : Int32 => -128 ≤ x.toInt ∧ x.toInt < 128) (owUpP (P := fun x : Int32 => -128 ≤ x.toInt ∧ x.toInt < 128) (fun _ => by decide) (c_i2b _).2) (c_i2b _).2) (c_i2b _).2) (c_i2b _).2) (c_i2b _).2) (c_i2b _).2) (c_i2b _).2) (c_i2b _).2) (c_i2b _).2
  refine ⟨?_, ?_, ?_, ?_, ?_, hr⟩ <;> rw [h_fb] <;> rfl
theorem own_i2b2 (p bv : Int32) (h : bv = (p.toInt8.toInt32)) : (bv.toInt8.toInt32) = bv := by
  have h1 := (c_i2b p)
  rw [← h] at h1
  have h2 := c_i2b bv
  apply Int32.toInt_inj.mp
  omega
theorem own_b6 (fb : Nat → Int32) (p1 p3 p4 bv bw : Int32) (h_fb : fb = (owUp (owUp (owUp (owUp (owUp (owUp (owUp (owUp (owUp (fun _ => 0) 0 ((p3.toInt8.toInt32).toInt8.toInt32)) 1 ((123 : Int32).toInt8.toInt32)) 2 ((34 : Int32).toInt8.toInt32)) 3 ((107 : Int32).toInt8.toInt32)) 4 ((34 : Int32).toInt8.toInt32)) 5 ((58 : Int32).toInt8.toInt32)) 6 (bv.toInt8.toInt32)) 7 (bw.toInt8.toInt32)) 8 ((p4.toInt8.toInt32).toInt8.toInt32))) (h_bv : bv = (p1.toInt8.toInt32)) : fb 6 = bv := by
  have q : fb 6 = (bv.toInt8.toInt32) := by rw [h_fb]; rfl
  rw [q]; exact own_i2b2 p1 bv h_bv
theorem own_b7 (fb : Nat → Int32) (p2 p3 p4 bv bw : Int32) (h_fb : fb = (owUp (owUp (owUp (owUp (owUp (owUp (owUp (owUp (owUp (fun _ => 0) 0 ((p3.toInt8.toInt32).toInt8.toInt32)) 1 ((123 : Int32).toInt8.toInt32)) 2 ((34 : Int32).toInt8.toInt32)) 3 ((107 : Int32).toInt8.toInt32)) 4 ((34 : Int32).toInt8.toInt32)) 5 ((58 : Int32).toInt8.toInt32)) 6 (bv.toInt8.toInt32)) 7 (bw.toInt8.toInt32)) 8 ((p4.toInt8.toInt32).toInt8.toInt32))) (h_bw : bw = (p2.toInt8.toInt32)) : fb 7 = bw := by
  have q : fb 7 = (bw.toInt8.toInt32) := by rw [h_fb]; rfl
  rw [q]; exact own_i2b2 p2 bw h_bw
theorem own_posr (en b6 b7 : Int32) : 6 ≤ (own_pos en b6 b7).toInt ∧ (own_pos en b6 b7).toInt ≤ 8 := by
  unfold own_pos
  repeat' split
  all_goals decide
theorem own_kp (x : Int32) (h : 6 ≤ x.toInt ∧ x.toInt ≤ 8) : ∃ k : Nat, x.toInt = (k : Int) ∧ k < 9 := ⟨x.toInt.toNat, by omega, by omega⟩
theorem own_posl (en bv bw : Int32) (fb : Nat → Int32) (h6 : fb 6 = bv) (h7 : fb 7 = bw) : own_pos en (fb 6) (fb 7) = if (6 : Int32) < en then (if (fn24 bv) = (0 : Int32) then (6 : Int32) else (if (7 : Int32) < en then (if (fn24 bw) = (0 : Int32) then (7 : Int32) else (8 : Int32)) else (7 : Int32))) else (6 : Int32) := by
  rw [h6, h7]; rfl
theorem own_fin (a1 ab : Addr) (en : Int32) (fb : Nat → Int32) (kp : Nat) (ac po : Int32) {pl : Int32} {kl : Nat} (hpl : po = pl) (hk : pl.toInt = (kl : Int)) (h_ac : ac = fn3 a1 ab po en fb kp) (h_kp : po.toInt = (kp : Int)) : ac = if pl < en then (if (fb kl) = (34 : Int32) then (1 : Int32) else (0 : Int32)) else (0 : Int32) := by
  subst hpl
  have q : kp = kl := by omega
  subst q
  rw [h_ac]; rfl
theorem own_before {a1 ab : Addr} {en be : Int32} {fb : Nat → Int32} (hoe : OE en) (hob : OB fb) (h : be = fn3 a1 ab (1 : Int32) en fb 1) : be = (0 : Int32) := by
  rw [h]; unfold fn3
  rw [if_pos (own_lt hoe (by decide)), hob.1]; rfl
theorem own_sets {s : State} {args : Array Value} (hsets : ∀ w ∈ jdkStatics_1, w.before args s = true) : ∃ (u8 : Addr) (cs : Int32) (fmv : Value), OST s u8 cs fmv ∧ Jvm.Lit.compactW.before args s = true := by
  have w5 := Cond.before_iff.mp (hsets _ (List.mem_of_getElem? (i := 5) rfl))
  have w17 := Cond.before_iff.mp (hsets _ (List.mem_of_getElem? (i := 17) rfl))
  have w7 := Cond.before_iff.mp (hsets _ (List.mem_of_getElem? (i := 7) rfl))
  have w4 := Cond.before_iff.mp (hsets _ (List.mem_of_getElem? (i := 4) rfl))
  have w8 := hsets _ (List.mem_of_getElem? (i := 8) rfl)
  have w8' := Cond.before_iff.mp w8
  have w14 := Cond.before_iff.mp (hsets _ (List.mem_of_getElem? (i := 14) rfl))
  obtain ⟨u8, e5⟩ := exa_v w5
  obtain ⟨u9, e17⟩ := exa_v w17
  obtain ⟨cs, e7⟩ := is_v w7
  obtain ⟨fmv, e14, hf⟩ := isR_v w14
  have hu : u9 = u8 := by
    simp [Cond.value, e5, e17] at w4
    exact w4.symm
  subst hu
  have hcs : ¬ cs = (0 : Int32) := by
    intro q
    have e0 : (Term.int (0 : Int32)).eval args s none [] s = some (.int 0) := Term.int_eval 0
    simp [Cond.value, e7, e0, q] at w8'
  exact ⟨u9, cs, fmv, ⟨Sta.start e5 (Or.inl (hsets _ (List.mem_of_getElem? (i := 1) rfl))), Sta.start e17 (Or.inl (hsets _ (List.mem_of_getElem? (i := 3) rfl))), Exa.start e5 w5, Sta.start e7 (Or.inl (hsets _ (List.mem_of_getElem? (i := 6) rfl))), hcs, Sta.start e14 (Or.inl (hsets _ (List.mem_of_getElem? (i := 13) rfl))), hf⟩, w8⟩

theorem pn_0 : plainName "com/example/fama/fama/table/JsonLineAtStringPinLaw" = true := by first | (simp [plainName, overriddenIn]; done) | decide +kernel
theorem ef_0 (m : MethodId) (x0 : Int32) (x1 : Int32) (x2 : Int32) (x3 : Int32) (x4 : Int32) : entryFrame m #[(.int x0), (.int x1), (.int x2), (.int x3), (.int x4)] maxLocals = mkF m 0 #[.val (.int x0), .val (.int x1), .val (.int x2), .val (.int x3), .val (.int x4), .unset, .unset, .unset, .unset, .unset, .unset, .unset, .unset, .unset, .unset, .unset] [] := by first | (simp [entryFrame, mkF, argsToLocals, Value.category, maxLocals]; done) | rfl
theorem pd_16 : parseMethodDescriptor "([BII)V" = some ⟨[(.array .byte), .int, .int], none⟩ := by decide +kernel
theorem pd_17 : parseMethodDescriptor "()Ljava/lang/String;" = some ⟨[], some (.object "java/lang/String")⟩ := by decide +kernel
theorem pd_18 : parseMethodDescriptor "(Ljava/lang/Object;)Z" = some ⟨[(.object "java/lang/Object")], some .boolean⟩ := by decide +kernel
def Q0 (Z : State) (p1 : Int32) (p2 : Int32) (p3 : Int32) (p4 : Int32) (p5 : Int32) (u8 : Addr) (cs : Int32) (fmv : Value) (h0 : Heap) (n0 : Nat) (v : Option Value) (h : Heap) (L : List Loc) : Prop := v = some (.int 1) ∧ Fr n0 L
set_option maxRecDepth 65536 in
set_option maxHeartbeats 40000000 in
theorem rm0 (l : Launch) (Z : State) (a0 : Array Value) (hw : ∀ d ∈ tables_1, d.before a0 Z = true) (ws : List Jvm.Cond) (p1 : Int32) (p2 : Int32) (p3 : Int32) (p4 : Int32) (p5 : Int32) (u8 : Addr) (cs : Int32) (fmv : Value) (h0 : Heap) (n0 : Nat) (Z0 : n0 ≤ h0.size) (O0 : Old Z n0 h0) (hst : OST Z u8 cs fmv) :
    MetFree l x (head1 (Jvm.Cond.code x code maxLocals ret :: ws) room_1) (fun a U => a = #[(.int p1), (.int p2), (.int p3), (.int p4), (.int p5)] ∧ Z.Warmed39 U.vm ∧ U.heap = h0 ∧ CHv Z EL1 U.vm h0) (fun _ _ _ _ _ => True) (fun _ U o U' => ∃ v L, o = .returned v ∧ Q0 Z p1 p2 p3 p4 p5 u8 cs fmv h0 n0 v U'.heap L ∧ CHr Z EL1 U.vm U.heap U'.vm U'.heap ∧ ReturnedEndW U o U' L room_1.cells room_1.slots) := by
  refine MetFree.of_bodySF (plainFor_of_name pn_0) hisR ?_
  intro p e s m args below meth c s₁ Bd hml0 hP hK
  obtain ⟨rfl, hZ, hh, CH0⟩ := hP
  have hx := Bd.exec
  have hby := Bd.bytes
  have hml : c.maxLocals = 16 := hml0
  have hown : s.vm.findClass "com/example/fama/fama/table/JsonLineAtStringPinLaw" = some m.cls := findClass_of_methodNamed Bd.named
  have hnm := (name_of_methodNamed Bd.named Bd.method).1
  have X0 : Stand p l e room_1 (s.setVm s.vm) m #[(.int p1), (.int p2), (.int p3), (.int p4), (.int p5)] below meth c s₁ [] 0 0 := Stand.of_body Bd
  have e0 : s₁.heap = h0 := by rw [← hh, Bd.state]; rfl
  have N0 := Fr.nil n0
  have pre0 : ∀ t, Steps p.tables e below (s₁.setTop (mkF m 0 #[.val (.int p1), .val (.int p2), .val (.int p3), .val (.int p4), .val (.int p5), .unset, .unset, .unset, .unset, .unset, .unset, .unset, .unset, .unset, .unset, .unset] [])) t → Steps p.tables e below (s₁.setTop (entryFrame m #[(.int p1), (.int p2), (.int p3), (.int p4), (.int p5)] maxLocals)) t := fun t k => castTop (ef_0 m p1 p2 p3 p4 p5) k
  have hS : s.Since s.vm 0 := (State.WarmedH.refl s).since 0
  have hk : 0 ≤ h0.size := Nat.zero_le _
  have hEL : EW Z a0 EL1 := own_EW hw
  have hwS := own_wS hw
  have pre1 : ∀ t, Steps p.tables e below (s₁.setTop (mkF m 2 #[.val (.int p1), .val (.int p2), .val (.int p3), .val (.int p4), .val (.int p5), .unset, .unset, .unset, .unset, .unset, .unset, .unset, .unset, .unset, .unset, .unset] [(.int (p1.toInt8.toInt32))])) t → Steps p.tables e below (s₁.setTop (entryFrame m #[(.int p1), (.int p2), (.int p3), (.int p4), (.int p5)] maxLocals)) t := by
    intro t kt
    refine pre0 _ ?_
    show Steps p.tables e below (s₁.setTop (mkF m 0 #[.val (.int p1), .val (.int p2), .val (.int p3), .val (.int p4), .val (.int p5), .unset, .unset, .unset, .unset, .unset, .unset, .unset, .unset, .unset, .unset, .unset] [])) _
    refine XS.iloadN X0.here hx rfl (hb hby at_0) rfl ?_
    show Steps p.tables e below (s₁.setTop (mkF m 1 #[.val (.int p1), .val (.int p2), .val (.int p3), .val (.int p4), .val (.int p5), .unset, .unset, .unset, .unset, .unset, .unset, .unset, .unset, .unset, .unset, .unset] [(.int p1)])) _
    refine XS.i2b X0.here hx rfl (hb hby at_1) rfl ?_
    exact kt
  obtain ⟨bv, h_bv⟩ : ∃ z : Int32, z = (p1.toInt8.toInt32) := ⟨_, rfl⟩
  have pre2 : ∀ t, Steps p.tables e below (s₁.setTop (mkF m 2 #[.val (.int p1), .val (.int p2), .val (.int p3), .val (.int p4), .val (.int p5), .unset, .unset, .unset, .unset, .unset, .unset, .unset, .unset, .unset, .unset, .unset] [(.int bv)])) t → Steps p.tables e below (s₁.setTop (entryFrame m #[(.int p1), (.int p2), (.int p3), (.int p4), (.int p5)] maxLocals)) t := by
    intro t kt
    rw [h_bv] at kt
    exact pre1 _ kt
  have pre3 : ∀ t, Steps p.tables e below (s₁.setTop (mkF m 6 #[.val (.int p1), .val (.int p2), .val (.int p3), .val (.int p4), .val (.int p5), .val (.int bv), .unset, .unset, .unset, .unset, .unset, .unset, .unset, .unset, .unset, .unset] [(.int (p2.toInt8.toInt32))])) t → Steps p.tables e below (s₁.setTop (entryFrame m #[(.int p1), (.int p2), (.int p3), (.int p4), (.int p5)] maxLocals)) t := by
    intro t kt
    refine pre2 _ ?_
    show Steps p.tables e below (s₁.setTop (mkF m 2 #[.val (.int p1), .val (.int p2), .val (.int p3), .val (.int p4), .val (.int p5), .unset, .unset, .unset, .unset, .unset, .unset, .unset, .unset, .unset, .unset, .unset] [(.int bv)])) _
    refine XS.istore X0.here hx rfl (hb hby at_2) rfl (l' := #[.val (.int p1), .val (.int p2), .val (.int p3), .val (.int p4), .val (.int p5), .val (.int bv), .unset, .unset, .unset, .unset, .unset, .unset, .unset, .unset, .unset, .unset]) rfl ?_
    show Steps p.tables e below (s₁.setTop (mkF m 4 #[.val (.int p1), .val (.int p2), .val (.int p3), .val (.int p4), .val (.int p5), .val (.int bv), .unset, .unset, .unset, .unset, .unset, .unset, .unset, .unset, .unset, .unset] [])) _
    refine XS.iloadN X0.here hx rfl (hb hby at_4) rfl ?_
    show Steps p.tables e below (s₁.setTop (mkF m 5 #[.val (.int p1), .val (.int p2), .val (.int p3), .val (.int p4), .val (.int p5), .val (.int bv), .unset, .unset, .unset, .unset, .unset, .unset, .unset, .unset, .unset, .unset] [(.int p2)])) _
    refine XS.i2b X0.here hx rfl (hb hby at_5) rfl ?_
    exact kt
  obtain ⟨bw, h_bw⟩ : ∃ z : Int32, z = (p2.toInt8.toInt32) := ⟨_, rfl⟩
  have pre4 : ∀ t, Steps p.tables e below (s₁.setTop (mkF m 6 #[.val (.int p1), .val (.int p2), .val (.int p3), .val (.int p4), .val (.int p5), .val (.int bv), .unset, .unset, .unset, .unset, .unset, .unset, .unset, .unset, .unset, .unset] [(.int bw)])) t → Steps p.tables e below (s₁.setTop (entryFrame m #[(.int p1), (.int p2), (.int p3), (.int p4), (.int p5)] maxLocals)) t := by
    intro t kt
    rw [h_bw] at kt
    exact pre3 _ kt
  obtain ⟨T5, gh5, k5, X5, hE5, E5, A5, st5⟩ := newP X0 hx hZ (hw _ (List.mem_of_getElem? (i := 0) rfl)) e0 (g := (mkF m 10 #[.val (.int p1), .val (.int p2), .val (.int p3), .val (.int p4), .val (.int p5), .val (.int bv), .val (.int bw), .unset, .unset, .unset, .unset, .unset, .unset, .unset, .unset, .unset] [(.int (9 : Int32))])) rfl (hb hby at_10) rfl (by decide) (cap := 9) (by decide) (by decide) (by decide) (by decide)
  obtain ⟨ab, g5⟩ : ∃ z, z = h0.size := ⟨_, rfl⟩
  rw [← g5] at A5 st5
  have g_ab : n0 ≤ ab := Nat.le_trans Z0 (Nat.le_of_eq g5.symm)
  have sz_ab : h0.size ≤ ab := Nat.le_trans (Keep.refl h0 []).1 (Nat.le_of_eq g5.symm)
  have f6 := O0.ext E5
  have Z7 := Nat.le_trans Z0 E5.1
  have K8 := (Keep.refl h0 []).ext E5
  have V5 : owAI Z gh5 ab .byte 9 (fun _ => 0) := owAI.new A5 rfl rfl
  obtain ⟨T9, gh9, X9, hE9, W9, V9, st9⟩ := owStB X5 hx hZ hE5 V5 (k := 0) (j := (0 : Int32)) rfl (by decide) (g := (mkF m 19 #[.val (.int p1), .val (.int p2), .val (.int p3), .val (.int p4), .val (.int p5), .val (.int bv), .val (.int bw), .val (.ref ab), .unset, .unset, .unset, .unset, .unset, .unset, .unset, .unset] [(.int (p3.toInt8.toInt32)), (.int (0 : Int32)), (.ref ab)])) rfl rfl (hb hby at_19)
  have f10 := f6.wr W9 g_ab
  have Z12 := Nat.le_trans Z7 (Keep.of_wr W9).1
  have N13 := Fr.snoc X9 N0 g_ab
  have K14 := K8.wr W9 (Or.inr sz_ab)
  obtain ⟨T15, gh15, X15, hE15, W15, V15, st15⟩ := owStB X9 hx hZ hE9 V9 (k := 1) (j := (1 : Int32)) rfl (by decide) (g := (mkF m 25 #[.val (.int p1), .val (.int p2), .val (.int p3), .val (.int p4), .val (.int p5), .val (.int bv), .val (.int bw), .val (.ref ab), .unset, .unset, .unset, .unset, .unset, .unset, .unset, .unset] [(.int (123 : Int32)), (.int (1 : Int32)), (.ref ab)])) rfl rfl (hb hby at_25)
  have f16 := f10.wr W15 g_ab
  have Z18 := Nat.le_trans Z12 (Keep.of_wr W15).1
  have N19 := Fr.snoc X15 N13 g_ab
  have K20 := K14.wr W15 (Or.inr sz_ab)
  obtain ⟨T21, gh21, X21, hE21, W21, V21, st21⟩ := owStB X15 hx hZ hE15 V15 (k := 2) (j := (2 : Int32)) rfl (by decide) (g := (mkF m 31 #[.val (.int p1), .val (.int p2), .val (.int p3), .val (.int p4), .val (.int p5), .val (.int bv), .val (.int bw), .val (.ref ab), .unset, .unset, .unset, .unset, .unset, .unset, .unset, .unset] [(.int (34 : Int32)), (.int (2 : Int32)), (.ref ab)])) rfl rfl (hb hby at_31)
  have f22 := f16.wr W21 g_ab
  have Z24 := Nat.le_trans Z18 (Keep.of_wr W21).1
  have N25 := Fr.snoc X21 N19 g_ab
  have K26 := K20.wr W21 (Or.inr sz_ab)
  obtain ⟨T27, gh27, X27, hE27, W27, V27, st27⟩ := owStB X21 hx hZ hE21 V21 (k := 3) (j := (3 : Int32)) rfl (by decide) (g := (mkF m 37 #[.val (.int p1), .val (.int p2), .val (.int p3), .val (.int p4), .val (.int p5), .val (.int bv), .val (.int bw), .val (.ref ab), .unset, .unset, .unset, .unset, .unset, .unset, .unset, .unset] [(.int (107 : Int32)), (.int (3 : Int32)), (.ref ab)])) rfl rfl (hb hby at_37)
  have f28 := f22.wr W27 g_ab
  have Z30 := Nat.le_trans Z24 (Keep.of_wr W27).1
  have N31 := Fr.snoc X27 N25 g_ab
  have K32 := K26.wr W27 (Or.inr sz_ab)
  obtain ⟨T33, gh33, X33, hE33, W33, V33, st33⟩ := owStB X27 hx hZ hE27 V27 (k := 4) (j := (4 : Int32)) rfl (by decide) (g := (mkF m 43 #[.val (.int p1), .val (.int p2), .val (.int p3), .val (.int p4), .val (.int p5), .val (.int bv), .val (.int bw), .val (.ref ab), .unset, .unset, .unset, .unset, .unset, .unset, .unset, .unset] [(.int (34 : Int32)), (.int (4 : Int32)), (.ref ab)])) rfl rfl (hb hby at_43)
  have f34 := f28.wr W33 g_ab
  have Z36 := Nat.le_trans Z30 (Keep.of_wr W33).1
  have N37 := Fr.snoc X33 N31 g_ab
  have K38 := K32.wr W33 (Or.inr sz_ab)
  obtain ⟨T39, gh39, X39, hE39, W39, V39, st39⟩ := owStB X33 hx hZ hE33 V33 (k := 5) (j := (5 : Int32)) rfl (by decide) (g := (mkF m 49 #[.val (.int p1), .val (.int p2), .val (.int p3), .val (.int p4), .val (.int p5), .val (.int bv), .val (.int bw), .val (.ref ab), .unset, .unset, .unset, .unset, .unset, .unset, .unset, .unset] [(.int (58 : Int32)), (.int (5 : Int32)), (.ref ab)])) rfl rfl (hb hby at_49)
  have f40 := f34.wr W39 g_ab
  have Z42 := Nat.le_trans Z36 (Keep.of_wr W39).1
  have N43 := Fr.snoc X39 N37 g_ab
  have K44 := K38.wr W39 (Or.inr sz_ab)
  obtain ⟨T45, gh45, X45, hE45, W45, V45, st45⟩ := owStB X39 hx hZ hE39 V39 (k := 6) (j := (6 : Int32)) rfl (by decide) (g := (mkF m 56 #[.val (.int p1), .val (.int p2), .val (.int p3), .val (.int p4), .val (.int p5), .val (.int bv), .val (.int bw), .val (.ref ab), .unset, .unset, .unset, .unset, .unset, .unset, .unset, .unset] [(.int bv), (.int (6 : Int32)), (.ref ab)])) rfl rfl (hb hby at_56)
  have f46 := f40.wr W45 g_ab
  have Z48 := Nat.le_trans Z42 (Keep.of_wr W45).1
  have N49 := Fr.snoc X45 N43 g_ab
  have K50 := K44.wr W45 (Or.inr sz_ab)
  obtain ⟨T51, gh51, X51, hE51, W51, V51, st51⟩ := owStB X45 hx hZ hE45 V45 (k := 7) (j := (7 : Int32)) rfl (by decide) (g := (mkF m 63 #[.val (.int p1), .val (.int p2), .val (.int p3), .val (.int p4), .val (.int p5), .val (.int bv), .val (.int bw), .val (.ref ab), .unset, .unset, .unset, .unset, .unset, .unset, .unset, .unset] [(.int bw), (.int (7 : Int32)), (.ref ab)])) rfl rfl (hb hby at_63)
  have f52 := f46.wr W51 g_ab
  have Z54 := Nat.le_trans Z48 (Keep.of_wr W51).1
  have N55 := Fr.snoc X51 N49 g_ab
  have K56 := K50.wr W51 (Or.inr sz_ab)
  obtain ⟨T57, gh57, X57, hE57, W57, V57, st57⟩ := owStB X51 hx hZ hE51 V51 (k := 8) (j := (8 : Int32)) rfl (by decide) (g := (mkF m 70 #[.val (.int p1), .val (.int p2), .val (.int p3), .val (.int p4), .val (.int p5), .val (.int bv), .val (.int bw), .val (.ref ab), .unset, .unset, .unset, .unset, .unset, .unset, .unset, .unset] [(.int (p4.toInt8.toInt32)), (.int (8 : Int32)), (.ref ab)])) rfl rfl (hb hby at_70)
  have f58 := f52.wr W57 g_ab
  have Z60 := Nat.le_trans Z54 (Keep.of_wr W57).1
  have N61 := Fr.snoc X57 N55 g_ab
  have K62 := K56.wr W57 (Or.inr sz_ab)
  obtain ⟨fb, h_fb⟩ : ∃ g : Nat → Int32, g = (owUp (owUp (owUp (owUp (owUp (owUp (owUp (owUp (owUp (fun _ => 0) 0 ((p3.toInt8.toInt32).toInt8.toInt32)) 1 ((123 : Int32).toInt8.toInt32)) 2 ((34 : Int32).toInt8.toInt32)) 3 ((107 : Int32).toInt8.toInt32)) 4 ((34 : Int32).toInt8.toInt32)) 5 ((58 : Int32).toInt8.toInt32)) 6 (bv.toInt8.toInt32)) 7 (bw.toInt8.toInt32)) 8 ((p4.toInt8.toInt32).toInt8.toInt32)) := ⟨_, rfl⟩
  rw [← h_fb] at V57
  have pre63 : ∀ t, Steps p.tables e below (T57.setTop (mkF m 81 #[.val (.int p1), .val (.int p2), .val (.int p3), .val (.int p4), .val (.int p5), .val (.int bv), .val (.int bw), .val (.ref ab), .unset, .unset, .unset, .unset, .unset, .unset, .unset, .unset] [(.int ((6 : Int32) + ((p5 &&& (2147483647 : Int32)) % (3 : Int32))))])) t → Steps p.tables e below (s₁.setTop (entryFrame m #[(.int p1), (.int p2), (.int p3), (.int p4), (.int p5)] maxLocals)) t := by
    intro t kt
    refine pre4 _ ?_
    show Steps p.tables e below (s₁.setTop (mkF m 6 #[.val (.int p1), .val (.int p2), .val (.int p3), .val (.int p4), .val (.int p5), .val (.int bv), .unset, .unset, .unset, .unset, .unset, .unset, .unset, .unset, .unset, .unset] [(.int bw)])) _
    refine XS.istore X0.here hx rfl (hb hby at_6) rfl (l' := #[.val (.int p1), .val (.int p2), .val (.int p3), .val (.int p4), .val (.int p5), .val (.int bv), .val (.int bw), .unset, .unset, .unset, .unset, .unset, .unset, .unset, .unset, .unset]) rfl ?_
    show Steps p.tables e below (s₁.setTop (mkF m 8 #[.val (.int p1), .val (.int p2), .val (.int p3), .val (.int p4), .val (.int p5), .val (.int bv), .val (.int bw), .unset, .unset, .unset, .unset, .unset, .unset, .unset, .unset, .unset] [])) _
    refine XS.bipush X0.here hx rfl (hb hby at_8) ?_
    show Steps p.tables e below (s₁.setTop (mkF m 10 #[.val (.int p1), .val (.int p2), .val (.int p3), .val (.int p4), .val (.int p5), .val (.int bv), .val (.int bw), .unset, .unset, .unset, .unset, .unset, .unset, .unset, .unset, .unset] [(.int (9 : Int32))])) _
    refine st5 _ ?_
    show Steps p.tables e below (T5.setTop (mkF m 12 #[.val (.int p1), .val (.int p2), .val (.int p3), .val (.int p4), .val (.int p5), .val (.int bv), .val (.int bw), .unset, .unset, .unset, .unset, .unset, .unset, .unset, .unset, .unset] [(.ref ab)])) _
    refine XS.astore X5.here hx rfl (hb hby at_12) rfl rfl (l' := #[.val (.int p1), .val (.int p2), .val (.int p3), .val (.int p4), .val (.int p5), .val (.int bv), .val (.int bw), .val (.ref ab), .unset, .unset, .unset, .unset, .unset, .unset, .unset, .unset]) rfl ?_
    show Steps p.tables e below (T5.setTop (mkF m 14 #[.val (.int p1), .val (.int p2), .val (.int p3), .val (.int p4), .val (.int p5), .val (.int bv), .val (.int bw), .val (.ref ab), .unset, .unset, .unset, .unset, .unset, .unset, .unset, .unset] [])) _
    refine XS.aload X5.here hx rfl (hb hby at_14) rfl rfl ?_
    show Steps p.tables e below (T5.setTop (mkF m 16 #[.val (.int p1), .val (.int p2), .val (.int p3), .val (.int p4), .val (.int p5), .val (.int bv), .val (.int bw), .val (.ref ab), .unset, .unset, .unset, .unset, .unset, .unset, .unset, .unset] [(.ref ab)])) _
    refine XS.iconst X5.here hx rfl (hb hby at_16) ?_
    show Steps p.tables e below (T5.setTop (mkF m 17 #[.val (.int p1), .val (.int p2), .val (.int p3), .val (.int p4), .val (.int p5), .val (.int bv), .val (.int bw), .val (.ref ab), .unset, .unset, .unset, .unset, .unset, .unset, .unset, .unset] [(.int (0 : Int32)), (.ref ab)])) _
    refine XS.iloadN X5.here hx rfl (hb hby at_17) rfl ?_
    show Steps p.tables e below (T5.setTop (mkF m 18 #[.val (.int p1), .val (.int p2), .val (.int p3), .val (.int p4), .val (.int p5), .val (.int bv), .val (.int bw), .val (.ref ab), .unset, .unset, .unset, .unset, .unset, .unset, .unset, .unset] [(.int p3), (.int (0 : Int32)), (.ref ab)])) _
    refine XS.i2b X5.here hx rfl (hb hby at_18) rfl ?_
    show Steps p.tables e below (T5.setTop (mkF m 19 #[.val (.int p1), .val (.int p2), .val (.int p3), .val (.int p4), .val (.int p5), .val (.int bv), .val (.int bw), .val (.ref ab), .unset, .unset, .unset, .unset, .unset, .unset, .unset, .unset] [(.int (p3.toInt8.toInt32)), (.int (0 : Int32)), (.ref ab)])) _
    refine st9 _ ?_
    show Steps p.tables e below (T9.setTop (mkF m 20 #[.val (.int p1), .val (.int p2), .val (.int p3), .val (.int p4), .val (.int p5), .val (.int bv), .val (.int bw), .val (.ref ab), .unset, .unset, .unset, .unset, .unset, .unset, .unset, .unset] [])) _
    refine XS.aload X9.here hx rfl (hb hby at_20) rfl rfl ?_
    show Steps p.tables e below (T9.setTop (mkF m 22 #[.val (.int p1), .val (.int p2), .val (.int p3), .val (.int p4), .val (.int p5), .val (.int bv), .val (.int bw), .val (.ref ab), .unset, .unset, .unset, .unset, .unset, .unset, .unset, .unset] [(.ref ab)])) _
    refine XS.iconst X9.here hx rfl (hb hby at_22) ?_
    show Steps p.tables e below (T9.setTop (mkF m 23 #[.val (.int p1), .val (.int p2), .val (.int p3), .val (.int p4), .val (.int p5), .val (.int bv), .val (.int bw), .val (.ref ab), .unset, .unset, .unset, .unset, .unset, .unset, .unset, .unset] [(.int (1 : Int32)), (.ref ab)])) _
    refine XS.bipush X9.here hx rfl (hb hby at_23) ?_
    show Steps p.tables e below (T9.setTop (mkF m 25 #[.val (.int p1), .val (.int p2), .val (.int p3), .val (.int p4), .val (.int p5), .val (.int bv), .val (.int bw), .val (.ref ab), .unset, .unset, .unset, .unset, .unset, .unset, .unset, .unset] [(.int (123 : Int32)), (.int (1 : Int32)), (.ref ab)])) _
    refine st15 _ ?_
    show Steps p.tables e below (T15.setTop (mkF m 26 #[.val (.int p1), .val (.int p2), .val (.int p3), .val (.int p4), .val (.int p5), .val (.int bv), .val (.int bw), .val (.ref ab), .unset, .unset, .unset, .unset, .unset, .unset, .unset, .unset] [])) _
    refine XS.aload X15.here hx rfl (hb hby at_26) rfl rfl ?_
    show Steps p.tables e below (T15.setTop (mkF m 28 #[.val (.int p1), .val (.int p2), .val (.int p3), .val (.int p4), .val (.int p5), .val (.int bv), .val (.int bw), .val (.ref ab), .unset, .unset, .unset, .unset, .unset, .unset, .unset, .unset] [(.ref ab)])) _
    refine XS.iconst X15.here hx rfl (hb hby at_28) ?_
    show Steps p.tables e below (T15.setTop (mkF m 29 #[.val (.int p1), .val (.int p2), .val (.int p3), .val (.int p4), .val (.int p5), .val (.int bv), .val (.int bw), .val (.ref ab), .unset, .unset, .unset, .unset, .unset, .unset, .unset, .unset] [(.int (2 : Int32)), (.ref ab)])) _
    refine XS.bipush X15.here hx rfl (hb hby at_29) ?_
    show Steps p.tables e below (T15.setTop (mkF m 31 #[.val (.int p1), .val (.int p2), .val (.int p3), .val (.int p4), .val (.int p5), .val (.int bv), .val (.int bw), .val (.ref ab), .unset, .unset, .unset, .unset, .unset, .unset, .unset, .unset] [(.int (34 : Int32)), (.int (2 : Int32)), (.ref ab)])) _
    refine st21 _ ?_
    show Steps p.tables e below (T21.setTop (mkF m 32 #[.val (.int p1), .val (.int p2), .val (.int p3), .val (.int p4), .val (.int p5), .val (.int bv), .val (.int bw), .val (.ref ab), .unset, .unset, .unset, .unset, .unset, .unset, .unset, .unset] [])) _
    refine XS.aload X21.here hx rfl (hb hby at_32) rfl rfl ?_
    show Steps p.tables e below (T21.setTop (mkF m 34 #[.val (.int p1), .val (.int p2), .val (.int p3), .val (.int p4), .val (.int p5), .val (.int bv), .val (.int bw), .val (.ref ab), .unset, .unset, .unset, .unset, .unset, .unset, .unset, .unset] [(.ref ab)])) _
    refine XS.iconst X21.here hx rfl (hb hby at_34) ?_
    show Steps p.tables e below (T21.setTop (mkF m 35 #[.val (.int p1), .val (.int p2), .val (.int p3), .val (.int p4), .val (.int p5), .val (.int bv), .val (.int bw), .val (.ref ab), .unset, .unset, .unset, .unset, .unset, .unset, .unset, .unset] [(.int (3 : Int32)), (.ref ab)])) _
    refine XS.bipush X21.here hx rfl (hb hby at_35) ?_
    show Steps p.tables e below (T21.setTop (mkF m 37 #[.val (.int p1), .val (.int p2), .val (.int p3), .val (.int p4), .val (.int p5), .val (.int bv), .val (.int bw), .val (.ref ab), .unset, .unset, .unset, .unset, .unset, .unset, .unset, .unset] [(.int (107 : Int32)), (.int (3 : Int32)), (.ref ab)])) _
    refine st27 _ ?_
    show Steps p.tables e below (T27.setTop (mkF m 38 #[.val (.int p1), .val (.int p2), .val (.int p3), .val (.int p4), .val (.int p5), .val (.int bv), .val (.int bw), .val (.ref ab), .unset, .unset, .unset, .unset, .unset, .unset, .unset, .unset] [])) _
    refine XS.aload X27.here hx rfl (hb hby at_38) rfl rfl ?_
    show Steps p.tables e below (T27.setTop (mkF m 40 #[.val (.int p1), .val (.int p2), .val (.int p3), .val (.int p4), .val (.int p5), .val (.int bv), .val (.int bw), .val (.ref ab), .unset, .unset, .unset, .unset, .unset, .unset, .unset, .unset] [(.ref ab)])) _
    refine XS.iconst X27.here hx rfl (hb hby at_40) ?_
    show Steps p.tables e below (T27.setTop (mkF m 41 #[.val (.int p1), .val (.int p2), .val (.int p3), .val (.int p4), .val (.int p5), .val (.int bv), .val (.int bw), .val (.ref ab), .unset, .unset, .unset, .unset, .unset, .unset, .unset, .unset] [(.int (4 : Int32)), (.ref ab)])) _
    refine XS.bipush X27.here hx rfl (hb hby at_41) ?_
    show Steps p.tables e below (T27.setTop (mkF m 43 #[.val (.int p1), .val (.int p2), .val (.int p3), .val (.int p4), .val (.int p5), .val (.int bv), .val (.int bw), .val (.ref ab), .unset, .unset, .unset, .unset, .unset, .unset, .unset, .unset] [(.int (34 : Int32)), (.int (4 : Int32)), (.ref ab)])) _
    refine st33 _ ?_
    show Steps p.tables e below (T33.setTop (mkF m 44 #[.val (.int p1), .val (.int p2), .val (.int p3), .val (.int p4), .val (.int p5), .val (.int bv), .val (.int bw), .val (.ref ab), .unset, .unset, .unset, .unset, .unset, .unset, .unset, .unset] [])) _
    refine XS.aload X33.here hx rfl (hb hby at_44) rfl rfl ?_
    show Steps p.tables e below (T33.setTop (mkF m 46 #[.val (.int p1), .val (.int p2), .val (.int p3), .val (.int p4), .val (.int p5), .val (.int bv), .val (.int bw), .val (.ref ab), .unset, .unset, .unset, .unset, .unset, .unset, .unset, .unset] [(.ref ab)])) _
    refine XS.iconst X33.here hx rfl (hb hby at_46) ?_
    show Steps p.tables e below (T33.setTop (mkF m 47 #[.val (.int p1), .val (.int p2), .val (.int p3), .val (.int p4), .val (.int p5), .val (.int bv), .val (.int bw), .val (.ref ab), .unset, .unset, .unset, .unset, .unset, .unset, .unset, .unset] [(.int (5 : Int32)), (.ref ab)])) _
    refine XS.bipush X33.here hx rfl (hb hby at_47) ?_
    show Steps p.tables e below (T33.setTop (mkF m 49 #[.val (.int p1), .val (.int p2), .val (.int p3), .val (.int p4), .val (.int p5), .val (.int bv), .val (.int bw), .val (.ref ab), .unset, .unset, .unset, .unset, .unset, .unset, .unset, .unset] [(.int (58 : Int32)), (.int (5 : Int32)), (.ref ab)])) _
    refine st39 _ ?_
    show Steps p.tables e below (T39.setTop (mkF m 50 #[.val (.int p1), .val (.int p2), .val (.int p3), .val (.int p4), .val (.int p5), .val (.int bv), .val (.int bw), .val (.ref ab), .unset, .unset, .unset, .unset, .unset, .unset, .unset, .unset] [])) _
    refine XS.aload X39.here hx rfl (hb hby at_50) rfl rfl ?_
    show Steps p.tables e below (T39.setTop (mkF m 52 #[.val (.int p1), .val (.int p2), .val (.int p3), .val (.int p4), .val (.int p5), .val (.int bv), .val (.int bw), .val (.ref ab), .unset, .unset, .unset, .unset, .unset, .unset, .unset, .unset] [(.ref ab)])) _
    refine XS.bipush X39.here hx rfl (hb hby at_52) ?_
    show Steps p.tables e below (T39.setTop (mkF m 54 #[.val (.int p1), .val (.int p2), .val (.int p3), .val (.int p4), .val (.int p5), .val (.int bv), .val (.int bw), .val (.ref ab), .unset, .unset, .unset, .unset, .unset, .unset, .unset, .unset] [(.int (6 : Int32)), (.ref ab)])) _
    refine XS.iload X39.here hx rfl (hb hby at_54) rfl ?_
    show Steps p.tables e below (T39.setTop (mkF m 56 #[.val (.int p1), .val (.int p2), .val (.int p3), .val (.int p4), .val (.int p5), .val (.int bv), .val (.int bw), .val (.ref ab), .unset, .unset, .unset, .unset, .unset, .unset, .unset, .unset] [(.int bv), (.int (6 : Int32)), (.ref ab)])) _
    refine st45 _ ?_
    show Steps p.tables e below (T45.setTop (mkF m 57 #[.val (.int p1), .val (.int p2), .val (.int p3), .val (.int p4), .val (.int p5), .val (.int bv), .val (.int bw), .val (.ref ab), .unset, .unset, .unset, .unset, .unset, .unset, .unset, .unset] [])) _
    refine XS.aload X45.here hx rfl (hb hby at_57) rfl rfl ?_
    show Steps p.tables e below (T45.setTop (mkF m 59 #[.val (.int p1), .val (.int p2), .val (.int p3), .val (.int p4), .val (.int p5), .val (.int bv), .val (.int bw), .val (.ref ab), .unset, .unset, .unset, .unset, .unset, .unset, .unset, .unset] [(.ref ab)])) _
    refine XS.bipush X45.here hx rfl (hb hby at_59) ?_
    show Steps p.tables e below (T45.setTop (mkF m 61 #[.val (.int p1), .val (.int p2), .val (.int p3), .val (.int p4), .val (.int p5), .val (.int bv), .val (.int bw), .val (.ref ab), .unset, .unset, .unset, .unset, .unset, .unset, .unset, .unset] [(.int (7 : Int32)), (.ref ab)])) _
    refine XS.iload X45.here hx rfl (hb hby at_61) rfl ?_
    show Steps p.tables e below (T45.setTop (mkF m 63 #[.val (.int p1), .val (.int p2), .val (.int p3), .val (.int p4), .val (.int p5), .val (.int bv), .val (.int bw), .val (.ref ab), .unset, .unset, .unset, .unset, .unset, .unset, .unset, .unset] [(.int bw), (.int (7 : Int32)), (.ref ab)])) _
    refine st51 _ ?_
    show Steps p.tables e below (T51.setTop (mkF m 64 #[.val (.int p1), .val (.int p2), .val (.int p3), .val (.int p4), .val (.int p5), .val (.int bv), .val (.int bw), .val (.ref ab), .unset, .unset, .unset, .unset, .unset, .unset, .unset, .unset] [])) _
    refine XS.aload X51.here hx rfl (hb hby at_64) rfl rfl ?_
    show Steps p.tables e below (T51.setTop (mkF m 66 #[.val (.int p1), .val (.int p2), .val (.int p3), .val (.int p4), .val (.int p5), .val (.int bv), .val (.int bw), .val (.ref ab), .unset, .unset, .unset, .unset, .unset, .unset, .unset, .unset] [(.ref ab)])) _
    refine XS.bipush X51.here hx rfl (hb hby at_66) ?_
    show Steps p.tables e below (T51.setTop (mkF m 68 #[.val (.int p1), .val (.int p2), .val (.int p3), .val (.int p4), .val (.int p5), .val (.int bv), .val (.int bw), .val (.ref ab), .unset, .unset, .unset, .unset, .unset, .unset, .unset, .unset] [(.int (8 : Int32)), (.ref ab)])) _
    refine XS.iloadN X51.here hx rfl (hb hby at_68) rfl ?_
    show Steps p.tables e below (T51.setTop (mkF m 69 #[.val (.int p1), .val (.int p2), .val (.int p3), .val (.int p4), .val (.int p5), .val (.int bv), .val (.int bw), .val (.ref ab), .unset, .unset, .unset, .unset, .unset, .unset, .unset, .unset] [(.int p4), (.int (8 : Int32)), (.ref ab)])) _
    refine XS.i2b X51.here hx rfl (hb hby at_69) rfl ?_
    show Steps p.tables e below (T51.setTop (mkF m 70 #[.val (.int p1), .val (.int p2), .val (.int p3), .val (.int p4), .val (.int p5), .val (.int bv), .val (.int bw), .val (.ref ab), .unset, .unset, .unset, .unset, .unset, .unset, .unset, .unset] [(.int (p4.toInt8.toInt32)), (.int (8 : Int32)), (.ref ab)])) _
    refine st57 _ ?_
    show Steps p.tables e below (T57.setTop (mkF m 71 #[.val (.int p1), .val (.int p2), .val (.int p3), .val (.int p4), .val (.int p5), .val (.int bv), .val (.int bw), .val (.ref ab), .unset, .unset, .unset, .unset, .unset, .unset, .unset, .unset] [])) _
    refine XS.bipush X57.here hx rfl (hb hby at_71) ?_
    show Steps p.tables e below (T57.setTop (mkF m 73 #[.val (.int p1), .val (.int p2), .val (.int p3), .val (.int p4), .val (.int p5), .val (.int bv), .val (.int bw), .val (.ref ab), .unset, .unset, .unset, .unset, .unset, .unset, .unset, .unset] [(.int (6 : Int32))])) _
    refine XS.iload X57.here hx rfl (hb hby at_73) rfl ?_
    show Steps p.tables e below (T57.setTop (mkF m 75 #[.val (.int p1), .val (.int p2), .val (.int p3), .val (.int p4), .val (.int p5), .val (.int bv), .val (.int bw), .val (.ref ab), .unset, .unset, .unset, .unset, .unset, .unset, .unset, .unset] [(.int p5), (.int (6 : Int32))])) _
    refine Stand.ldcI (g := (mkF m 75 #[.val (.int p1), .val (.int p2), .val (.int p3), .val (.int p4), .val (.int p5), .val (.int bv), .val (.int bw), .val (.ref ab), .unset, .unset, .unset, .unset, .unset, .unset, .unset, .unset] [(.int p5), (.int (6 : Int32))])) X57 hx hown (mvT hZ (hw _ (List.mem_of_getElem? (i := 1) rfl))) rfl (hb hby at_75) ?_
    show Steps p.tables e below (T57.setTop (mkF m 77 #[.val (.int p1), .val (.int p2), .val (.int p3), .val (.int p4), .val (.int p5), .val (.int bv), .val (.int bw), .val (.ref ab), .unset, .unset, .unset, .unset, .unset, .unset, .unset, .unset] [(.int (2147483647 : Int32)), (.int p5), (.int (6 : Int32))])) _
    refine XS.iand X57.here hx rfl (hb hby at_77) rfl ?_
    show Steps p.tables e below (T57.setTop (mkF m 78 #[.val (.int p1), .val (.int p2), .val (.int p3), .val (.int p4), .val (.int p5), .val (.int bv), .val (.int bw), .val (.ref ab), .unset, .unset, .unset, .unset, .unset, .unset, .unset, .unset] [(.int (p5 &&& (2147483647 : Int32))), (.int (6 : Int32))])) _
    refine XS.iconst X57.here hx rfl (hb hby at_78) ?_
    show Steps p.tables e below (T57.setTop (mkF m 79 #[.val (.int p1), .val (.int p2), .val (.int p3), .val (.int p4), .val (.int p5), .val (.int bv), .val (.int bw), .val (.ref ab), .unset, .unset, .unset, .unset, .unset, .unset, .unset, .unset] [(.int (3 : Int32)), (.int (p5 &&& (2147483647 : Int32))), (.int (6 : Int32))])) _
    refine iremM (g := (mkF m 79 #[.val (.int p1), .val (.int p2), .val (.int p3), .val (.int p4), .val (.int p5), .val (.int bv), .val (.int bw), .val (.ref ab), .unset, .unset, .unset, .unset, .unset, .unset, .unset, .unset] [(.int (3 : Int32)), (.int (p5 &&& (2147483647 : Int32))), (.int (6 : Int32))])) X57 hx rfl (hb hby at_79) rfl (by decide) ?_
    show Steps p.tables e below (T57.setTop (mkF m 80 #[.val (.int p1), .val (.int p2), .val (.int p3), .val (.int p4), .val (.int p5), .val (.int bv), .val (.int bw), .val (.ref ab), .unset, .unset, .unset, .unset, .unset, .unset, .unset, .unset] [(.int ((p5 &&& (2147483647 : Int32)) % (3 : Int32))), (.int (6 : Int32))])) _
    refine XS.iadd X57.here hx rfl (hb hby at_80) rfl ?_
    exact kt
  obtain ⟨en, h_en⟩ : ∃ z : Int32, z = ((6 : Int32) + ((p5 &&& (2147483647 : Int32)) % (3 : Int32))) := ⟨_, rfl⟩
  have pre64 : ∀ t, Steps p.tables e below (T57.setTop (mkF m 81 #[.val (.int p1), .val (.int p2), .val (.int p3), .val (.int p4), .val (.int p5), .val (.int bv), .val (.int bw), .val (.ref ab), .unset, .unset, .unset, .unset, .unset, .unset, .unset, .unset] [(.int en)])) t → Steps p.tables e below (s₁.setTop (entryFrame m #[(.int p1), (.int p2), (.int p3), (.int p4), (.int p5)] maxLocals)) t := by
    intro t kt
    rw [h_en] at kt
    exact pre63 _ kt
  have hoe := own_en p5 en h_en
  have hob := own_ob fb p3 p4 bv bw h_fb
  have hb6 := own_b6 fb p1 p3 p4 bv bw h_fb h_bv
  have hb7 := own_b7 fb p2 p3 p4 bv bw h_fb h_bw
  obtain ⟨T65, gh65, X65, hE65, E65, A65, D65, -, st65⟩ := newO X57 hx hZ hown (hw _ (List.mem_of_getElem? (i := 2) rfl)) (hw _ (List.mem_of_getElem? (i := 3) rfl)) (hw _ (List.mem_of_getElem? (i := 4) rfl)) hE57 (g := (mkF m 83 #[.val (.int p1), .val (.int p2), .val (.int p3), .val (.int p4), .val (.int p5), .val (.int bv), .val (.int bw), .val (.ref ab), .val (.int en), .unset, .unset, .unset, .unset, .unset, .unset, .unset] [])) rfl (hb hby at_83) (by decide) (by decide)
  obtain ⟨ob, g65⟩ : ∃ z, z = gh57.size := ⟨_, rfl⟩
  rw [← g65] at A65 D65 st65
  have ne_ab_ob : ab ≠ ob := Nat.ne_of_lt (Nat.lt_of_lt_of_le V57.lt (Nat.le_of_eq g65.symm))
  have g_ob : n0 ≤ ob := Nat.le_trans Z60 (Nat.le_of_eq g65.symm)
  have sz_ob : h0.size ≤ ob := Nat.le_trans K62.1 (Nat.le_of_eq g65.symm)
  have f66 := f58.ext E65
  have f67 := V57.ext E65
  have Z68 := Nat.le_trans Z60 E65.1
  have K69 := K62.ext E65
  have F_first_ob : Fld Z gh65 ob "com/example/fama/fama/table/JsonLine" "first" "Z" (.int (0 : Int32)) := D65 (Or.inl (hw _ (List.mem_of_getElem? (i := 12) rfl))) (ty := .boolean) (by decide)
  have F_bytes_ob : Fld Z gh65 ob "com/example/fama/fama/table/JsonLine" "bytes" "[B" .null := D65 (Or.inr (hw _ (List.mem_of_getElem? (i := 14) rfl))) (ty := (.array .byte)) (by decide)
  have F_start_ob : Fld Z gh65 ob "com/example/fama/fama/table/JsonLine" "start" "I" (.int (0 : Int32)) := D65 (Or.inr (hw _ (List.mem_of_getElem? (i := 16) rfl))) (ty := .int) (by decide)
  have F_end_ob : Fld Z gh65 ob "com/example/fama/fama/table/JsonLine" "end" "I" (.int (0 : Int32)) := D65 (Or.inr (hw _ (List.mem_of_getElem? (i := 18) rfl))) (ty := .int) (by decide)
  have F_at_ob : Fld Z gh65 ob "com/example/fama/fama/table/JsonLine" "at" "I" (.int (0 : Int32)) := D65 (Or.inl (hw _ (List.mem_of_getElem? (i := 20) rfl))) (ty := .int) (by decide)
  obtain ⟨_, _, ⟨T70, L70, k70, n70⟩, -, X70, ⟨Lc70, hQ70, l70, y70, z70⟩, st70⟩ := X65.specialBack hx (y := (⟨"com/example/fama/fama/table/JsonLine", "<init>", "([BII)V"⟩ : MethodName)) rfl hown (mvT hZ (hw _ (List.mem_of_getElem? (i := 5) rfl))) (mvT hZ (hw _ (List.mem_of_getElem? (i := 6) rfl))) (mvT hZ (hw _ (List.mem_of_getElem? (i := 7) rfl))) (by decide) (backOf (W := 1) (rm1 l Z a0 hw [] ob ab (1 : Int32) en gh65 n0 Z68 A65 F_first_ob F_bytes_ob F_start_ob F_end_ob F_at_ob g_ob) hZ (hw _ (List.mem_of_getElem? (i := 7) rfl)) (hw _ (List.mem_of_getElem? (i := 4) rfl)) (by decide) (by decide)) (g := (mkF m 92 #[.val (.int p1), .val (.int p2), .val (.int p3), .val (.int p4), .val (.int p5), .val (.int bv), .val (.int bw), .val (.ref ab), .val (.int en), .unset, .unset, .unset, .unset, .unset, .unset, .unset] [(.int en), (.int (1 : Int32)), (.ref ab), (.ref ob), (.ref ob)])) rfl (by rw [hml]; rfl) (Steps.refl _) (a := ob) (argsL := [(.ref ab), (.int (1 : Int32)), (.int en)]) (rest := [(.ref ob)]) (lenOf pd_16 rfl) rfl (by show 2 * 0 + _ ≤ _; exact Nat.le_of_eq rfl) (hb hby at_92) (fun _ _ => ⟨rfl, hE65, (by decide : 2 + 0 ≤ _), (by decide : 14 + 0 ≤ _)⟩)
  dsimp only [Pt.U, Pt.locs, Pt.cells, Pt.slots] at X70 l70 y70 z70 st70 hQ70
  subst l70 y70 z70
  obtain ⟨rfl, N70q, K70, p70_0, p70_1, p70_2, p70_3, p70_4, p70_5⟩ := hQ70
  have N70 := Fr.app N61 N70q
  have f71 := f66.keep K70 (allS g_ob all0)
  have f72 := f67.keep K70 (ninS ne_ab_ob nin0)
  have f73 := A65.keep K70
  have Z79 := Nat.le_trans Z68 K70.1
  have K80 := K69.trans K70 (allS (Or.inr sz_ob) all0)
  obtain ⟨cq81, kq81, q81a, q81b, q81c⟩ := isOf hZ rfl p70_0
  obtain ⟨_, _, ⟨T81, L81, k81, n81⟩, -, X81, ⟨Lc81, hQ81, l81, y81, z81⟩, st81⟩ := X70.virtualBack hx (y := (⟨"com/example/fama/fama/table/JsonLine", "atString", "()Z"⟩ : MethodName)) (z := (⟨"com/example/fama/fama/table/JsonLine", "atString", "()Z"⟩ : MethodName)) hown (mvT hZ (hw _ (List.mem_of_getElem? (i := 21) rfl))) (mvT hZ (hw _ (List.mem_of_getElem? (i := 22) rfl))) (notFace_of_selects (args := #[]) (mvT hZ (hw _ (List.mem_of_getElem? (i := 24) rfl)))) (mvT hZ (hw _ (List.mem_of_getElem? (i := 24) rfl))) (mvT hZ (hw _ (List.mem_of_getElem? (i := 23) rfl))) (by decide) (backOf (W := 0) (rm3 l Z a0 hw [] ob ab (1 : Int32) en fb 1 T70.heap n0 Z79 p70_5 p70_4 p70_2 f72 (fun _ => ⟨rfl, by decide⟩)) hZ (hw _ (List.mem_of_getElem? (i := 25) rfl)) (hw _ (List.mem_of_getElem? (i := 4) rfl)) (by decide) (by decide)) q81a q81c (g := (mkF m 99 #[.val (.int p1), .val (.int p2), .val (.int p3), .val (.int p4), .val (.int p5), .val (.int bv), .val (.int bw), .val (.ref ab), .val (.int en), .val (.ref ob), .unset, .unset, .unset, .unset, .unset, .unset] [(.ref ob)])) rfl (by rw [hml]; rfl) (Steps.refl _) (argsL := []) (rest := []) (lenOf pd_12 rfl) rfl (by show 2 * 0 + _ ≤ _; exact Nat.le_of_eq rfl) (hb hby at_99) (fun _ _ => ⟨rfl, rfl, (by decide : 2 + 0 ≤ _), (by decide : 14 + 0 ≤ _)⟩)
  dsimp only [Pt.U, Pt.locs, Pt.cells, Pt.slots] at X81 l81 y81 z81 st81 hQ81
  subst l81 y81 z81
  obtain ⟨rfl, N81q, hE81⟩ := hQ81
  have N81 := Fr.app N70 N81q
  have pre82 : ∀ t, Steps p.tables e below (T81.setTop (mkF m 102 #[.val (.int p1), .val (.int p2), .val (.int p3), .val (.int p4), .val (.int p5), .val (.int bv), .val (.int bw), .val (.ref ab), .val (.int en), .val (.ref ob), .unset, .unset, .unset, .unset, .unset, .unset] [(.int (fn3 ob ab (1 : Int32) en fb 1))])) t → Steps p.tables e below (s₁.setTop (entryFrame m #[(.int p1), (.int p2), (.int p3), (.int p4), (.int p5)] maxLocals)) t := by
    intro t kt
    refine pre64 _ ?_
    show Steps p.tables e below (T57.setTop (mkF m 81 #[.val (.int p1), .val (.int p2), .val (.int p3), .val (.int p4), .val (.int p5), .val (.int bv), .val (.int bw), .val (.ref ab), .unset, .unset, .unset, .unset, .unset, .unset, .unset, .unset] [(.int en)])) _
    refine XS.istore X57.here hx rfl (hb hby at_81) rfl (l' := #[.val (.int p1), .val (.int p2), .val (.int p3), .val (.int p4), .val (.int p5), .val (.int bv), .val (.int bw), .val (.ref ab), .val (.int en), .unset, .unset, .unset, .unset, .unset, .unset, .unset]) rfl ?_
    show Steps p.tables e below (T57.setTop (mkF m 83 #[.val (.int p1), .val (.int p2), .val (.int p3), .val (.int p4), .val (.int p5), .val (.int bv), .val (.int bw), .val (.ref ab), .val (.int en), .unset, .unset, .unset, .unset, .unset, .unset, .unset] [])) _
    refine st65 _ ?_
    show Steps p.tables e below (T65.setTop (mkF m 86 #[.val (.int p1), .val (.int p2), .val (.int p3), .val (.int p4), .val (.int p5), .val (.int bv), .val (.int bw), .val (.ref ab), .val (.int en), .unset, .unset, .unset, .unset, .unset, .unset, .unset] [(.ref ob)])) _
    refine XS.dup X65.here hx rfl (hb hby at_86) rfl rfl ?_
    show Steps p.tables e below (T65.setTop (mkF m 87 #[.val (.int p1), .val (.int p2), .val (.int p3), .val (.int p4), .val (.int p5), .val (.int bv), .val (.int bw), .val (.ref ab), .val (.int en), .unset, .unset, .unset, .unset, .unset, .unset, .unset] [(.ref ob), (.ref ob)])) _
    refine XS.aload X65.here hx rfl (hb hby at_87) rfl rfl ?_
    show Steps p.tables e below (T65.setTop (mkF m 89 #[.val (.int p1), .val (.int p2), .val (.int p3), .val (.int p4), .val (.int p5), .val (.int bv), .val (.int bw), .val (.ref ab), .val (.int en), .unset, .unset, .unset, .unset, .unset, .unset, .unset] [(.ref ab), (.ref ob), (.ref ob)])) _
    refine XS.iconst X65.here hx rfl (hb hby at_89) ?_
    show Steps p.tables e below (T65.setTop (mkF m 90 #[.val (.int p1), .val (.int p2), .val (.int p3), .val (.int p4), .val (.int p5), .val (.int bv), .val (.int bw), .val (.ref ab), .val (.int en), .unset, .unset, .unset, .unset, .unset, .unset, .unset] [(.int (1 : Int32)), (.ref ab), (.ref ob), (.ref ob)])) _
    refine XS.iload X65.here hx rfl (hb hby at_90) rfl ?_
    show Steps p.tables e below (T65.setTop (mkF m 92 #[.val (.int p1), .val (.int p2), .val (.int p3), .val (.int p4), .val (.int p5), .val (.int bv), .val (.int bw), .val (.ref ab), .val (.int en), .unset, .unset, .unset, .unset, .unset, .unset, .unset] [(.int en), (.int (1 : Int32)), (.ref ab), (.ref ob), (.ref ob)])) _
    refine st70.trans ?_
    show Steps p.tables e below (T70.setTop (mkF m 95 #[.val (.int p1), .val (.int p2), .val (.int p3), .val (.int p4), .val (.int p5), .val (.int bv), .val (.int bw), .val (.ref ab), .val (.int en), .unset, .unset, .unset, .unset, .unset, .unset, .unset] [(.ref ob)])) _
    refine XS.astore X70.here hx rfl (hb hby at_95) rfl rfl (l' := #[.val (.int p1), .val (.int p2), .val (.int p3), .val (.int p4), .val (.int p5), .val (.int bv), .val (.int bw), .val (.ref ab), .val (.int en), .val (.ref ob), .unset, .unset, .unset, .unset, .unset, .unset]) rfl ?_
    show Steps p.tables e below (T70.setTop (mkF m 97 #[.val (.int p1), .val (.int p2), .val (.int p3), .val (.int p4), .val (.int p5), .val (.int bv), .val (.int bw), .val (.ref ab), .val (.int en), .val (.ref ob), .unset, .unset, .unset, .unset, .unset, .unset] [])) _
    refine XS.aload X70.here hx rfl (hb hby at_97) rfl rfl ?_
    show Steps p.tables e below (T70.setTop (mkF m 99 #[.val (.int p1), .val (.int p2), .val (.int p3), .val (.int p4), .val (.int p5), .val (.int bv), .val (.int bw), .val (.ref ab), .val (.int en), .val (.ref ob), .unset, .unset, .unset, .unset, .unset, .unset] [(.ref ob)])) _
    refine st81.trans ?_
    exact kt
  obtain ⟨be, h_be⟩ : ∃ z : Int32, z = (fn3 ob ab (1 : Int32) en fb 1) := ⟨_, rfl⟩
  have pre83 : ∀ t, Steps p.tables e below (T81.setTop (mkF m 102 #[.val (.int p1), .val (.int p2), .val (.int p3), .val (.int p4), .val (.int p5), .val (.int bv), .val (.int bw), .val (.ref ab), .val (.int en), .val (.ref ob), .unset, .unset, .unset, .unset, .unset, .unset] [(.int be)])) t → Steps p.tables e below (s₁.setTop (entryFrame m #[(.int p1), (.int p2), (.int p3), (.int p4), (.int p5)] maxLocals)) t := by
    intro t kt
    rw [h_be] at kt
    exact pre82 _ kt
  obtain ⟨cq84, kq84, q84a, q84b, q84c⟩ := isOf hZ hE81 p70_0
  obtain ⟨_, _, ⟨T84, L84, k84, n84⟩, -, X84, ⟨Lc84, hQ84, l84, y84, z84⟩, st84⟩ := X81.virtualBack hx (y := (⟨"com/example/fama/fama/table/JsonLine", "startObject", "()V"⟩ : MethodName)) (z := (⟨"com/example/fama/fama/table/JsonLine", "startObject", "()V"⟩ : MethodName)) hown (mvT hZ (hw _ (List.mem_of_getElem? (i := 26) rfl))) (mvT hZ (hw _ (List.mem_of_getElem? (i := 27) rfl))) (notFace_of_selects (args := #[]) (mvT hZ (hw _ (List.mem_of_getElem? (i := 29) rfl)))) (mvT hZ (hw _ (List.mem_of_getElem? (i := 29) rfl))) (mvT hZ (hw _ (List.mem_of_getElem? (i := 28) rfl))) (by decide) (backOf (W := 0) (rm4 l Z a0 hw [] ob ab en fb T70.heap n0 Z79 p70_0 p70_5 p70_4 p70_2 p70_1 f72 g_ob (Ne.symm ne_ab_ob) hoe hob) hZ (hw _ (List.mem_of_getElem? (i := 30) rfl)) (hw _ (List.mem_of_getElem? (i := 4) rfl)) (by decide) (by decide)) q84a q84c (g := (mkF m 106 #[.val (.int p1), .val (.int p2), .val (.int p3), .val (.int p4), .val (.int p5), .val (.int bv), .val (.int bw), .val (.ref ab), .val (.int en), .val (.ref ob), .val (.int be), .unset, .unset, .unset, .unset, .unset] [(.ref ob)])) rfl (by rw [hml]; rfl) (Steps.refl _) (argsL := []) (rest := []) (lenOf pd_1 rfl) rfl (by show 2 * 0 + _ ≤ _; exact Nat.le_of_eq rfl) (hb hby at_106) (fun _ _ => ⟨rfl, hE81, (by decide : 2 + 0 ≤ _), (by decide : 14 + 0 ≤ _)⟩)
  dsimp only [Pt.U, Pt.locs, Pt.cells, Pt.slots] at X84 l84 y84 z84 st84 hQ84
  subst l84 y84 z84
  obtain ⟨rfl, N84q, K84, p84_0, p84_1, p84_2, p84_3, p84_4⟩ := hQ84
  have N84 := Fr.app N81 N84q
  have f85 := f71.keep K84 (allS g_ob all0)
  have f86 := f72.keep K84 (ninS ne_ab_ob nin0)
  have f87 := p70_0.keep K84
  have Z93 := Nat.le_trans Z79 K84.1
  have K94 := K80.trans K84 (allS (Or.inr sz_ob) all0)
  have CK96 := CHr.keep (Z := Z) (EL := EL1) K94 sf0 CH0
  obtain ⟨cq95, kq95, q95a, q95b, q95c⟩ := isOf hZ rfl p84_0
  obtain ⟨_, _, ⟨T95, L95, k95, n95⟩, -, X95, hSn, hgr, ⟨Lc95, hQ95, l95, y95, z95, CC95⟩, st95⟩ := X84.virtualBackS hx (y := (⟨"com/example/fama/fama/table/JsonLine", "nextKey", "()Ljava/lang/String;"⟩ : MethodName)) (z := (⟨"com/example/fama/fama/table/JsonLine", "nextKey", "()Ljava/lang/String;"⟩ : MethodName)) hown (mvT hZ (hw _ (List.mem_of_getElem? (i := 38) rfl))) (mvT hZ (hw _ (List.mem_of_getElem? (i := 39) rfl))) (notFace_of_selects (args := #[]) (mvT hZ (hw _ (List.mem_of_getElem? (i := 41) rfl)))) (mvT hZ (hw _ (List.mem_of_getElem? (i := 41) rfl))) (mvT hZ (hw _ (List.mem_of_getElem? (i := 40) rfl))) (by decide) (backOfSH (s := s) (vm0 := s.vm) (W := 0) (rm7 l Z a0 hw [] ob ab en fb u8 cs fmv T84.heap n0 Z93 p84_0 p84_1 p84_2 p84_3 p84_4 f86 g_ob (Ne.symm ne_ab_ob) hoe hob f85 hst) hZ (hw _ (List.mem_of_getElem? (i := 42) rfl)) (hw _ (List.mem_of_getElem? (i := 4) rfl)) (by decide) (by decide) hEL CK96.1) q95a q95c (g := (mkF m 111 #[.val (.int p1), .val (.int p2), .val (.int p3), .val (.int p4), .val (.int p5), .val (.int bv), .val (.int bw), .val (.ref ab), .val (.int en), .val (.ref ob), .val (.int be), .unset, .unset, .unset, .unset, .unset] [(.ref ob)])) rfl (by rw [hml]; rfl) (Steps.refl _) (argsL := []) (rest := []) (lenOf pd_17 rfl) rfl (by show 2 * 0 + _ ≤ _; exact Nat.le_of_eq rfl) (hb hby at_111) (fun _ _ => ⟨rfl, rfl, (by decide : 2 + 4 ≤ _), (by decide : 14 + 37 ≤ _)⟩)
  dsimp only [Pt.U, Pt.locs, Pt.cells, Pt.slots] at X95 l95 y95 z95 st95 hQ95
  subst l95 y95 z95
  dsimp only [Pt.U, Pt.locs, Pt.cells, Pt.slots] at hSn hgr CC95
  obtain ⟨X95, hS, hZ, hown⟩ := rebS hS (n1 := T84.heap.size) (Nat.le_trans hk K94.1) X95 hSn hgr hZ hown
  have hk : T95.heap.size ≤ T95.heap.size := Nat.le_refl _
  obtain ⟨ks, bb, rfl, N95q, K95, h_ks, h_bb, p95_E, p95_v, p95_c, p95_A, p95_0, p95_1, p95_2, p95_3, p95_4⟩ := hQ95
  have N95 := Fr.app N84 N95q
  have ne_ab_ks : ab ≠ ks := Nat.ne_of_lt (Nat.lt_of_lt_of_le f86.lt h_ks)
  have ne_ob_ks : ob ≠ ks := Nat.ne_of_lt (Nat.lt_of_lt_of_le p84_0.lt h_ks)
  have g_ks : n0 ≤ ks := Nat.le_trans Z93 h_ks
  have sz_ks : h0.size ≤ ks := Nat.le_trans K94.1 h_ks
  have ne_ab_bb : ab ≠ bb := Nat.ne_of_lt (Nat.lt_of_lt_of_le f86.lt h_bb)
  have ne_ob_bb : ob ≠ bb := Nat.ne_of_lt (Nat.lt_of_lt_of_le p84_0.lt h_bb)
  have g_bb : n0 ≤ bb := Nat.le_trans Z93 h_bb
  have sz_bb : h0.size ≤ bb := Nat.le_trans K94.1 h_bb
  have f97 := f85.keep K95 (allS g_ob all0)
  have f98 := f86.keep K95 (ninS ne_ab_ob nin0)
  have f99 := p84_0.keep K95
  have Z104 := Nat.le_trans Z93 K95.1
  have K105 := K94.trans K95 (allS (Or.inr sz_ob) all0)
  have CR106 := CK96.trans CC95
  obtain ⟨kp, h_kp1, h_kp2⟩ := own_kp (own_pos en (fb 6) (fb 7)) (own_posr en _ _)
  have hkp : (own_pos en (fb 6) (fb 7)) < en → (own_pos en (fb 6) (fb 7)).toInt = (kp : Int) ∧ kp < 9 := fun _ => ⟨h_kp1, h_kp2⟩
  have hpl := own_posl en bv bw fb hb6 hb7
  obtain ⟨cq107, kq107, q107a, q107b, q107c⟩ := isOf hZ rfl p95_0
  obtain ⟨_, _, ⟨T107, L107, k107, n107⟩, -, X107, ⟨Lc107, hQ107, l107, y107, z107⟩, st107⟩ := X95.virtualBack hx (y := (⟨"com/example/fama/fama/table/JsonLine", "atString", "()Z"⟩ : MethodName)) (z := (⟨"com/example/fama/fama/table/JsonLine", "atString", "()Z"⟩ : MethodName)) hown (mvT hZ (hw _ (List.mem_of_getElem? (i := 21) rfl))) (mvT hZ (hw _ (List.mem_of_getElem? (i := 22) rfl))) (notFace_of_selects (args := #[]) (mvT hZ (hw _ (List.mem_of_getElem? (i := 24) rfl)))) (mvT hZ (hw _ (List.mem_of_getElem? (i := 24) rfl))) (mvT hZ (hw _ (List.mem_of_getElem? (i := 23) rfl))) (by decide) (backOf (W := 0) (rm3 l Z a0 hw [] ob ab (own_pos en (fb 6) (fb 7)) en fb kp T95.heap n0 Z104 p95_1 p95_2 p95_3 f98 hkp) hZ (hw _ (List.mem_of_getElem? (i := 25) rfl)) (hw _ (List.mem_of_getElem? (i := 4) rfl)) (by decide) (by decide)) q107a q107c (g := (mkF m 118 #[.val (.int p1), .val (.int p2), .val (.int p3), .val (.int p4), .val (.int p5), .val (.int bv), .val (.int bw), .val (.ref ab), .val (.int en), .val (.ref ob), .val (.int be), .val (.ref ks), .unset, .unset, .unset, .unset] [(.ref ob)])) rfl (by rw [hml]; rfl) (Steps.refl _) (argsL := []) (rest := []) (lenOf pd_12 rfl) rfl (by show 2 * 0 + _ ≤ _; exact Nat.le_of_eq rfl) (hb hby at_118) (fun _ _ => ⟨rfl, rfl, (by decide : 6 + 0 ≤ _), (by decide : 51 + 0 ≤ _)⟩)
  dsimp only [Pt.U, Pt.locs, Pt.cells, Pt.slots] at X107 l107 y107 z107 st107 hQ107
  subst l107 y107 z107
  obtain ⟨rfl, N107q, hE107⟩ := hQ107
  have N107 := Fr.app N95 N107q
  have pre108 : ∀ t, Steps p.tables e below (T107.setTop (mkF m 121 #[.val (.int p1), .val (.int p2), .val (.int p3), .val (.int p4), .val (.int p5), .val (.int bv), .val (.int bw), .val (.ref ab), .val (.int en), .val (.ref ob), .val (.int be), .val (.ref ks), .unset, .unset, .unset, .unset] [(.int (fn3 ob ab (own_pos en (fb 6) (fb 7)) en fb kp))])) t → Steps p.tables e below (s₁.setTop (entryFrame m #[(.int p1), (.int p2), (.int p3), (.int p4), (.int p5)] maxLocals)) t := by
    intro t kt
    refine pre83 _ ?_
    show Steps p.tables e below (T81.setTop (mkF m 102 #[.val (.int p1), .val (.int p2), .val (.int p3), .val (.int p4), .val (.int p5), .val (.int bv), .val (.int bw), .val (.ref ab), .val (.int en), .val (.ref ob), .unset, .unset, .unset, .unset, .unset, .unset] [(.int be)])) _
    refine XS.istore X81.here hx rfl (hb hby at_102) rfl (l' := #[.val (.int p1), .val (.int p2), .val (.int p3), .val (.int p4), .val (.int p5), .val (.int bv), .val (.int bw), .val (.ref ab), .val (.int en), .val (.ref ob), .val (.int be), .unset, .unset, .unset, .unset, .unset]) rfl ?_
    show Steps p.tables e below (T81.setTop (mkF m 104 #[.val (.int p1), .val (.int p2), .val (.int p3), .val (.int p4), .val (.int p5), .val (.int bv), .val (.int bw), .val (.ref ab), .val (.int en), .val (.ref ob), .val (.int be), .unset, .unset, .unset, .unset, .unset] [])) _
    refine XS.aload X81.here hx rfl (hb hby at_104) rfl rfl ?_
    show Steps p.tables e below (T81.setTop (mkF m 106 #[.val (.int p1), .val (.int p2), .val (.int p3), .val (.int p4), .val (.int p5), .val (.int bv), .val (.int bw), .val (.ref ab), .val (.int en), .val (.ref ob), .val (.int be), .unset, .unset, .unset, .unset, .unset] [(.ref ob)])) _
    refine st84.trans ?_
    show Steps p.tables e below (T84.setTop (mkF m 109 #[.val (.int p1), .val (.int p2), .val (.int p3), .val (.int p4), .val (.int p5), .val (.int bv), .val (.int bw), .val (.ref ab), .val (.int en), .val (.ref ob), .val (.int be), .unset, .unset, .unset, .unset, .unset] [])) _
    refine XS.aload X84.here hx rfl (hb hby at_109) rfl rfl ?_
    show Steps p.tables e below (T84.setTop (mkF m 111 #[.val (.int p1), .val (.int p2), .val (.int p3), .val (.int p4), .val (.int p5), .val (.int bv), .val (.int bw), .val (.ref ab), .val (.int en), .val (.ref ob), .val (.int be), .unset, .unset, .unset, .unset, .unset] [(.ref ob)])) _
    refine st95.trans ?_
    show Steps p.tables e below (T95.setTop (mkF m 114 #[.val (.int p1), .val (.int p2), .val (.int p3), .val (.int p4), .val (.int p5), .val (.int bv), .val (.int bw), .val (.ref ab), .val (.int en), .val (.ref ob), .val (.int be), .unset, .unset, .unset, .unset, .unset] [(.ref ks)])) _
    refine XS.astore X95.here hx rfl (hb hby at_114) rfl rfl (l' := #[.val (.int p1), .val (.int p2), .val (.int p3), .val (.int p4), .val (.int p5), .val (.int bv), .val (.int bw), .val (.ref ab), .val (.int en), .val (.ref ob), .val (.int be), .val (.ref ks), .unset, .unset, .unset, .unset]) rfl ?_
    show Steps p.tables e below (T95.setTop (mkF m 116 #[.val (.int p1), .val (.int p2), .val (.int p3), .val (.int p4), .val (.int p5), .val (.int bv), .val (.int bw), .val (.ref ab), .val (.int en), .val (.ref ob), .val (.int be), .val (.ref ks), .unset, .unset, .unset, .unset] [])) _
    refine XS.aload X95.here hx rfl (hb hby at_116) rfl rfl ?_
    show Steps p.tables e below (T95.setTop (mkF m 118 #[.val (.int p1), .val (.int p2), .val (.int p3), .val (.int p4), .val (.int p5), .val (.int bv), .val (.int bw), .val (.ref ab), .val (.int en), .val (.ref ob), .val (.int be), .val (.ref ks), .unset, .unset, .unset, .unset] [(.ref ob)])) _
    refine st107.trans ?_
    exact kt
  obtain ⟨ac, h_ac⟩ : ∃ z : Int32, z = (fn3 ob ab (own_pos en (fb 6) (fb 7)) en fb kp) := ⟨_, rfl⟩
  have pre109 : ∀ t, Steps p.tables e below (T107.setTop (mkF m 121 #[.val (.int p1), .val (.int p2), .val (.int p3), .val (.int p4), .val (.int p5), .val (.int bv), .val (.int bw), .val (.ref ab), .val (.int en), .val (.ref ob), .val (.int be), .val (.ref ks), .unset, .unset, .unset, .unset] [(.int ac)])) t → Steps p.tables e below (s₁.setTop (entryFrame m #[(.int p1), (.int p2), (.int p3), (.int p4), (.int p5)] maxLocals)) t := by
    intro t kt
    rw [h_ac] at kt
    exact pre108 _ kt
  obtain ⟨cq110, kq110, q110a, q110b, q110c⟩ := isOf hZ hE107 p95_0
  obtain ⟨_, _, ⟨T110, L110, k110, n110⟩, -, X110, ⟨Lc110, hQ110, l110, y110, z110⟩, st110⟩ := X107.virtualBack hx (y := (⟨"com/example/fama/fama/table/JsonLine", "atString", "()Z"⟩ : MethodName)) (z := (⟨"com/example/fama/fama/table/JsonLine", "atString", "()Z"⟩ : MethodName)) hown (mvT hZ (hw _ (List.mem_of_getElem? (i := 21) rfl))) (mvT hZ (hw _ (List.mem_of_getElem? (i := 22) rfl))) (notFace_of_selects (args := #[]) (mvT hZ (hw _ (List.mem_of_getElem? (i := 24) rfl)))) (mvT hZ (hw _ (List.mem_of_getElem? (i := 24) rfl))) (mvT hZ (hw _ (List.mem_of_getElem? (i := 23) rfl))) (by decide) (backOf (W := 0) (rm3 l Z a0 hw [] ob ab (own_pos en (fb 6) (fb 7)) en fb kp T95.heap n0 Z104 p95_1 p95_2 p95_3 f98 hkp) hZ (hw _ (List.mem_of_getElem? (i := 25) rfl)) (hw _ (List.mem_of_getElem? (i := 4) rfl)) (by decide) (by decide)) q110a q110c (g := (mkF m 125 #[.val (.int p1), .val (.int p2), .val (.int p3), .val (.int p4), .val (.int p5), .val (.int bv), .val (.int bw), .val (.ref ab), .val (.int en), .val (.ref ob), .val (.int be), .val (.ref ks), .val (.int ac), .unset, .unset, .unset] [(.ref ob)])) rfl (by rw [hml]; rfl) (Steps.refl _) (argsL := []) (rest := []) (lenOf pd_12 rfl) rfl (by show 2 * 0 + _ ≤ _; exact Nat.le_of_eq rfl) (hb hby at_125) (fun _ _ => ⟨rfl, hE107, (by decide : 6 + 0 ≤ _), (by decide : 51 + 0 ≤ _)⟩)
  dsimp only [Pt.U, Pt.locs, Pt.cells, Pt.slots] at X110 l110 y110 z110 st110 hQ110
  subst l110 y110 z110
  obtain ⟨rfl, N110q, hE110⟩ := hQ110
  have N110 := Fr.app N107 N110q
  have pre111 : ∀ t, Steps p.tables e below (T110.setTop (mkF m 128 #[.val (.int p1), .val (.int p2), .val (.int p3), .val (.int p4), .val (.int p5), .val (.int bv), .val (.int bw), .val (.ref ab), .val (.int en), .val (.ref ob), .val (.int be), .val (.ref ks), .val (.int ac), .unset, .unset, .unset] [(.int (fn3 ob ab (own_pos en (fb 6) (fb 7)) en fb kp))])) t → Steps p.tables e below (s₁.setTop (entryFrame m #[(.int p1), (.int p2), (.int p3), (.int p4), (.int p5)] maxLocals)) t := by
    intro t kt
    refine pre109 _ ?_
    show Steps p.tables e below (T107.setTop (mkF m 121 #[.val (.int p1), .val (.int p2), .val (.int p3), .val (.int p4), .val (.int p5), .val (.int bv), .val (.int bw), .val (.ref ab), .val (.int en), .val (.ref ob), .val (.int be), .val (.ref ks), .unset, .unset, .unset, .unset] [(.int ac)])) _
    refine XS.istore X107.here hx rfl (hb hby at_121) rfl (l' := #[.val (.int p1), .val (.int p2), .val (.int p3), .val (.int p4), .val (.int p5), .val (.int bv), .val (.int bw), .val (.ref ab), .val (.int en), .val (.ref ob), .val (.int be), .val (.ref ks), .val (.int ac), .unset, .unset, .unset]) rfl ?_
    show Steps p.tables e below (T107.setTop (mkF m 123 #[.val (.int p1), .val (.int p2), .val (.int p3), .val (.int p4), .val (.int p5), .val (.int bv), .val (.int bw), .val (.ref ab), .val (.int en), .val (.ref ob), .val (.int be), .val (.ref ks), .val (.int ac), .unset, .unset, .unset] [])) _
    refine XS.aload X107.here hx rfl (hb hby at_123) rfl rfl ?_
    show Steps p.tables e below (T107.setTop (mkF m 125 #[.val (.int p1), .val (.int p2), .val (.int p3), .val (.int p4), .val (.int p5), .val (.int bv), .val (.int bw), .val (.ref ab), .val (.int en), .val (.ref ob), .val (.int be), .val (.ref ks), .val (.int ac), .unset, .unset, .unset] [(.ref ob)])) _
    refine st110.trans ?_
    exact kt
  obtain ⟨ag, h_ag⟩ : ∃ z : Int32, z = (fn3 ob ab (own_pos en (fb 6) (fb 7)) en fb kp) := ⟨_, rfl⟩
  have pre112 : ∀ t, Steps p.tables e below (T110.setTop (mkF m 128 #[.val (.int p1), .val (.int p2), .val (.int p3), .val (.int p4), .val (.int p5), .val (.int bv), .val (.int bw), .val (.ref ab), .val (.int en), .val (.ref ob), .val (.int be), .val (.ref ks), .val (.int ac), .unset, .unset, .unset] [(.int ag)])) t → Steps p.tables e below (s₁.setTop (entryFrame m #[(.int p1), (.int p2), (.int p3), (.int p4), (.int p5)] maxLocals)) t := by
    intro t kt
    rw [h_ag] at kt
    exact pre111 _ kt
  have pre113 : ∀ t, Steps p.tables e below (T110.setTop (mkF m 138 #[.val (.int p1), .val (.int p2), .val (.int p3), .val (.int p4), .val (.int p5), .val (.int bv), .val (.int bw), .val (.ref ab), .val (.int en), .val (.ref ob), .val (.int be), .val (.ref ks), .val (.int ac), .val (.int ag), .val (.int (6 : Int32)), .unset] [(.int en), (.int (6 : Int32))])) t → Steps p.tables e below (s₁.setTop (entryFrame m #[(.int p1), (.int p2), (.int p3), (.int p4), (.int p5)] maxLocals)) t := by
    intro t kt
    refine pre112 _ ?_
    show Steps p.tables e below (T110.setTop (mkF m 128 #[.val (.int p1), .val (.int p2), .val (.int p3), .val (.int p4), .val (.int p5), .val (.int bv), .val (.int bw), .val (.ref ab), .val (.int en), .val (.ref ob), .val (.int be), .val (.ref ks), .val (.int ac), .unset, .unset, .unset] [(.int ag)])) _
    refine XS.istore X110.here hx rfl (hb hby at_128) rfl (l' := #[.val (.int p1), .val (.int p2), .val (.int p3), .val (.int p4), .val (.int p5), .val (.int bv), .val (.int bw), .val (.ref ab), .val (.int en), .val (.ref ob), .val (.int be), .val (.ref ks), .val (.int ac), .val (.int ag), .unset, .unset]) rfl ?_
    show Steps p.tables e below (T110.setTop (mkF m 130 #[.val (.int p1), .val (.int p2), .val (.int p3), .val (.int p4), .val (.int p5), .val (.int bv), .val (.int bw), .val (.ref ab), .val (.int en), .val (.ref ob), .val (.int be), .val (.ref ks), .val (.int ac), .val (.int ag), .unset, .unset] [])) _
    refine XS.bipush X110.here hx rfl (hb hby at_130) ?_
    show Steps p.tables e below (T110.setTop (mkF m 132 #[.val (.int p1), .val (.int p2), .val (.int p3), .val (.int p4), .val (.int p5), .val (.int bv), .val (.int bw), .val (.ref ab), .val (.int en), .val (.ref ob), .val (.int be), .val (.ref ks), .val (.int ac), .val (.int ag), .unset, .unset] [(.int (6 : Int32))])) _
    refine XS.istore X110.here hx rfl (hb hby at_132) rfl (l' := #[.val (.int p1), .val (.int p2), .val (.int p3), .val (.int p4), .val (.int p5), .val (.int bv), .val (.int bw), .val (.ref ab), .val (.int en), .val (.ref ob), .val (.int be), .val (.ref ks), .val (.int ac), .val (.int ag), .val (.int (6 : Int32)), .unset]) rfl ?_
    show Steps p.tables e below (T110.setTop (mkF m 134 #[.val (.int p1), .val (.int p2), .val (.int p3), .val (.int p4), .val (.int p5), .val (.int bv), .val (.int bw), .val (.ref ab), .val (.int en), .val (.ref ob), .val (.int be), .val (.ref ks), .val (.int ac), .val (.int ag), .val (.int (6 : Int32)), .unset] [])) _
    refine XS.iload X110.here hx rfl (hb hby at_134) rfl ?_
    show Steps p.tables e below (T110.setTop (mkF m 136 #[.val (.int p1), .val (.int p2), .val (.int p3), .val (.int p4), .val (.int p5), .val (.int bv), .val (.int bw), .val (.ref ab), .val (.int en), .val (.ref ob), .val (.int be), .val (.ref ks), .val (.int ac), .val (.int ag), .val (.int (6 : Int32)), .unset] [(.int (6 : Int32))])) _
    refine XS.iload X110.here hx rfl (hb hby at_136) rfl ?_
    exact kt
  by_cases hc138_114 : (6 : Int32) < en
  · skip
    obtain ⟨_, _, ⟨T115, L115, k115, n115⟩, -, X115, ⟨Lc115, hQ115, l115, y115, z115⟩, st115⟩ := Jvm.LawKit.callS X110 hx (y := (⟨"com/example/fama/fama/table/JsonLineAtStringPinLaw", "ws", "(B)Z"⟩ : MethodName)) hown (mvT hZ (hw _ (List.mem_of_getElem? (i := 130) rfl))) (mvT hZ (hw _ (List.mem_of_getElem? (i := 131) rfl))) (mvT hZ (hw _ (List.mem_of_getElem? (i := 132) rfl))) (mvT hZ (hw _ (List.mem_of_getElem? (i := 133) rfl))) (by decide) (backOf (W := 0) (rm24 l Z a0 hw [] bv T95.heap n0 Z104) hZ (hw _ (List.mem_of_getElem? (i := 133) rfl)) (hw _ (List.mem_of_getElem? (i := 132) rfl)) (by decide) (by decide)) (g := (mkF m 143 #[.val (.int p1), .val (.int p2), .val (.int p3), .val (.int p4), .val (.int p5), .val (.int bv), .val (.int bw), .val (.ref ab), .val (.int en), .val (.ref ob), .val (.int be), .val (.ref ks), .val (.int ac), .val (.int ag), .val (.int (6 : Int32)), .unset] [(.int bv)])) rfl (by rw [hml]; rfl) (argsL := [(.int bv)]) (rest := []) (lenOf pd_0 rfl) rfl (by show 2 * 0 + _ ≤ _; exact Nat.le_of_eq rfl) (hb hby at_143) (fun _ _ => ⟨rfl, hE110, (by decide : 6 + 0 ≤ _), (by decide : 51 + 0 ≤ _)⟩)
    dsimp only [Pt.U, Pt.locs, Pt.cells, Pt.slots] at X115 l115 y115 z115 st115 hQ115
    subst l115 y115 z115
    obtain ⟨rfl, N115q, hE115⟩ := hQ115
    have N115 := Fr.app N110 N115q
    have pre116 : ∀ t, Steps p.tables e below (T115.setTop (mkF m 146 #[.val (.int p1), .val (.int p2), .val (.int p3), .val (.int p4), .val (.int p5), .val (.int bv), .val (.int bw), .val (.ref ab), .val (.int en), .val (.ref ob), .val (.int be), .val (.ref ks), .val (.int ac), .val (.int ag), .val (.int (6 : Int32)), .unset] [(.int (fn24 bv))])) t → Steps p.tables e below (s₁.setTop (entryFrame m #[(.int p1), (.int p2), (.int p3), (.int p4), (.int p5)] maxLocals)) t := by
      intro t kt
      refine pre113 _ ?_
      show Steps p.tables e below (T110.setTop (mkF m 138 #[.val (.int p1), .val (.int p2), .val (.int p3), .val (.int p4), .val (.int p5), .val (.int bv), .val (.int bw), .val (.ref ab), .val (.int en), .val (.ref ob), .val (.int be), .val (.ref ks), .val (.int ac), .val (.int ag), .val (.int (6 : Int32)), .unset] [(.int en), (.int (6 : Int32))])) _
      refine XS.icmpNo X110.here hx rfl (hb hby at_138) rfl (XT.ii_ge_f hc138_114) ?_
      show Steps p.tables e below (T110.setTop (mkF m 141 #[.val (.int p1), .val (.int p2), .val (.int p3), .val (.int p4), .val (.int p5), .val (.int bv), .val (.int bw), .val (.ref ab), .val (.int en), .val (.ref ob), .val (.int be), .val (.ref ks), .val (.int ac), .val (.int ag), .val (.int (6 : Int32)), .unset] [])) _
      refine XS.iload X110.here hx rfl (hb hby at_141) rfl ?_
      show Steps p.tables e below (T110.setTop (mkF m 143 #[.val (.int p1), .val (.int p2), .val (.int p3), .val (.int p4), .val (.int p5), .val (.int bv), .val (.int bw), .val (.ref ab), .val (.int en), .val (.ref ob), .val (.int be), .val (.ref ks), .val (.int ac), .val (.int ag), .val (.int (6 : Int32)), .unset] [(.int bv)])) _
      refine st115 _ ?_
      exact kt
    by_cases hc146_117 : (fn24 bv) = (0 : Int32)
    · skip
      have pre118 : ∀ t, Steps p.tables e below (T115.setTop (mkF m 193 #[.val (.int p1), .val (.int p2), .val (.int p3), .val (.int p4), .val (.int p5), .val (.int bv), .val (.int bw), .val (.ref ab), .val (.int en), .val (.ref ob), .val (.int be), .val (.ref ks), .val (.int ac), .val (.int ag), .val (.int (6 : Int32)), .unset] [(.int (34 : Int32)), (.int (fb 6))])) t → Steps p.tables e below (s₁.setTop (entryFrame m #[(.int p1), (.int p2), (.int p3), (.int p4), (.int p5)] maxLocals)) t := by
        intro t kt
        refine pre116 _ ?_
        show Steps p.tables e below (T115.setTop (mkF m 146 #[.val (.int p1), .val (.int p2), .val (.int p3), .val (.int p4), .val (.int p5), .val (.int bv), .val (.int bw), .val (.ref ab), .val (.int en), .val (.ref ob), .val (.int be), .val (.ref ks), .val (.int ac), .val (.int ag), .val (.int (6 : Int32)), .unset] [(.int (fn24 bv))])) _
        refine XS.ifYes X115.here hx rfl (pc0 := 146) (pc' := 153) rfl (hb hby at_146) rfl (XT.i0_eq_t hc146_117) (by decide) (by decide) ?_
        show Steps p.tables e below (T115.setTop (mkF m 153 #[.val (.int p1), .val (.int p2), .val (.int p3), .val (.int p4), .val (.int p5), .val (.int bv), .val (.int bw), .val (.ref ab), .val (.int en), .val (.ref ob), .val (.int be), .val (.ref ks), .val (.int ac), .val (.int ag), .val (.int (6 : Int32)), .unset] [])) _
        refine XS.iload X115.here hx rfl (hb hby at_153) rfl ?_
        show Steps p.tables e below (T115.setTop (mkF m 155 #[.val (.int p1), .val (.int p2), .val (.int p3), .val (.int p4), .val (.int p5), .val (.int bv), .val (.int bw), .val (.ref ab), .val (.int en), .val (.ref ob), .val (.int be), .val (.ref ks), .val (.int ac), .val (.int ag), .val (.int (6 : Int32)), .unset] [(.int (6 : Int32))])) _
        refine XS.bipush X115.here hx rfl (hb hby at_155) ?_
        show Steps p.tables e below (T115.setTop (mkF m 157 #[.val (.int p1), .val (.int p2), .val (.int p3), .val (.int p4), .val (.int p5), .val (.int bv), .val (.int bw), .val (.ref ab), .val (.int en), .val (.ref ob), .val (.int be), .val (.ref ks), .val (.int ac), .val (.int ag), .val (.int (6 : Int32)), .unset] [(.int (7 : Int32)), (.int (6 : Int32))])) _
        refine XS.icmpYes X115.here hx rfl (pc0 := 157) (pc' := 179) rfl (hb hby at_157) rfl (XT.ii_ne_t (by decide)) (by decide) (by decide) ?_
        show Steps p.tables e below (T115.setTop (mkF m 179 #[.val (.int p1), .val (.int p2), .val (.int p3), .val (.int p4), .val (.int p5), .val (.int bv), .val (.int bw), .val (.ref ab), .val (.int en), .val (.ref ob), .val (.int be), .val (.ref ks), .val (.int ac), .val (.int ag), .val (.int (6 : Int32)), .unset] [])) _
        refine XS.iload X115.here hx rfl (hb hby at_179) rfl ?_
        show Steps p.tables e below (T115.setTop (mkF m 181 #[.val (.int p1), .val (.int p2), .val (.int p3), .val (.int p4), .val (.int p5), .val (.int bv), .val (.int bw), .val (.ref ab), .val (.int en), .val (.ref ob), .val (.int be), .val (.ref ks), .val (.int ac), .val (.int ag), .val (.int (6 : Int32)), .unset] [(.int (6 : Int32))])) _
        refine XS.iload X115.here hx rfl (hb hby at_181) rfl ?_
        show Steps p.tables e below (T115.setTop (mkF m 183 #[.val (.int p1), .val (.int p2), .val (.int p3), .val (.int p4), .val (.int p5), .val (.int bv), .val (.int bw), .val (.ref ab), .val (.int en), .val (.ref ob), .val (.int be), .val (.ref ks), .val (.int ac), .val (.int ag), .val (.int (6 : Int32)), .unset] [(.int en), (.int (6 : Int32))])) _
        refine XS.icmpNo X115.here hx rfl (hb hby at_183) rfl (XT.ii_ge_f hc138_114) ?_
        show Steps p.tables e below (T115.setTop (mkF m 186 #[.val (.int p1), .val (.int p2), .val (.int p3), .val (.int p4), .val (.int p5), .val (.int bv), .val (.int bw), .val (.ref ab), .val (.int en), .val (.ref ob), .val (.int be), .val (.ref ks), .val (.int ac), .val (.int ag), .val (.int (6 : Int32)), .unset] [])) _
        refine XS.aload X115.here hx rfl (hb hby at_186) rfl rfl ?_
        show Steps p.tables e below (T115.setTop (mkF m 188 #[.val (.int p1), .val (.int p2), .val (.int p3), .val (.int p4), .val (.int p5), .val (.int bv), .val (.int bw), .val (.ref ab), .val (.int en), .val (.ref ob), .val (.int be), .val (.ref ks), .val (.int ac), .val (.int ag), .val (.int (6 : Int32)), .unset] [(.ref ab)])) _
        refine XS.iload X115.here hx rfl (hb hby at_188) rfl ?_
        show Steps p.tables e below (T115.setTop (mkF m 190 #[.val (.int p1), .val (.int p2), .val (.int p3), .val (.int p4), .val (.int p5), .val (.int bv), .val (.int bw), .val (.ref ab), .val (.int en), .val (.ref ob), .val (.int be), .val (.ref ks), .val (.int ac), .val (.int ag), .val (.int (6 : Int32)), .unset] [(.int (6 : Int32)), (.ref ab)])) _
        refine owLdB (k := 6) X115 hx hZ hE115 f98 (j := (6 : Int32)) rfl (by decide) (g := (mkF m 190 #[.val (.int p1), .val (.int p2), .val (.int p3), .val (.int p4), .val (.int p5), .val (.int bv), .val (.int bw), .val (.ref ab), .val (.int en), .val (.ref ob), .val (.int be), .val (.ref ks), .val (.int ac), .val (.int ag), .val (.int (6 : Int32)), .unset] [(.int (6 : Int32)), (.ref ab)])) rfl rfl (hb hby at_190) _ ?_
        show Steps p.tables e below (T115.setTop (mkF m 191 #[.val (.int p1), .val (.int p2), .val (.int p3), .val (.int p4), .val (.int p5), .val (.int bv), .val (.int bw), .val (.ref ab), .val (.int en), .val (.ref ob), .val (.int be), .val (.ref ks), .val (.int ac), .val (.int ag), .val (.int (6 : Int32)), .unset] [(.int (fb 6))])) _
        refine XS.bipush X115.here hx rfl (hb hby at_191) ?_
        exact kt
      obtain ⟨ex, h_ex⟩ : ∃ z : Int32, z = (if (fb 6) = (34 : Int32) then (1 : Int32) else (0 : Int32)) := ⟨_, rfl⟩
      have pre120 : ∀ t, Steps p.tables e below (T115.setTop (mkF m 201 #[.val (.int p1), .val (.int p2), .val (.int p3), .val (.int p4), .val (.int p5), .val (.int bv), .val (.int bw), .val (.ref ab), .val (.int en), .val (.ref ob), .val (.int be), .val (.ref ks), .val (.int ac), .val (.int ag), .val (.int (6 : Int32)), .unset] [(.int ex)])) t → Steps p.tables e below (s₁.setTop (entryFrame m #[(.int p1), (.int p2), (.int p3), (.int p4), (.int p5)] maxLocals)) t := by
        intro t kt
        refine pre118 _ ?_
        by_cases hc193_119 : (fb 6) = (34 : Int32)
        · skip
          have q_ex : ex = (1 : Int32) := by rw [h_ex, if_pos hc193_119]
          rw [q_ex] at kt
          show Steps p.tables e below (T115.setTop (mkF m 193 #[.val (.int p1), .val (.int p2), .val (.int p3), .val (.int p4), .val (.int p5), .val (.int bv), .val (.int bw), .val (.ref ab), .val (.int en), .val (.ref ob), .val (.int be), .val (.ref ks), .val (.int ac), .val (.int ag), .val (.int (6 : Int32)), .unset] [(.int (34 : Int32)), (.int (fb 6))])) _
          refine XS.icmpNo X115.here hx rfl (hb hby at_193) rfl (XT.ii_ne_f hc193_119) ?_
          show Steps p.tables e below (T115.setTop (mkF m 196 #[.val (.int p1), .val (.int p2), .val (.int p3), .val (.int p4), .val (.int p5), .val (.int bv), .val (.int bw), .val (.ref ab), .val (.int en), .val (.ref ob), .val (.int be), .val (.ref ks), .val (.int ac), .val (.int ag), .val (.int (6 : Int32)), .unset] [])) _
          refine XS.iconst X115.here hx rfl (hb hby at_196) ?_
          show Steps p.tables e below (T115.setTop (mkF m 197 #[.val (.int p1), .val (.int p2), .val (.int p3), .val (.int p4), .val (.int p5), .val (.int bv), .val (.int bw), .val (.ref ab), .val (.int en), .val (.ref ob), .val (.int be), .val (.ref ks), .val (.int ac), .val (.int ag), .val (.int (6 : Int32)), .unset] [(.int (1 : Int32))])) _
          refine XS.goto X115.here hx rfl (pc0 := 197) (pc' := 201) rfl (hb hby at_197) (by decide) (by decide) ?_
          exact kt
        · skip
          have q_ex : ex = (0 : Int32) := by rw [h_ex, if_neg hc193_119]
          rw [q_ex] at kt
          show Steps p.tables e below (T115.setTop (mkF m 193 #[.val (.int p1), .val (.int p2), .val (.int p3), .val (.int p4), .val (.int p5), .val (.int bv), .val (.int bw), .val (.ref ab), .val (.int en), .val (.ref ob), .val (.int be), .val (.ref ks), .val (.int ac), .val (.int ag), .val (.int (6 : Int32)), .unset] [(.int (34 : Int32)), (.int (fb 6))])) _
          refine XS.icmpYes X115.here hx rfl (pc0 := 193) (pc' := 200) rfl (hb hby at_193) rfl (XT.ii_ne_t hc193_119) (by decide) (by decide) ?_
          show Steps p.tables e below (T115.setTop (mkF m 200 #[.val (.int p1), .val (.int p2), .val (.int p3), .val (.int p4), .val (.int p5), .val (.int bv), .val (.int bw), .val (.ref ab), .val (.int en), .val (.ref ob), .val (.int be), .val (.ref ks), .val (.int ac), .val (.int ag), .val (.int (6 : Int32)), .unset] [])) _
          refine XS.iconst X115.here hx rfl (hb hby at_200) ?_
          exact kt
      have pre121 : ∀ t, Steps p.tables e below (T115.setTop (mkF m 205 #[.val (.int p1), .val (.int p2), .val (.int p3), .val (.int p4), .val (.int p5), .val (.int bv), .val (.int bw), .val (.ref ab), .val (.int en), .val (.ref ob), .val (.int be), .val (.ref ks), .val (.int ac), .val (.int ag), .val (.int (6 : Int32)), .val (.int ex)] [(.int be)])) t → Steps p.tables e below (s₁.setTop (entryFrame m #[(.int p1), (.int p2), (.int p3), (.int p4), (.int p5)] maxLocals)) t := by
        intro t kt
        refine pre120 _ ?_
        show Steps p.tables e below (T115.setTop (mkF m 201 #[.val (.int p1), .val (.int p2), .val (.int p3), .val (.int p4), .val (.int p5), .val (.int bv), .val (.int bw), .val (.ref ab), .val (.int en), .val (.ref ob), .val (.int be), .val (.ref ks), .val (.int ac), .val (.int ag), .val (.int (6 : Int32)), .unset] [(.int ex)])) _
        refine XS.istore X115.here hx rfl (hb hby at_201) rfl (l' := #[.val (.int p1), .val (.int p2), .val (.int p3), .val (.int p4), .val (.int p5), .val (.int bv), .val (.int bw), .val (.ref ab), .val (.int en), .val (.ref ob), .val (.int be), .val (.ref ks), .val (.int ac), .val (.int ag), .val (.int (6 : Int32)), .val (.int ex)]) rfl ?_
        show Steps p.tables e below (T115.setTop (mkF m 203 #[.val (.int p1), .val (.int p2), .val (.int p3), .val (.int p4), .val (.int p5), .val (.int bv), .val (.int bw), .val (.ref ab), .val (.int en), .val (.ref ob), .val (.int be), .val (.ref ks), .val (.int ac), .val (.int ag), .val (.int (6 : Int32)), .val (.int ex)] [])) _
        refine XS.iload X115.here hx rfl (hb hby at_203) rfl ?_
        exact kt
      by_cases hc205_122 : be = (0 : Int32)
      · skip
        have CK123 := CHr.keep (Z := Z) (EL := EL1) (Keep.refl T95.heap []) sf0 CC95.1
        obtain ⟨kl, T124, gh124, k124, kb, kb124, X124, hE124, E124, hS, hk, hZ, hown, E_kl, F_c_kl, F_v_kl, V124, -, -, CC124, -, -, st124⟩ := ldcCH (s := s) (vm0 := T95.vm) X115 hx hZ hown (hw _ (List.mem_of_getElem? (i := 119) rfl)) hwS hE115 hS (Nat.le_trans hk (Keep.refl T95.heap []).1) hEL own_mem CK123.1 ⟨by decide, rfl⟩ (z := (1 : Int32)) (by decide) rfl (g := (mkF m 208 #[.val (.int p1), .val (.int p2), .val (.int p3), .val (.int p4), .val (.int p5), .val (.int bv), .val (.int bw), .val (.ref ab), .val (.int en), .val (.ref ob), .val (.int be), .val (.ref ks), .val (.int ac), .val (.int ag), .val (.int (6 : Int32)), .val (.int ex)] [])) rfl (hb hby at_208) (n := 4) (by decide) (by decide) (by decide) (by decide)
        have f125 := f97.ext E124
        have f126 := f98.ext E124
        have f127 := p95_0.ext E124
        have f128 := p95_1.ext E124
        have f129 := p95_2.ext E124
        have f130 := p95_3.ext E124
        have f131 := p95_4.ext E124
        have f132 := p95_E.ext E124
        have f133 := p95_v.ext E124
        have f134 := p95_c.ext E124
        have f135 := p95_A.ext E124
        have Z136 := Nat.le_trans Z104 E124.1
        have K137 := K105.ext E124
        have K138 := (Keep.refl T95.heap []).ext E124
        have CR139 := CR106.trans (CK123.trans CC124)
        have A_kb : owAI Z gh124 kb .byte 1 (fun _ => (107 : Int32)) := owAI.of_arv V124 rfl (fun i hi => by have q : i = 0 := (by omega); subst q; rfl)
        obtain ⟨cq140, kq140, q140a, q140b, q140c⟩ := isOf hZ hE124 E_kl
        obtain ⟨_, _, ⟨T140, L140, k140, n140⟩, -, X140, ⟨Lc140, hQ140, l140, y140, z140⟩, st140⟩ := X124.virtualBack hx (y := (⟨"java/lang/String", "equals", "(Ljava/lang/Object;)Z"⟩ : MethodName)) (z := (⟨"java/lang/String", "equals", "(Ljava/lang/Object;)Z"⟩ : MethodName)) hown (mvT hZ (hw _ (List.mem_of_getElem? (i := 120) rfl))) (mvT hZ (hw _ (List.mem_of_getElem? (i := 121) rfl))) (notFace_of_selects (args := #[]) (mvT hZ (hw _ (List.mem_of_getElem? (i := 123) rfl)))) (mvT hZ (hw _ (List.mem_of_getElem? (i := 123) rfl))) (mvT hZ (hw _ (List.mem_of_getElem? (i := 122) rfl))) (by decide) (backOf (W := 0) (rm22 l Z a0 hw [] kl ks kb bb u8 cs fmv gh124 n0 Z136 E_kl F_v_kl F_c_kl A_kb f132 f133 f134 f135 f125 hst) hZ (hw _ (List.mem_of_getElem? (i := 124) rfl)) (hw _ (List.mem_of_getElem? (i := 58) rfl)) (by decide) (by decide)) q140a q140c (g := (mkF m 212 #[.val (.int p1), .val (.int p2), .val (.int p3), .val (.int p4), .val (.int p5), .val (.int bv), .val (.int bw), .val (.ref ab), .val (.int en), .val (.ref ob), .val (.int be), .val (.ref ks), .val (.int ac), .val (.int ag), .val (.int (6 : Int32)), .val (.int ex)] [(.ref ks), (.ref kl)])) rfl (by rw [hml]; rfl) (Steps.refl _) (argsL := [(.ref ks)]) (rest := []) (lenOf pd_18 rfl) rfl (by show 2 * 0 + _ ≤ _; exact Nat.le_of_eq rfl) (hb hby at_212) (fun _ _ => ⟨rfl, hE124, (by decide : 8 + 0 ≤ _), (by decide : 59 + 0 ≤ _)⟩)
        dsimp only [Pt.U, Pt.locs, Pt.cells, Pt.slots] at X140 l140 y140 z140 st140 hQ140
        subst l140 y140 z140
        obtain ⟨rfl, N140q, hE140⟩ := hQ140
        have N140 := Fr.app N115 N140q
        have pre141 : ∀ t, Steps p.tables e below (T140.setTop (mkF m 222 #[.val (.int p1), .val (.int p2), .val (.int p3), .val (.int p4), .val (.int p5), .val (.int bv), .val (.int bw), .val (.ref ab), .val (.int en), .val (.ref ob), .val (.int be), .val (.ref ks), .val (.int ac), .val (.int ag), .val (.int (6 : Int32)), .val (.int ex)] [(.int ex), (.int ac)])) t → Steps p.tables e below (s₁.setTop (entryFrame m #[(.int p1), (.int p2), (.int p3), (.int p4), (.int p5)] maxLocals)) t := by
          intro t kt
          refine pre121 _ ?_
          show Steps p.tables e below (T115.setTop (mkF m 205 #[.val (.int p1), .val (.int p2), .val (.int p3), .val (.int p4), .val (.int p5), .val (.int bv), .val (.int bw), .val (.ref ab), .val (.int en), .val (.ref ob), .val (.int be), .val (.ref ks), .val (.int ac), .val (.int ag), .val (.int (6 : Int32)), .val (.int ex)] [(.int be)])) _
          refine XS.ifNo X115.here hx rfl (hb hby at_205) rfl (XT.i0_ne_f hc205_122) ?_
          show Steps p.tables e below (T115.setTop (mkF m 208 #[.val (.int p1), .val (.int p2), .val (.int p3), .val (.int p4), .val (.int p5), .val (.int bv), .val (.int bw), .val (.ref ab), .val (.int en), .val (.ref ob), .val (.int be), .val (.ref ks), .val (.int ac), .val (.int ag), .val (.int (6 : Int32)), .val (.int ex)] [])) _
          refine st124 _ ?_
          show Steps p.tables e below (T124.setTop (mkF m 210 #[.val (.int p1), .val (.int p2), .val (.int p3), .val (.int p4), .val (.int p5), .val (.int bv), .val (.int bw), .val (.ref ab), .val (.int en), .val (.ref ob), .val (.int be), .val (.ref ks), .val (.int ac), .val (.int ag), .val (.int (6 : Int32)), .val (.int ex)] [(.ref kl)])) _
          refine XS.aload X124.here hx rfl (hb hby at_210) rfl rfl ?_
          show Steps p.tables e below (T124.setTop (mkF m 212 #[.val (.int p1), .val (.int p2), .val (.int p3), .val (.int p4), .val (.int p5), .val (.int bv), .val (.int bw), .val (.ref ab), .val (.int en), .val (.ref ob), .val (.int be), .val (.ref ks), .val (.int ac), .val (.int ag), .val (.int (6 : Int32)), .val (.int ex)] [(.ref ks), (.ref kl)])) _
          refine st140.trans ?_
          show Steps p.tables e below (T140.setTop (mkF m 215 #[.val (.int p1), .val (.int p2), .val (.int p3), .val (.int p4), .val (.int p5), .val (.int bv), .val (.int bw), .val (.ref ab), .val (.int en), .val (.ref ob), .val (.int be), .val (.ref ks), .val (.int ac), .val (.int ag), .val (.int (6 : Int32)), .val (.int ex)] [(.int (1 : Int32))])) _
          refine XS.ifNo X140.here hx rfl (hb hby at_215) rfl (XT.i0_eq_f (by decide)) ?_
          show Steps p.tables e below (T140.setTop (mkF m 218 #[.val (.int p1), .val (.int p2), .val (.int p3), .val (.int p4), .val (.int p5), .val (.int bv), .val (.int bw), .val (.ref ab), .val (.int en), .val (.ref ob), .val (.int be), .val (.ref ks), .val (.int ac), .val (.int ag), .val (.int (6 : Int32)), .val (.int ex)] [])) _
          refine XS.iload X140.here hx rfl (hb hby at_218) rfl ?_
          show Steps p.tables e below (T140.setTop (mkF m 220 #[.val (.int p1), .val (.int p2), .val (.int p3), .val (.int p4), .val (.int p5), .val (.int bv), .val (.int bw), .val (.ref ab), .val (.int en), .val (.ref ob), .val (.int be), .val (.ref ks), .val (.int ac), .val (.int ag), .val (.int (6 : Int32)), .val (.int ex)] [(.int ac)])) _
          refine XS.iload X140.here hx rfl (hb hby at_220) rfl ?_
          exact kt
        by_cases hc222_142 : ac = ex
        · skip
          have pre143 : ∀ t, Steps p.tables e below (T140.setTop (mkF m 229 #[.val (.int p1), .val (.int p2), .val (.int p3), .val (.int p4), .val (.int p5), .val (.int bv), .val (.int bw), .val (.ref ab), .val (.int en), .val (.ref ob), .val (.int be), .val (.ref ks), .val (.int ac), .val (.int ag), .val (.int (6 : Int32)), .val (.int ex)] [(.int ex), (.int ag)])) t → Steps p.tables e below (s₁.setTop (entryFrame m #[(.int p1), (.int p2), (.int p3), (.int p4), (.int p5)] maxLocals)) t := by
            intro t kt
            refine pre141 _ ?_
            show Steps p.tables e below (T140.setTop (mkF m 222 #[.val (.int p1), .val (.int p2), .val (.int p3), .val (.int p4), .val (.int p5), .val (.int bv), .val (.int bw), .val (.ref ab), .val (.int en), .val (.ref ob), .val (.int be), .val (.ref ks), .val (.int ac), .val (.int ag), .val (.int (6 : Int32)), .val (.int ex)] [(.int ex), (.int ac)])) _
            refine XS.icmpNo X140.here hx rfl (hb hby at_222) rfl (XT.ii_ne_f hc222_142) ?_
            show Steps p.tables e below (T140.setTop (mkF m 225 #[.val (.int p1), .val (.int p2), .val (.int p3), .val (.int p4), .val (.int p5), .val (.int bv), .val (.int bw), .val (.ref ab), .val (.int en), .val (.ref ob), .val (.int be), .val (.ref ks), .val (.int ac), .val (.int ag), .val (.int (6 : Int32)), .val (.int ex)] [])) _
            refine XS.iload X140.here hx rfl (hb hby at_225) rfl ?_
            show Steps p.tables e below (T140.setTop (mkF m 227 #[.val (.int p1), .val (.int p2), .val (.int p3), .val (.int p4), .val (.int p5), .val (.int bv), .val (.int bw), .val (.ref ab), .val (.int en), .val (.ref ob), .val (.int be), .val (.ref ks), .val (.int ac), .val (.int ag), .val (.int (6 : Int32)), .val (.int ex)] [(.int ag)])) _
            refine XS.iload X140.here hx rfl (hb hby at_227) rfl ?_
            exact kt
          by_cases hc229_144 : ag = ex
          · skip
            have pre145 : ∀ t, Steps p.tables e below (T140.setTop (mkF m 237 #[.val (.int p1), .val (.int p2), .val (.int p3), .val (.int p4), .val (.int p5), .val (.int bv), .val (.int bw), .val (.ref ab), .val (.int en), .val (.ref ob), .val (.int be), .val (.ref ks), .val (.int ac), .val (.int ag), .val (.int (6 : Int32)), .val (.int ex)] [(.int (1 : Int32))])) t → Steps p.tables e below (s₁.setTop (entryFrame m #[(.int p1), (.int p2), (.int p3), (.int p4), (.int p5)] maxLocals)) t := by
              intro t kt
              refine pre143 _ ?_
              show Steps p.tables e below (T140.setTop (mkF m 229 #[.val (.int p1), .val (.int p2), .val (.int p3), .val (.int p4), .val (.int p5), .val (.int bv), .val (.int bw), .val (.ref ab), .val (.int en), .val (.ref ob), .val (.int be), .val (.ref ks), .val (.int ac), .val (.int ag), .val (.int (6 : Int32)), .val (.int ex)] [(.int ex), (.int ag)])) _
              refine XS.icmpNo X140.here hx rfl (hb hby at_229) rfl (XT.ii_ne_f hc229_144) ?_
              show Steps p.tables e below (T140.setTop (mkF m 232 #[.val (.int p1), .val (.int p2), .val (.int p3), .val (.int p4), .val (.int p5), .val (.int bv), .val (.int bw), .val (.ref ab), .val (.int en), .val (.ref ob), .val (.int be), .val (.ref ks), .val (.int ac), .val (.int ag), .val (.int (6 : Int32)), .val (.int ex)] [])) _
              refine XS.iconst X140.here hx rfl (hb hby at_232) ?_
              show Steps p.tables e below (T140.setTop (mkF m 233 #[.val (.int p1), .val (.int p2), .val (.int p3), .val (.int p4), .val (.int p5), .val (.int bv), .val (.int bw), .val (.ref ab), .val (.int en), .val (.ref ob), .val (.int be), .val (.ref ks), .val (.int ac), .val (.int ag), .val (.int (6 : Int32)), .val (.int ex)] [(.int (1 : Int32))])) _
              refine XS.goto X140.here hx rfl (pc0 := 233) (pc' := 237) rfl (hb hby at_233) (by decide) (by decide) ?_
              exact kt
            have CK146 := CHr.keep (Z := Z) (EL := EL1) (Keep.refl gh124 []) sf0 CC124.1
            obtain ⟨fs, hr, hrun, hended, hEnd⟩ := X140.leaveW hS (by rw [hE140]; exact Nat.le_trans hk (Keep.refl gh124 []).1) (v := some (.int (1 : Int32))) (fun h => by rw [Bd.returns] at h; cases h)
            have CT := CK146.trans (CHv.at (s := s) (vm0 := T124.vm) X140 hZ hEL CK146.1)
            refine ⟨_, _, pre145 _ ?_, hrun, hended, _, _, rfl, ?_, ?_, hEnd.1, hEnd.2.1, hEnd.2.2.1, hEnd.2.2.2.mono (by decide) (by decide)⟩
            · show Steps p.tables e below (T140.setTop (mkF m 237 #[.val (.int p1), .val (.int p2), .val (.int p3), .val (.int p4), .val (.int p5), .val (.int bv), .val (.int bw), .val (.ref ab), .val (.int en), .val (.ref ob), .val (.int be), .val (.ref ks), .val (.int ac), .val (.int ag), .val (.int (6 : Int32)), .val (.int ex)] [(.int (1 : Int32))])) _
              exact retN X140 hx (t := .boolean) Bd.returns (by simp) (hb hby at_237) hr
            · show Q0 Z p1 p2 p3 p4 p5 u8 cs fmv h0 n0 _ T140.heap _
              rw [hE140]
              exact ⟨rfl, N140⟩
            · rw [hh]
              show CHr Z EL1 s.vm h0 T140.vm T140.heap
              rw [hE140]
              exact CR139.trans CT
          · skip
            exact absurd ((own_fin (pl := (6 : Int32)) (kl := 6) _ _ en fb kp ag (own_pos en (fb 6) (fb 7)) (by rw [hpl, if_pos hc138_114, if_pos hc146_117]) rfl h_ag h_kp1).trans (by rw [if_pos hc138_114]; exact h_ex.symm)) hc229_144
        · skip
          exact absurd ((own_fin (pl := (6 : Int32)) (kl := 6) _ _ en fb kp ac (own_pos en (fb 6) (fb 7)) (by rw [hpl, if_pos hc138_114, if_pos hc146_117]) rfl h_ac h_kp1).trans (by rw [if_pos hc138_114]; exact h_ex.symm)) hc222_142
      · skip
        exact absurd (own_before hoe hob h_be) hc205_122
    · skip
      have pre147 : ∀ t, Steps p.tables e below (T115.setTop (mkF m 164 #[.val (.int p1), .val (.int p2), .val (.int p3), .val (.int p4), .val (.int p5), .val (.int bv), .val (.int bw), .val (.ref ab), .val (.int en), .val (.ref ob), .val (.int be), .val (.ref ks), .val (.int ac), .val (.int ag), .val (.int (7 : Int32)), .unset] [(.int en), (.int (7 : Int32))])) t → Steps p.tables e below (s₁.setTop (entryFrame m #[(.int p1), (.int p2), (.int p3), (.int p4), (.int p5)] maxLocals)) t := by
        intro t kt
        refine pre116 _ ?_
        show Steps p.tables e below (T115.setTop (mkF m 146 #[.val (.int p1), .val (.int p2), .val (.int p3), .val (.int p4), .val (.int p5), .val (.int bv), .val (.int bw), .val (.ref ab), .val (.int en), .val (.ref ob), .val (.int be), .val (.ref ks), .val (.int ac), .val (.int ag), .val (.int (6 : Int32)), .unset] [(.int (fn24 bv))])) _
        refine XS.ifNo X115.here hx rfl (hb hby at_146) rfl (XT.i0_eq_f hc146_117) ?_
        show Steps p.tables e below (T115.setTop (mkF m 149 #[.val (.int p1), .val (.int p2), .val (.int p3), .val (.int p4), .val (.int p5), .val (.int bv), .val (.int bw), .val (.ref ab), .val (.int en), .val (.ref ob), .val (.int be), .val (.ref ks), .val (.int ac), .val (.int ag), .val (.int (6 : Int32)), .unset] [])) _
        refine XS.bipush X115.here hx rfl (hb hby at_149) ?_
        show Steps p.tables e below (T115.setTop (mkF m 151 #[.val (.int p1), .val (.int p2), .val (.int p3), .val (.int p4), .val (.int p5), .val (.int bv), .val (.int bw), .val (.ref ab), .val (.int en), .val (.ref ob), .val (.int be), .val (.ref ks), .val (.int ac), .val (.int ag), .val (.int (6 : Int32)), .unset] [(.int (7 : Int32))])) _
        refine XS.istore X115.here hx rfl (hb hby at_151) rfl (l' := #[.val (.int p1), .val (.int p2), .val (.int p3), .val (.int p4), .val (.int p5), .val (.int bv), .val (.int bw), .val (.ref ab), .val (.int en), .val (.ref ob), .val (.int be), .val (.ref ks), .val (.int ac), .val (.int ag), .val (.int (7 : Int32)), .unset]) rfl ?_
        show Steps p.tables e below (T115.setTop (mkF m 153 #[.val (.int p1), .val (.int p2), .val (.int p3), .val (.int p4), .val (.int p5), .val (.int bv), .val (.int bw), .val (.ref ab), .val (.int en), .val (.ref ob), .val (.int be), .val (.ref ks), .val (.int ac), .val (.int ag), .val (.int (7 : Int32)), .unset] [])) _
        refine XS.iload X115.here hx rfl (hb hby at_153) rfl ?_
        show Steps p.tables e below (T115.setTop (mkF m 155 #[.val (.int p1), .val (.int p2), .val (.int p3), .val (.int p4), .val (.int p5), .val (.int bv), .val (.int bw), .val (.ref ab), .val (.int en), .val (.ref ob), .val (.int be), .val (.ref ks), .val (.int ac), .val (.int ag), .val (.int (7 : Int32)), .unset] [(.int (7 : Int32))])) _
        refine XS.bipush X115.here hx rfl (hb hby at_155) ?_
        show Steps p.tables e below (T115.setTop (mkF m 157 #[.val (.int p1), .val (.int p2), .val (.int p3), .val (.int p4), .val (.int p5), .val (.int bv), .val (.int bw), .val (.ref ab), .val (.int en), .val (.ref ob), .val (.int be), .val (.ref ks), .val (.int ac), .val (.int ag), .val (.int (7 : Int32)), .unset] [(.int (7 : Int32)), (.int (7 : Int32))])) _
        refine XS.icmpNo X115.here hx rfl (hb hby at_157) rfl (XT.ii_ne_f (by decide)) ?_
        show Steps p.tables e below (T115.setTop (mkF m 160 #[.val (.int p1), .val (.int p2), .val (.int p3), .val (.int p4), .val (.int p5), .val (.int bv), .val (.int bw), .val (.ref ab), .val (.int en), .val (.ref ob), .val (.int be), .val (.ref ks), .val (.int ac), .val (.int ag), .val (.int (7 : Int32)), .unset] [])) _
        refine XS.iload X115.here hx rfl (hb hby at_160) rfl ?_
        show Steps p.tables e below (T115.setTop (mkF m 162 #[.val (.int p1), .val (.int p2), .val (.int p3), .val (.int p4), .val (.int p5), .val (.int bv), .val (.int bw), .val (.ref ab), .val (.int en), .val (.ref ob), .val (.int be), .val (.ref ks), .val (.int ac), .val (.int ag), .val (.int (7 : Int32)), .unset] [(.int (7 : Int32))])) _
        refine XS.iload X115.here hx rfl (hb hby at_162) rfl ?_
        exact kt
      by_cases hc164_148 : (7 : Int32) < en
      · skip
        obtain ⟨_, _, ⟨T149, L149, k149, n149⟩, -, X149, ⟨Lc149, hQ149, l149, y149, z149⟩, st149⟩ := Jvm.LawKit.callS X115 hx (y := (⟨"com/example/fama/fama/table/JsonLineAtStringPinLaw", "ws", "(B)Z"⟩ : MethodName)) hown (mvT hZ (hw _ (List.mem_of_getElem? (i := 130) rfl))) (mvT hZ (hw _ (List.mem_of_getElem? (i := 131) rfl))) (mvT hZ (hw _ (List.mem_of_getElem? (i := 132) rfl))) (mvT hZ (hw _ (List.mem_of_getElem? (i := 133) rfl))) (by decide) (backOf (W := 0) (rm24 l Z a0 hw [] bw T95.heap n0 Z104) hZ (hw _ (List.mem_of_getElem? (i := 133) rfl)) (hw _ (List.mem_of_getElem? (i := 132) rfl)) (by decide) (by decide)) (g := (mkF m 169 #[.val (.int p1), .val (.int p2), .val (.int p3), .val (.int p4), .val (.int p5), .val (.int bv), .val (.int bw), .val (.ref ab), .val (.int en), .val (.ref ob), .val (.int be), .val (.ref ks), .val (.int ac), .val (.int ag), .val (.int (7 : Int32)), .unset] [(.int bw)])) rfl (by rw [hml]; rfl) (argsL := [(.int bw)]) (rest := []) (lenOf pd_0 rfl) rfl (by show 2 * 0 + _ ≤ _; exact Nat.le_of_eq rfl) (hb hby at_169) (fun _ _ => ⟨rfl, hE115, (by decide : 6 + 0 ≤ _), (by decide : 51 + 0 ≤ _)⟩)
        dsimp only [Pt.U, Pt.locs, Pt.cells, Pt.slots] at X149 l149 y149 z149 st149 hQ149
        subst l149 y149 z149
        obtain ⟨rfl, N149q, hE149⟩ := hQ149
        have N149 := Fr.app N115 N149q
        have pre150 : ∀ t, Steps p.tables e below (T149.setTop (mkF m 172 #[.val (.int p1), .val (.int p2), .val (.int p3), .val (.int p4), .val (.int p5), .val (.int bv), .val (.int bw), .val (.ref ab), .val (.int en), .val (.ref ob), .val (.int be), .val (.ref ks), .val (.int ac), .val (.int ag), .val (.int (7 : Int32)), .unset] [(.int (fn24 bw))])) t → Steps p.tables e below (s₁.setTop (entryFrame m #[(.int p1), (.int p2), (.int p3), (.int p4), (.int p5)] maxLocals)) t := by
          intro t kt
          refine pre147 _ ?_
          show Steps p.tables e below (T115.setTop (mkF m 164 #[.val (.int p1), .val (.int p2), .val (.int p3), .val (.int p4), .val (.int p5), .val (.int bv), .val (.int bw), .val (.ref ab), .val (.int en), .val (.ref ob), .val (.int be), .val (.ref ks), .val (.int ac), .val (.int ag), .val (.int (7 : Int32)), .unset] [(.int en), (.int (7 : Int32))])) _
          refine XS.icmpNo X115.here hx rfl (hb hby at_164) rfl (XT.ii_ge_f hc164_148) ?_
          show Steps p.tables e below (T115.setTop (mkF m 167 #[.val (.int p1), .val (.int p2), .val (.int p3), .val (.int p4), .val (.int p5), .val (.int bv), .val (.int bw), .val (.ref ab), .val (.int en), .val (.ref ob), .val (.int be), .val (.ref ks), .val (.int ac), .val (.int ag), .val (.int (7 : Int32)), .unset] [])) _
          refine XS.iload X115.here hx rfl (hb hby at_167) rfl ?_
          show Steps p.tables e below (T115.setTop (mkF m 169 #[.val (.int p1), .val (.int p2), .val (.int p3), .val (.int p4), .val (.int p5), .val (.int bv), .val (.int bw), .val (.ref ab), .val (.int en), .val (.ref ob), .val (.int be), .val (.ref ks), .val (.int ac), .val (.int ag), .val (.int (7 : Int32)), .unset] [(.int bw)])) _
          refine st149 _ ?_
          exact kt
        by_cases hc172_151 : (fn24 bw) = (0 : Int32)
        · skip
          have pre152 : ∀ t, Steps p.tables e below (T149.setTop (mkF m 193 #[.val (.int p1), .val (.int p2), .val (.int p3), .val (.int p4), .val (.int p5), .val (.int bv), .val (.int bw), .val (.ref ab), .val (.int en), .val (.ref ob), .val (.int be), .val (.ref ks), .val (.int ac), .val (.int ag), .val (.int (7 : Int32)), .unset] [(.int (34 : Int32)), (.int (fb 7))])) t → Steps p.tables e below (s₁.setTop (entryFrame m #[(.int p1), (.int p2), (.int p3), (.int p4), (.int p5)] maxLocals)) t := by
            intro t kt
            refine pre150 _ ?_
            show Steps p.tables e below (T149.setTop (mkF m 172 #[.val (.int p1), .val (.int p2), .val (.int p3), .val (.int p4), .val (.int p5), .val (.int bv), .val (.int bw), .val (.ref ab), .val (.int en), .val (.ref ob), .val (.int be), .val (.ref ks), .val (.int ac), .val (.int ag), .val (.int (7 : Int32)), .unset] [(.int (fn24 bw))])) _
            refine XS.ifYes X149.here hx rfl (pc0 := 172) (pc' := 179) rfl (hb hby at_172) rfl (XT.i0_eq_t hc172_151) (by decide) (by decide) ?_
            show Steps p.tables e below (T149.setTop (mkF m 179 #[.val (.int p1), .val (.int p2), .val (.int p3), .val (.int p4), .val (.int p5), .val (.int bv), .val (.int bw), .val (.ref ab), .val (.int en), .val (.ref ob), .val (.int be), .val (.ref ks), .val (.int ac), .val (.int ag), .val (.int (7 : Int32)), .unset] [])) _
            refine XS.iload X149.here hx rfl (hb hby at_179) rfl ?_
            show Steps p.tables e below (T149.setTop (mkF m 181 #[.val (.int p1), .val (.int p2), .val (.int p3), .val (.int p4), .val (.int p5), .val (.int bv), .val (.int bw), .val (.ref ab), .val (.int en), .val (.ref ob), .val (.int be), .val (.ref ks), .val (.int ac), .val (.int ag), .val (.int (7 : Int32)), .unset] [(.int (7 : Int32))])) _
            refine XS.iload X149.here hx rfl (hb hby at_181) rfl ?_
            show Steps p.tables e below (T149.setTop (mkF m 183 #[.val (.int p1), .val (.int p2), .val (.int p3), .val (.int p4), .val (.int p5), .val (.int bv), .val (.int bw), .val (.ref ab), .val (.int en), .val (.ref ob), .val (.int be), .val (.ref ks), .val (.int ac), .val (.int ag), .val (.int (7 : Int32)), .unset] [(.int en), (.int (7 : Int32))])) _
            refine XS.icmpNo X149.here hx rfl (hb hby at_183) rfl (XT.ii_ge_f hc164_148) ?_
            show Steps p.tables e below (T149.setTop (mkF m 186 #[.val (.int p1), .val (.int p2), .val (.int p3), .val (.int p4), .val (.int p5), .val (.int bv), .val (.int bw), .val (.ref ab), .val (.int en), .val (.ref ob), .val (.int be), .val (.ref ks), .val (.int ac), .val (.int ag), .val (.int (7 : Int32)), .unset] [])) _
            refine XS.aload X149.here hx rfl (hb hby at_186) rfl rfl ?_
            show Steps p.tables e below (T149.setTop (mkF m 188 #[.val (.int p1), .val (.int p2), .val (.int p3), .val (.int p4), .val (.int p5), .val (.int bv), .val (.int bw), .val (.ref ab), .val (.int en), .val (.ref ob), .val (.int be), .val (.ref ks), .val (.int ac), .val (.int ag), .val (.int (7 : Int32)), .unset] [(.ref ab)])) _
            refine XS.iload X149.here hx rfl (hb hby at_188) rfl ?_
            show Steps p.tables e below (T149.setTop (mkF m 190 #[.val (.int p1), .val (.int p2), .val (.int p3), .val (.int p4), .val (.int p5), .val (.int bv), .val (.int bw), .val (.ref ab), .val (.int en), .val (.ref ob), .val (.int be), .val (.ref ks), .val (.int ac), .val (.int ag), .val (.int (7 : Int32)), .unset] [(.int (7 : Int32)), (.ref ab)])) _
            refine owLdB (k := 7) X149 hx hZ hE149 f98 (j := (7 : Int32)) rfl (by decide) (g := (mkF m 190 #[.val (.int p1), .val (.int p2), .val (.int p3), .val (.int p4), .val (.int p5), .val (.int bv), .val (.int bw), .val (.ref ab), .val (.int en), .val (.ref ob), .val (.int be), .val (.ref ks), .val (.int ac), .val (.int ag), .val (.int (7 : Int32)), .unset] [(.int (7 : Int32)), (.ref ab)])) rfl rfl (hb hby at_190) _ ?_
            show Steps p.tables e below (T149.setTop (mkF m 191 #[.val (.int p1), .val (.int p2), .val (.int p3), .val (.int p4), .val (.int p5), .val (.int bv), .val (.int bw), .val (.ref ab), .val (.int en), .val (.ref ob), .val (.int be), .val (.ref ks), .val (.int ac), .val (.int ag), .val (.int (7 : Int32)), .unset] [(.int (fb 7))])) _
            refine XS.bipush X149.here hx rfl (hb hby at_191) ?_
            exact kt
          obtain ⟨ex, h_ex⟩ : ∃ z : Int32, z = (if (fb 7) = (34 : Int32) then (1 : Int32) else (0 : Int32)) := ⟨_, rfl⟩
          have pre154 : ∀ t, Steps p.tables e below (T149.setTop (mkF m 201 #[.val (.int p1), .val (.int p2), .val (.int p3), .val (.int p4), .val (.int p5), .val (.int bv), .val (.int bw), .val (.ref ab), .val (.int en), .val (.ref ob), .val (.int be), .val (.ref ks), .val (.int ac), .val (.int ag), .val (.int (7 : Int32)), .unset] [(.int ex)])) t → Steps p.tables e below (s₁.setTop (entryFrame m #[(.int p1), (.int p2), (.int p3), (.int p4), (.int p5)] maxLocals)) t := by
            intro t kt
            refine pre152 _ ?_
            by_cases hc193_153 : (fb 7) = (34 : Int32)
            · skip
              have q_ex : ex = (1 : Int32) := by rw [h_ex, if_pos hc193_153]
              rw [q_ex] at kt
              show Steps p.tables e below (T149.setTop (mkF m 193 #[.val (.int p1), .val (.int p2), .val (.int p3), .val (.int p4), .val (.int p5), .val (.int bv), .val (.int bw), .val (.ref ab), .val (.int en), .val (.ref ob), .val (.int be), .val (.ref ks), .val (.int ac), .val (.int ag), .val (.int (7 : Int32)), .unset] [(.int (34 : Int32)), (.int (fb 7))])) _
              refine XS.icmpNo X149.here hx rfl (hb hby at_193) rfl (XT.ii_ne_f hc193_153) ?_
              show Steps p.tables e below (T149.setTop (mkF m 196 #[.val (.int p1), .val (.int p2), .val (.int p3), .val (.int p4), .val (.int p5), .val (.int bv), .val (.int bw), .val (.ref ab), .val (.int en), .val (.ref ob), .val (.int be), .val (.ref ks), .val (.int ac), .val (.int ag), .val (.int (7 : Int32)), .unset] [])) _
              refine XS.iconst X149.here hx rfl (hb hby at_196) ?_
              show Steps p.tables e below (T149.setTop (mkF m 197 #[.val (.int p1), .val (.int p2), .val (.int p3), .val (.int p4), .val (.int p5), .val (.int bv), .val (.int bw), .val (.ref ab), .val (.int en), .val (.ref ob), .val (.int be), .val (.ref ks), .val (.int ac), .val (.int ag), .val (.int (7 : Int32)), .unset] [(.int (1 : Int32))])) _
              refine XS.goto X149.here hx rfl (pc0 := 197) (pc' := 201) rfl (hb hby at_197) (by decide) (by decide) ?_
              exact kt
            · skip
              have q_ex : ex = (0 : Int32) := by rw [h_ex, if_neg hc193_153]
              rw [q_ex] at kt
              show Steps p.tables e below (T149.setTop (mkF m 193 #[.val (.int p1), .val (.int p2), .val (.int p3), .val (.int p4), .val (.int p5), .val (.int bv), .val (.int bw), .val (.ref ab), .val (.int en), .val (.ref ob), .val (.int be), .val (.ref ks), .val (.int ac), .val (.int ag), .val (.int (7 : Int32)), .unset] [(.int (34 : Int32)), (.int (fb 7))])) _
              refine XS.icmpYes X149.here hx rfl (pc0 := 193) (pc' := 200) rfl (hb hby at_193) rfl (XT.ii_ne_t hc193_153) (by decide) (by decide) ?_
              show Steps p.tables e below (T149.setTop (mkF m 200 #[.val (.int p1), .val (.int p2), .val (.int p3), .val (.int p4), .val (.int p5), .val (.int bv), .val (.int bw), .val (.ref ab), .val (.int en), .val (.ref ob), .val (.int be), .val (.ref ks), .val (.int ac), .val (.int ag), .val (.int (7 : Int32)), .unset] [])) _
              refine XS.iconst X149.here hx rfl (hb hby at_200) ?_
              exact kt
          have pre155 : ∀ t, Steps p.tables e below (T149.setTop (mkF m 205 #[.val (.int p1), .val (.int p2), .val (.int p3), .val (.int p4), .val (.int p5), .val (.int bv), .val (.int bw), .val (.ref ab), .val (.int en), .val (.ref ob), .val (.int be), .val (.ref ks), .val (.int ac), .val (.int ag), .val (.int (7 : Int32)), .val (.int ex)] [(.int be)])) t → Steps p.tables e below (s₁.setTop (entryFrame m #[(.int p1), (.int p2), (.int p3), (.int p4), (.int p5)] maxLocals)) t := by
            intro t kt
            refine pre154 _ ?_
            show Steps p.tables e below (T149.setTop (mkF m 201 #[.val (.int p1), .val (.int p2), .val (.int p3), .val (.int p4), .val (.int p5), .val (.int bv), .val (.int bw), .val (.ref ab), .val (.int en), .val (.ref ob), .val (.int be), .val (.ref ks), .val (.int ac), .val (.int ag), .val (.int (7 : Int32)), .unset] [(.int ex)])) _
            refine XS.istore X149.here hx rfl (hb hby at_201) rfl (l' := #[.val (.int p1), .val (.int p2), .val (.int p3), .val (.int p4), .val (.int p5), .val (.int bv), .val (.int bw), .val (.ref ab), .val (.int en), .val (.ref ob), .val (.int be), .val (.ref ks), .val (.int ac), .val (.int ag), .val (.int (7 : Int32)), .val (.int ex)]) rfl ?_
            show Steps p.tables e below (T149.setTop (mkF m 203 #[.val (.int p1), .val (.int p2), .val (.int p3), .val (.int p4), .val (.int p5), .val (.int bv), .val (.int bw), .val (.ref ab), .val (.int en), .val (.ref ob), .val (.int be), .val (.ref ks), .val (.int ac), .val (.int ag), .val (.int (7 : Int32)), .val (.int ex)] [])) _
            refine XS.iload X149.here hx rfl (hb hby at_203) rfl ?_
            exact kt
          by_cases hc205_156 : be = (0 : Int32)
          · skip
            have CK157 := CHr.keep (Z := Z) (EL := EL1) (Keep.refl T95.heap []) sf0 CC95.1
            obtain ⟨kl, T158, gh158, k158, kb, kb158, X158, hE158, E158, hS, hk, hZ, hown, E_kl, F_c_kl, F_v_kl, V158, -, -, CC158, -, -, st158⟩ := ldcCH (s := s) (vm0 := T95.vm) X149 hx hZ hown (hw _ (List.mem_of_getElem? (i := 119) rfl)) hwS hE149 hS (Nat.le_trans hk (Keep.refl T95.heap []).1) hEL own_mem CK157.1 ⟨by decide, rfl⟩ (z := (1 : Int32)) (by decide) rfl (g := (mkF m 208 #[.val (.int p1), .val (.int p2), .val (.int p3), .val (.int p4), .val (.int p5), .val (.int bv), .val (.int bw), .val (.ref ab), .val (.int en), .val (.ref ob), .val (.int be), .val (.ref ks), .val (.int ac), .val (.int ag), .val (.int (7 : Int32)), .val (.int ex)] [])) rfl (hb hby at_208) (n := 4) (by decide) (by decide) (by decide) (by decide)
            have f159 := f97.ext E158
            have f160 := f98.ext E158
            have f161 := p95_0.ext E158
            have f162 := p95_1.ext E158
            have f163 := p95_2.ext E158
            have f164 := p95_3.ext E158
            have f165 := p95_4.ext E158
            have f166 := p95_E.ext E158
            have f167 := p95_v.ext E158
            have f168 := p95_c.ext E158
            have f169 := p95_A.ext E158
            have Z170 := Nat.le_trans Z104 E158.1
            have K171 := K105.ext E158
            have K172 := (Keep.refl T95.heap []).ext E158
            have CR173 := CR106.trans (CK157.trans CC158)
            have A_kb : owAI Z gh158 kb .byte 1 (fun _ => (107 : Int32)) := owAI.of_arv V158 rfl (fun i hi => by have q : i = 0 := (by omega); subst q; rfl)
            obtain ⟨cq174, kq174, q174a, q174b, q174c⟩ := isOf hZ hE158 E_kl
            obtain ⟨_, _, ⟨T174, L174, k174, n174⟩, -, X174, ⟨Lc174, hQ174, l174, y174, z174⟩, st174⟩ := X158.virtualBack hx (y := (⟨"java/lang/String", "equals", "(Ljava/lang/Object;)Z"⟩ : MethodName)) (z := (⟨"java/lang/String", "equals", "(Ljava/lang/Object;)Z"⟩ : MethodName)) hown (mvT hZ (hw _ (List.mem_of_getElem? (i := 120) rfl))) (mvT hZ (hw _ (List.mem_of_getElem? (i := 121) rfl))) (notFace_of_selects (args := #[]) (mvT hZ (hw _ (List.mem_of_getElem? (i := 123) rfl)))) (mvT hZ (hw _ (List.mem_of_getElem? (i := 123) rfl))) (mvT hZ (hw _ (List.mem_of_getElem? (i := 122) rfl))) (by decide) (backOf (W := 0) (rm22 l Z a0 hw [] kl ks kb bb u8 cs fmv gh158 n0 Z170 E_kl F_v_kl F_c_kl A_kb f166 f167 f168 f169 f159 hst) hZ (hw _ (List.mem_of_getElem? (i := 124) rfl)) (hw _ (List.mem_of_getElem? (i := 58) rfl)) (by decide) (by decide)) q174a q174c (g := (mkF m 212 #[.val (.int p1), .val (.int p2), .val (.int p3), .val (.int p4), .val (.int p5), .val (.int bv), .val (.int bw), .val (.ref ab), .val (.int en), .val (.ref ob), .val (.int be), .val (.ref ks), .val (.int ac), .val (.int ag), .val (.int (7 : Int32)), .val (.int ex)] [(.ref ks), (.ref kl)])) rfl (by rw [hml]; rfl) (Steps.refl _) (argsL := [(.ref ks)]) (rest := []) (lenOf pd_18 rfl) rfl (by show 2 * 0 + _ ≤ _; exact Nat.le_of_eq rfl) (hb hby at_212) (fun _ _ => ⟨rfl, hE158, (by decide : 8 + 0 ≤ _), (by decide : 59 + 0 ≤ _)⟩)
            dsimp only [Pt.U, Pt.locs, Pt.cells, Pt.slots] at X174 l174 y174 z174 st174 hQ174
            subst l174 y174 z174
            obtain ⟨rfl, N174q, hE174⟩ := hQ174
            have N174 := Fr.app N149 N174q
            have pre175 : ∀ t, Steps p.tables e below (T174.setTop (mkF m 222 #[.val (.int p1), .val (.int p2), .val (.int p3), .val (.int p4), .val (.int p5), .val (.int bv), .val (.int bw), .val (.ref ab), .val (.int en), .val (.ref ob), .val (.int be), .val (.ref ks), .val (.int ac), .val (.int ag), .val (.int (7 : Int32)), .val (.int ex)] [(.int ex), (.int ac)])) t → Steps p.tables e below (s₁.setTop (entryFrame m #[(.int p1), (.int p2), (.int p3), (.int p4), (.int p5)] maxLocals)) t := by
              intro t kt
              refine pre155 _ ?_
              show Steps p.tables e below (T149.setTop (mkF m 205 #[.val (.int p1), .val (.int p2), .val (.int p3), .val (.int p4), .val (.int p5), .val (.int bv), .val (.int bw), .val (.ref ab), .val (.int en), .val (.ref ob), .val (.int be), .val (.ref ks), .val (.int ac), .val (.int ag), .val (.int (7 : Int32)), .val (.int ex)] [(.int be)])) _
              refine XS.ifNo X149.here hx rfl (hb hby at_205) rfl (XT.i0_ne_f hc205_156) ?_
              show Steps p.tables e below (T149.setTop (mkF m 208 #[.val (.int p1), .val (.int p2), .val (.int p3), .val (.int p4), .val (.int p5), .val (.int bv), .val (.int bw), .val (.ref ab), .val (.int en), .val (.ref ob), .val (.int be), .val (.ref ks), .val (.int ac), .val (.int ag), .val (.int (7 : Int32)), .val (.int ex)] [])) _
              refine st158 _ ?_
              show Steps p.tables e below (T158.setTop (mkF m 210 #[.val (.int p1), .val (.int p2), .val (.int p3), .val (.int p4), .val (.int p5), .val (.int bv), .val (.int bw), .val (.ref ab), .val (.int en), .val (.ref ob), .val (.int be), .val (.ref ks), .val (.int ac), .val (.int ag), .val (.int (7 : Int32)), .val (.int ex)] [(.ref kl)])) _
              refine XS.aload X158.here hx rfl (hb hby at_210) rfl rfl ?_
              show Steps p.tables e below (T158.setTop (mkF m 212 #[.val (.int p1), .val (.int p2), .val (.int p3), .val (.int p4), .val (.int p5), .val (.int bv), .val (.int bw), .val (.ref ab), .val (.int en), .val (.ref ob), .val (.int be), .val (.ref ks), .val (.int ac), .val (.int ag), .val (.int (7 : Int32)), .val (.int ex)] [(.ref ks), (.ref kl)])) _
              refine st174.trans ?_
              show Steps p.tables e below (T174.setTop (mkF m 215 #[.val (.int p1), .val (.int p2), .val (.int p3), .val (.int p4), .val (.int p5), .val (.int bv), .val (.int bw), .val (.ref ab), .val (.int en), .val (.ref ob), .val (.int be), .val (.ref ks), .val (.int ac), .val (.int ag), .val (.int (7 : Int32)), .val (.int ex)] [(.int (1 : Int32))])) _
              refine XS.ifNo X174.here hx rfl (hb hby at_215) rfl (XT.i0_eq_f (by decide)) ?_
              show Steps p.tables e below (T174.setTop (mkF m 218 #[.val (.int p1), .val (.int p2), .val (.int p3), .val (.int p4), .val (.int p5), .val (.int bv), .val (.int bw), .val (.ref ab), .val (.int en), .val (.ref ob), .val (.int be), .val (.ref ks), .val (.int ac), .val (.int ag), .val (.int (7 : Int32)), .val (.int ex)] [])) _
              refine XS.iload X174.here hx rfl (hb hby at_218) rfl ?_
              show Steps p.tables e below (T174.setTop (mkF m 220 #[.val (.int p1), .val (.int p2), .val (.int p3), .val (.int p4), .val (.int p5), .val (.int bv), .val (.int bw), .val (.ref ab), .val (.int en), .val (.ref ob), .val (.int be), .val (.ref ks), .val (.int ac), .val (.int ag), .val (.int (7 : Int32)), .val (.int ex)] [(.int ac)])) _
              refine XS.iload X174.here hx rfl (hb hby at_220) rfl ?_
              exact kt
            by_cases hc222_176 : ac = ex
            · skip
              have pre177 : ∀ t, Steps p.tables e below (T174.setTop (mkF m 229 #[.val (.int p1), .val (.int p2), .val (.int p3), .val (.int p4), .val (.int p5), .val (.int bv), .val (.int bw), .val (.ref ab), .val (.int en), .val (.ref ob), .val (.int be), .val (.ref ks), .val (.int ac), .val (.int ag), .val (.int (7 : Int32)), .val (.int ex)] [(.int ex), (.int ag)])) t → Steps p.tables e below (s₁.setTop (entryFrame m #[(.int p1), (.int p2), (.int p3), (.int p4), (.int p5)] maxLocals)) t := by
                intro t kt
                refine pre175 _ ?_
                show Steps p.tables e below (T174.setTop (mkF m 222 #[.val (.int p1), .val (.int p2), .val (.int p3), .val (.int p4), .val (.int p5), .val (.int bv), .val (.int bw), .val (.ref ab), .val (.int en), .val (.ref ob), .val (.int be), .val (.ref ks), .val (.int ac), .val (.int ag), .val (.int (7 : Int32)), .val (.int ex)] [(.int ex), (.int ac)])) _
                refine XS.icmpNo X174.here hx rfl (hb hby at_222) rfl (XT.ii_ne_f hc222_176) ?_
                show Steps p.tables e below (T174.setTop (mkF m 225 #[.val (.int p1), .val (.int p2), .val (.int p3), .val (.int p4), .val (.int p5), .val (.int bv), .val (.int bw), .val (.ref ab), .val (.int en), .val (.ref ob), .val (.int be), .val (.ref ks), .val (.int ac), .val (.int ag), .val (.int (7 : Int32)), .val (.int ex)] [])) _
                refine XS.iload X174.here hx rfl (hb hby at_225) rfl ?_
                show Steps p.tables e below (T174.setTop (mkF m 227 #[.val (.int p1), .val (.int p2), .val (.int p3), .val (.int p4), .val (.int p5), .val (.int bv), .val (.int bw), .val (.ref ab), .val (.int en), .val (.ref ob), .val (.int be), .val (.ref ks), .val (.int ac), .val (.int ag), .val (.int (7 : Int32)), .val (.int ex)] [(.int ag)])) _
                refine XS.iload X174.here hx rfl (hb hby at_227) rfl ?_
                exact kt
              by_cases hc229_178 : ag = ex
              · skip
                have pre179 : ∀ t, Steps p.tables e below (T174.setTop (mkF m 237 #[.val (.int p1), .val (.int p2), .val (.int p3), .val (.int p4), .val (.int p5), .val (.int bv), .val (.int bw), .val (.ref ab), .val (.int en), .val (.ref ob), .val (.int be), .val (.ref ks), .val (.int ac), .val (.int ag), .val (.int (7 : Int32)), .val (.int ex)] [(.int (1 : Int32))])) t → Steps p.tables e below (s₁.setTop (entryFrame m #[(.int p1), (.int p2), (.int p3), (.int p4), (.int p5)] maxLocals)) t := by
                  intro t kt
                  refine pre177 _ ?_
                  show Steps p.tables e below (T174.setTop (mkF m 229 #[.val (.int p1), .val (.int p2), .val (.int p3), .val (.int p4), .val (.int p5), .val (.int bv), .val (.int bw), .val (.ref ab), .val (.int en), .val (.ref ob), .val (.int be), .val (.ref ks), .val (.int ac), .val (.int ag), .val (.int (7 : Int32)), .val (.int ex)] [(.int ex), (.int ag)])) _
                  refine XS.icmpNo X174.here hx rfl (hb hby at_229) rfl (XT.ii_ne_f hc229_178) ?_
                  show Steps p.tables e below (T174.setTop (mkF m 232 #[.val (.int p1), .val (.int p2), .val (.int p3), .val (.int p4), .val (.int p5), .val (.int bv), .val (.int bw), .val (.ref ab), .val (.int en), .val (.ref ob), .val (.int be), .val (.ref ks), .val (.int ac), .val (.int ag), .val (.int (7 : Int32)), .val (.int ex)] [])) _
                  refine XS.iconst X174.here hx rfl (hb hby at_232) ?_
                  show Steps p.tables e below (T174.setTop (mkF m 233 #[.val (.int p1), .val (.int p2), .val (.int p3), .val (.int p4), .val (.int p5), .val (.int bv), .val (.int bw), .val (.ref ab), .val (.int en), .val (.ref ob), .val (.int be), .val (.ref ks), .val (.int ac), .val (.int ag), .val (.int (7 : Int32)), .val (.int ex)] [(.int (1 : Int32))])) _
                  refine XS.goto X174.here hx rfl (pc0 := 233) (pc' := 237) rfl (hb hby at_233) (by decide) (by decide) ?_
                  exact kt
                have CK180 := CHr.keep (Z := Z) (EL := EL1) (Keep.refl gh158 []) sf0 CC158.1
                obtain ⟨fs, hr, hrun, hended, hEnd⟩ := X174.leaveW hS (by rw [hE174]; exact Nat.le_trans hk (Keep.refl gh158 []).1) (v := some (.int (1 : Int32))) (fun h => by rw [Bd.returns] at h; cases h)
                have CT := CK180.trans (CHv.at (s := s) (vm0 := T158.vm) X174 hZ hEL CK180.1)
                refine ⟨_, _, pre179 _ ?_, hrun, hended, _, _, rfl, ?_, ?_, hEnd.1, hEnd.2.1, hEnd.2.2.1, hEnd.2.2.2.mono (by decide) (by decide)⟩
                · show Steps p.tables e below (T174.setTop (mkF m 237 #[.val (.int p1), .val (.int p2), .val (.int p3), .val (.int p4), .val (.int p5), .val (.int bv), .val (.int bw), .val (.ref ab), .val (.int en), .val (.ref ob), .val (.int be), .val (.ref ks), .val (.int ac), .val (.int ag), .val (.int (7 : Int32)), .val (.int ex)] [(.int (1 : Int32))])) _
                  exact retN X174 hx (t := .boolean) Bd.returns (by simp) (hb hby at_237) hr
                · show Q0 Z p1 p2 p3 p4 p5 u8 cs fmv h0 n0 _ T174.heap _
                  rw [hE174]
                  exact ⟨rfl, N174⟩
                · rw [hh]
                  show CHr Z EL1 s.vm h0 T174.vm T174.heap
                  rw [hE174]
                  exact CR173.trans CT
              · skip
                exact absurd ((own_fin (pl := (7 : Int32)) (kl := 7) _ _ en fb kp ag (own_pos en (fb 6) (fb 7)) (by rw [hpl, if_pos hc138_114, if_neg hc146_117, if_pos hc164_148, if_pos hc172_151]) rfl h_ag h_kp1).trans (by rw [if_pos hc164_148]; exact h_ex.symm)) hc229_178
            · skip
              exact absurd ((own_fin (pl := (7 : Int32)) (kl := 7) _ _ en fb kp ac (own_pos en (fb 6) (fb 7)) (by rw [hpl, if_pos hc138_114, if_neg hc146_117, if_pos hc164_148, if_pos hc172_151]) rfl h_ac h_kp1).trans (by rw [if_pos hc164_148]; exact h_ex.symm)) hc222_176
          · skip
            exact absurd (own_before hoe hob h_be) hc205_156
        · skip
          have pre181 : ∀ t, Steps p.tables e below (T149.setTop (mkF m 205 #[.val (.int p1), .val (.int p2), .val (.int p3), .val (.int p4), .val (.int p5), .val (.int bv), .val (.int bw), .val (.ref ab), .val (.int en), .val (.ref ob), .val (.int be), .val (.ref ks), .val (.int ac), .val (.int ag), .val (.int (8 : Int32)), .val (.int (0 : Int32))] [(.int be)])) t → Steps p.tables e below (s₁.setTop (entryFrame m #[(.int p1), (.int p2), (.int p3), (.int p4), (.int p5)] maxLocals)) t := by
            intro t kt
            refine pre150 _ ?_
            show Steps p.tables e below (T149.setTop (mkF m 172 #[.val (.int p1), .val (.int p2), .val (.int p3), .val (.int p4), .val (.int p5), .val (.int bv), .val (.int bw), .val (.ref ab), .val (.int en), .val (.ref ob), .val (.int be), .val (.ref ks), .val (.int ac), .val (.int ag), .val (.int (7 : Int32)), .unset] [(.int (fn24 bw))])) _
            refine XS.ifNo X149.here hx rfl (hb hby at_172) rfl (XT.i0_eq_f hc172_151) ?_
            show Steps p.tables e below (T149.setTop (mkF m 175 #[.val (.int p1), .val (.int p2), .val (.int p3), .val (.int p4), .val (.int p5), .val (.int bv), .val (.int bw), .val (.ref ab), .val (.int en), .val (.ref ob), .val (.int be), .val (.ref ks), .val (.int ac), .val (.int ag), .val (.int (7 : Int32)), .unset] [])) _
            refine XS.bipush X149.here hx rfl (hb hby at_175) ?_
            show Steps p.tables e below (T149.setTop (mkF m 177 #[.val (.int p1), .val (.int p2), .val (.int p3), .val (.int p4), .val (.int p5), .val (.int bv), .val (.int bw), .val (.ref ab), .val (.int en), .val (.ref ob), .val (.int be), .val (.ref ks), .val (.int ac), .val (.int ag), .val (.int (7 : Int32)), .unset] [(.int (8 : Int32))])) _
            refine XS.istore X149.here hx rfl (hb hby at_177) rfl (l' := #[.val (.int p1), .val (.int p2), .val (.int p3), .val (.int p4), .val (.int p5), .val (.int bv), .val (.int bw), .val (.ref ab), .val (.int en), .val (.ref ob), .val (.int be), .val (.ref ks), .val (.int ac), .val (.int ag), .val (.int (8 : Int32)), .unset]) rfl ?_
            show Steps p.tables e below (T149.setTop (mkF m 179 #[.val (.int p1), .val (.int p2), .val (.int p3), .val (.int p4), .val (.int p5), .val (.int bv), .val (.int bw), .val (.ref ab), .val (.int en), .val (.ref ob), .val (.int be), .val (.ref ks), .val (.int ac), .val (.int ag), .val (.int (8 : Int32)), .unset] [])) _
            refine XS.iload X149.here hx rfl (hb hby at_179) rfl ?_
            show Steps p.tables e below (T149.setTop (mkF m 181 #[.val (.int p1), .val (.int p2), .val (.int p3), .val (.int p4), .val (.int p5), .val (.int bv), .val (.int bw), .val (.ref ab), .val (.int en), .val (.ref ob), .val (.int be), .val (.ref ks), .val (.int ac), .val (.int ag), .val (.int (8 : Int32)), .unset] [(.int (8 : Int32))])) _
            refine XS.iload X149.here hx rfl (hb hby at_181) rfl ?_
            show Steps p.tables e below (T149.setTop (mkF m 183 #[.val (.int p1), .val (.int p2), .val (.int p3), .val (.int p4), .val (.int p5), .val (.int bv), .val (.int bw), .val (.ref ab), .val (.int en), .val (.ref ob), .val (.int be), .val (.ref ks), .val (.int ac), .val (.int ag), .val (.int (8 : Int32)), .unset] [(.int en), (.int (8 : Int32))])) _
            refine XS.icmpYes X149.here hx rfl (pc0 := 183) (pc' := 200) rfl (hb hby at_183) rfl (XT.ii_ge_t (own_nlt hoe)) (by decide) (by decide) ?_
            show Steps p.tables e below (T149.setTop (mkF m 200 #[.val (.int p1), .val (.int p2), .val (.int p3), .val (.int p4), .val (.int p5), .val (.int bv), .val (.int bw), .val (.ref ab), .val (.int en), .val (.ref ob), .val (.int be), .val (.ref ks), .val (.int ac), .val (.int ag), .val (.int (8 : Int32)), .unset] [])) _
            refine XS.iconst X149.here hx rfl (hb hby at_200) ?_
            show Steps p.tables e below (T149.setTop (mkF m 201 #[.val (.int p1), .val (.int p2), .val (.int p3), .val (.int p4), .val (.int p5), .val (.int bv), .val (.int bw), .val (.ref ab), .val (.int en), .val (.ref ob), .val (.int be), .val (.ref ks), .val (.int ac), .val (.int ag), .val (.int (8 : Int32)), .unset] [(.int (0 : Int32))])) _
            refine XS.istore X149.here hx rfl (hb hby at_201) rfl (l' := #[.val (.int p1), .val (.int p2), .val (.int p3), .val (.int p4), .val (.int p5), .val (.int bv), .val (.int bw), .val (.ref ab), .val (.int en), .val (.ref ob), .val (.int be), .val (.ref ks), .val (.int ac), .val (.int ag), .val (.int (8 : Int32)), .val (.int (0 : Int32))]) rfl ?_
            show Steps p.tables e below (T149.setTop (mkF m 203 #[.val (.int p1), .val (.int p2), .val (.int p3), .val (.int p4), .val (.int p5), .val (.int bv), .val (.int bw), .val (.ref ab), .val (.int en), .val (.ref ob), .val (.int be), .val (.ref ks), .val (.int ac), .val (.int ag), .val (.int (8 : Int32)), .val (.int (0 : Int32))] [])) _
            refine XS.iload X149.here hx rfl (hb hby at_203) rfl ?_
            exact kt
          by_cases hc205_182 : be = (0 : Int32)
          · skip
            have CK183 := CHr.keep (Z := Z) (EL := EL1) (Keep.refl T95.heap []) sf0 CC95.1
            obtain ⟨kl, T184, gh184, k184, kb, kb184, X184, hE184, E184, hS, hk, hZ, hown, E_kl, F_c_kl, F_v_kl, V184, -, -, CC184, -, -, st184⟩ := ldcCH (s := s) (vm0 := T95.vm) X149 hx hZ hown (hw _ (List.mem_of_getElem? (i := 119) rfl)) hwS hE149 hS (Nat.le_trans hk (Keep.refl T95.heap []).1) hEL own_mem CK183.1 ⟨by decide, rfl⟩ (z := (1 : Int32)) (by decide) rfl (g := (mkF m 208 #[.val (.int p1), .val (.int p2), .val (.int p3), .val (.int p4), .val (.int p5), .val (.int bv), .val (.int bw), .val (.ref ab), .val (.int en), .val (.ref ob), .val (.int be), .val (.ref ks), .val (.int ac), .val (.int ag), .val (.int (8 : Int32)), .val (.int (0 : Int32))] [])) rfl (hb hby at_208) (n := 4) (by decide) (by decide) (by decide) (by decide)
            have f185 := f97.ext E184
            have f186 := f98.ext E184
            have f187 := p95_0.ext E184
            have f188 := p95_1.ext E184
            have f189 := p95_2.ext E184
            have f190 := p95_3.ext E184
            have f191 := p95_4.ext E184
            have f192 := p95_E.ext E184
            have f193 := p95_v.ext E184
            have f194 := p95_c.ext E184
            have f195 := p95_A.ext E184
            have Z196 := Nat.le_trans Z104 E184.1
            have K197 := K105.ext E184
            have K198 := (Keep.refl T95.heap []).ext E184
            have CR199 := CR106.trans (CK183.trans CC184)
            have A_kb : owAI Z gh184 kb .byte 1 (fun _ => (107 : Int32)) := owAI.of_arv V184 rfl (fun i hi => by have q : i = 0 := (by omega); subst q; rfl)
            obtain ⟨cq200, kq200, q200a, q200b, q200c⟩ := isOf hZ hE184 E_kl
            obtain ⟨_, _, ⟨T200, L200, k200, n200⟩, -, X200, ⟨Lc200, hQ200, l200, y200, z200⟩, st200⟩ := X184.virtualBack hx (y := (⟨"java/lang/String", "equals", "(Ljava/lang/Object;)Z"⟩ : MethodName)) (z := (⟨"java/lang/String", "equals", "(Ljava/lang/Object;)Z"⟩ : MethodName)) hown (mvT hZ (hw _ (List.mem_of_getElem? (i := 120) rfl))) (mvT hZ (hw _ (List.mem_of_getElem? (i := 121) rfl))) (notFace_of_selects (args := #[]) (mvT hZ (hw _ (List.mem_of_getElem? (i := 123) rfl)))) (mvT hZ (hw _ (List.mem_of_getElem? (i := 123) rfl))) (mvT hZ (hw _ (List.mem_of_getElem? (i := 122) rfl))) (by decide) (backOf (W := 0) (rm22 l Z a0 hw [] kl ks kb bb u8 cs fmv gh184 n0 Z196 E_kl F_v_kl F_c_kl A_kb f192 f193 f194 f195 f185 hst) hZ (hw _ (List.mem_of_getElem? (i := 124) rfl)) (hw _ (List.mem_of_getElem? (i := 58) rfl)) (by decide) (by decide)) q200a q200c (g := (mkF m 212 #[.val (.int p1), .val (.int p2), .val (.int p3), .val (.int p4), .val (.int p5), .val (.int bv), .val (.int bw), .val (.ref ab), .val (.int en), .val (.ref ob), .val (.int be), .val (.ref ks), .val (.int ac), .val (.int ag), .val (.int (8 : Int32)), .val (.int (0 : Int32))] [(.ref ks), (.ref kl)])) rfl (by rw [hml]; rfl) (Steps.refl _) (argsL := [(.ref ks)]) (rest := []) (lenOf pd_18 rfl) rfl (by show 2 * 0 + _ ≤ _; exact Nat.le_of_eq rfl) (hb hby at_212) (fun _ _ => ⟨rfl, hE184, (by decide : 8 + 0 ≤ _), (by decide : 59 + 0 ≤ _)⟩)
            dsimp only [Pt.U, Pt.locs, Pt.cells, Pt.slots] at X200 l200 y200 z200 st200 hQ200
            subst l200 y200 z200
            obtain ⟨rfl, N200q, hE200⟩ := hQ200
            have N200 := Fr.app N149 N200q
            have pre201 : ∀ t, Steps p.tables e below (T200.setTop (mkF m 222 #[.val (.int p1), .val (.int p2), .val (.int p3), .val (.int p4), .val (.int p5), .val (.int bv), .val (.int bw), .val (.ref ab), .val (.int en), .val (.ref ob), .val (.int be), .val (.ref ks), .val (.int ac), .val (.int ag), .val (.int (8 : Int32)), .val (.int (0 : Int32))] [(.int (0 : Int32)), (.int ac)])) t → Steps p.tables e below (s₁.setTop (entryFrame m #[(.int p1), (.int p2), (.int p3), (.int p4), (.int p5)] maxLocals)) t := by
              intro t kt
              refine pre181 _ ?_
              show Steps p.tables e below (T149.setTop (mkF m 205 #[.val (.int p1), .val (.int p2), .val (.int p3), .val (.int p4), .val (.int p5), .val (.int bv), .val (.int bw), .val (.ref ab), .val (.int en), .val (.ref ob), .val (.int be), .val (.ref ks), .val (.int ac), .val (.int ag), .val (.int (8 : Int32)), .val (.int (0 : Int32))] [(.int be)])) _
              refine XS.ifNo X149.here hx rfl (hb hby at_205) rfl (XT.i0_ne_f hc205_182) ?_
              show Steps p.tables e below (T149.setTop (mkF m 208 #[.val (.int p1), .val (.int p2), .val (.int p3), .val (.int p4), .val (.int p5), .val (.int bv), .val (.int bw), .val (.ref ab), .val (.int en), .val (.ref ob), .val (.int be), .val (.ref ks), .val (.int ac), .val (.int ag), .val (.int (8 : Int32)), .val (.int (0 : Int32))] [])) _
              refine st184 _ ?_
              show Steps p.tables e below (T184.setTop (mkF m 210 #[.val (.int p1), .val (.int p2), .val (.int p3), .val (.int p4), .val (.int p5), .val (.int bv), .val (.int bw), .val (.ref ab), .val (.int en), .val (.ref ob), .val (.int be), .val (.ref ks), .val (.int ac), .val (.int ag), .val (.int (8 : Int32)), .val (.int (0 : Int32))] [(.ref kl)])) _
              refine XS.aload X184.here hx rfl (hb hby at_210) rfl rfl ?_
              show Steps p.tables e below (T184.setTop (mkF m 212 #[.val (.int p1), .val (.int p2), .val (.int p3), .val (.int p4), .val (.int p5), .val (.int bv), .val (.int bw), .val (.ref ab), .val (.int en), .val (.ref ob), .val (.int be), .val (.ref ks), .val (.int ac), .val (.int ag), .val (.int (8 : Int32)), .val (.int (0 : Int32))] [(.ref ks), (.ref kl)])) _
              refine st200.trans ?_
              show Steps p.tables e below (T200.setTop (mkF m 215 #[.val (.int p1), .val (.int p2), .val (.int p3), .val (.int p4), .val (.int p5), .val (.int bv), .val (.int bw), .val (.ref ab), .val (.int en), .val (.ref ob), .val (.int be), .val (.ref ks), .val (.int ac), .val (.int ag), .val (.int (8 : Int32)), .val (.int (0 : Int32))] [(.int (1 : Int32))])) _
              refine XS.ifNo X200.here hx rfl (hb hby at_215) rfl (XT.i0_eq_f (by decide)) ?_
              show Steps p.tables e below (T200.setTop (mkF m 218 #[.val (.int p1), .val (.int p2), .val (.int p3), .val (.int p4), .val (.int p5), .val (.int bv), .val (.int bw), .val (.ref ab), .val (.int en), .val (.ref ob), .val (.int be), .val (.ref ks), .val (.int ac), .val (.int ag), .val (.int (8 : Int32)), .val (.int (0 : Int32))] [])) _
              refine XS.iload X200.here hx rfl (hb hby at_218) rfl ?_
              show Steps p.tables e below (T200.setTop (mkF m 220 #[.val (.int p1), .val (.int p2), .val (.int p3), .val (.int p4), .val (.int p5), .val (.int bv), .val (.int bw), .val (.ref ab), .val (.int en), .val (.ref ob), .val (.int be), .val (.ref ks), .val (.int ac), .val (.int ag), .val (.int (8 : Int32)), .val (.int (0 : Int32))] [(.int ac)])) _
              refine XS.iload X200.here hx rfl (hb hby at_220) rfl ?_
              exact kt
            by_cases hc222_202 : ac = (0 : Int32)
            · skip
              have pre203 : ∀ t, Steps p.tables e below (T200.setTop (mkF m 229 #[.val (.int p1), .val (.int p2), .val (.int p3), .val (.int p4), .val (.int p5), .val (.int bv), .val (.int bw), .val (.ref ab), .val (.int en), .val (.ref ob), .val (.int be), .val (.ref ks), .val (.int ac), .val (.int ag), .val (.int (8 : Int32)), .val (.int (0 : Int32))] [(.int (0 : Int32)), (.int ag)])) t → Steps p.tables e below (s₁.setTop (entryFrame m #[(.int p1), (.int p2), (.int p3), (.int p4), (.int p5)] maxLocals)) t := by
                intro t kt
                refine pre201 _ ?_
                show Steps p.tables e below (T200.setTop (mkF m 222 #[.val (.int p1), .val (.int p2), .val (.int p3), .val (.int p4), .val (.int p5), .val (.int bv), .val (.int bw), .val (.ref ab), .val (.int en), .val (.ref ob), .val (.int be), .val (.ref ks), .val (.int ac), .val (.int ag), .val (.int (8 : Int32)), .val (.int (0 : Int32))] [(.int (0 : Int32)), (.int ac)])) _
                refine XS.icmpNo X200.here hx rfl (hb hby at_222) rfl (XT.ii_ne_f hc222_202) ?_
                show Steps p.tables e below (T200.setTop (mkF m 225 #[.val (.int p1), .val (.int p2), .val (.int p3), .val (.int p4), .val (.int p5), .val (.int bv), .val (.int bw), .val (.ref ab), .val (.int en), .val (.ref ob), .val (.int be), .val (.ref ks), .val (.int ac), .val (.int ag), .val (.int (8 : Int32)), .val (.int (0 : Int32))] [])) _
                refine XS.iload X200.here hx rfl (hb hby at_225) rfl ?_
                show Steps p.tables e below (T200.setTop (mkF m 227 #[.val (.int p1), .val (.int p2), .val (.int p3), .val (.int p4), .val (.int p5), .val (.int bv), .val (.int bw), .val (.ref ab), .val (.int en), .val (.ref ob), .val (.int be), .val (.ref ks), .val (.int ac), .val (.int ag), .val (.int (8 : Int32)), .val (.int (0 : Int32))] [(.int ag)])) _
                refine XS.iload X200.here hx rfl (hb hby at_227) rfl ?_
                exact kt
              by_cases hc229_204 : ag = (0 : Int32)
              · skip
                have pre205 : ∀ t, Steps p.tables e below (T200.setTop (mkF m 237 #[.val (.int p1), .val (.int p2), .val (.int p3), .val (.int p4), .val (.int p5), .val (.int bv), .val (.int bw), .val (.ref ab), .val (.int en), .val (.ref ob), .val (.int be), .val (.ref ks), .val (.int ac), .val (.int ag), .val (.int (8 : Int32)), .val (.int (0 : Int32))] [(.int (1 : Int32))])) t → Steps p.tables e below (s₁.setTop (entryFrame m #[(.int p1), (.int p2), (.int p3), (.int p4), (.int p5)] maxLocals)) t := by
                  intro t kt
                  refine pre203 _ ?_
                  show Steps p.tables e below (T200.setTop (mkF m 229 #[.val (.int p1), .val (.int p2), .val (.int p3), .val (.int p4), .val (.int p5), .val (.int bv), .val (.int bw), .val (.ref ab), .val (.int en), .val (.ref ob), .val (.int be), .val (.ref ks), .val (.int ac), .val (.int ag), .val (.int (8 : Int32)), .val (.int (0 : Int32))] [(.int (0 : Int32)), (.int ag)])) _
                  refine XS.icmpNo X200.here hx rfl (hb hby at_229) rfl (XT.ii_ne_f hc229_204) ?_
                  show Steps p.tables e below (T200.setTop (mkF m 232 #[.val (.int p1), .val (.int p2), .val (.int p3), .val (.int p4), .val (.int p5), .val (.int bv), .val (.int bw), .val (.ref ab), .val (.int en), .val (.ref ob), .val (.int be), .val (.ref ks), .val (.int ac), .val (.int ag), .val (.int (8 : Int32)), .val (.int (0 : Int32))] [])) _
                  refine XS.iconst X200.here hx rfl (hb hby at_232) ?_
                  show Steps p.tables e below (T200.setTop (mkF m 233 #[.val (.int p1), .val (.int p2), .val (.int p3), .val (.int p4), .val (.int p5), .val (.int bv), .val (.int bw), .val (.ref ab), .val (.int en), .val (.ref ob), .val (.int be), .val (.ref ks), .val (.int ac), .val (.int ag), .val (.int (8 : Int32)), .val (.int (0 : Int32))] [(.int (1 : Int32))])) _
                  refine XS.goto X200.here hx rfl (pc0 := 233) (pc' := 237) rfl (hb hby at_233) (by decide) (by decide) ?_
                  exact kt
                have CK206 := CHr.keep (Z := Z) (EL := EL1) (Keep.refl gh184 []) sf0 CC184.1
                obtain ⟨fs, hr, hrun, hended, hEnd⟩ := X200.leaveW hS (by rw [hE200]; exact Nat.le_trans hk (Keep.refl gh184 []).1) (v := some (.int (1 : Int32))) (fun h => by rw [Bd.returns] at h; cases h)
                have CT := CK206.trans (CHv.at (s := s) (vm0 := T184.vm) X200 hZ hEL CK206.1)
                refine ⟨_, _, pre205 _ ?_, hrun, hended, _, _, rfl, ?_, ?_, hEnd.1, hEnd.2.1, hEnd.2.2.1, hEnd.2.2.2.mono (by decide) (by decide)⟩
                · show Steps p.tables e below (T200.setTop (mkF m 237 #[.val (.int p1), .val (.int p2), .val (.int p3), .val (.int p4), .val (.int p5), .val (.int bv), .val (.int bw), .val (.ref ab), .val (.int en), .val (.ref ob), .val (.int be), .val (.ref ks), .val (.int ac), .val (.int ag), .val (.int (8 : Int32)), .val (.int (0 : Int32))] [(.int (1 : Int32))])) _
                  exact retN X200 hx (t := .boolean) Bd.returns (by simp) (hb hby at_237) hr
                · show Q0 Z p1 p2 p3 p4 p5 u8 cs fmv h0 n0 _ T200.heap _
                  rw [hE200]
                  exact ⟨rfl, N200⟩
                · rw [hh]
                  show CHr Z EL1 s.vm h0 T200.vm T200.heap
                  rw [hE200]
                  exact CR199.trans CT
              · skip
                exact absurd ((own_fin (pl := (8 : Int32)) (kl := 8) _ _ en fb kp ag (own_pos en (fb 6) (fb 7)) (by rw [hpl, if_pos hc138_114, if_neg hc146_117, if_pos hc164_148, if_neg hc172_151]) rfl h_ag h_kp1).trans (by rw [if_neg (own_nlt hoe)])) hc229_204
            · skip
              exact absurd ((own_fin (pl := (8 : Int32)) (kl := 8) _ _ en fb kp ac (own_pos en (fb 6) (fb 7)) (by rw [hpl, if_pos hc138_114, if_neg hc146_117, if_pos hc164_148, if_neg hc172_151]) rfl h_ac h_kp1).trans (by rw [if_neg (own_nlt hoe)])) hc222_202
          · skip
            exact absurd (own_before hoe hob h_be) hc205_182
      · skip
        have pre207 : ∀ t, Steps p.tables e below (T115.setTop (mkF m 205 #[.val (.int p1), .val (.int p2), .val (.int p3), .val (.int p4), .val (.int p5), .val (.int bv), .val (.int bw), .val (.ref ab), .val (.int en), .val (.ref ob), .val (.int be), .val (.ref ks), .val (.int ac), .val (.int ag), .val (.int (7 : Int32)), .val (.int (0 : Int32))] [(.int be)])) t → Steps p.tables e below (s₁.setTop (entryFrame m #[(.int p1), (.int p2), (.int p3), (.int p4), (.int p5)] maxLocals)) t := by
          intro t kt
          refine pre147 _ ?_
          show Steps p.tables e below (T115.setTop (mkF m 164 #[.val (.int p1), .val (.int p2), .val (.int p3), .val (.int p4), .val (.int p5), .val (.int bv), .val (.int bw), .val (.ref ab), .val (.int en), .val (.ref ob), .val (.int be), .val (.ref ks), .val (.int ac), .val (.int ag), .val (.int (7 : Int32)), .unset] [(.int en), (.int (7 : Int32))])) _
          refine XS.icmpYes X115.here hx rfl (pc0 := 164) (pc' := 179) rfl (hb hby at_164) rfl (XT.ii_ge_t hc164_148) (by decide) (by decide) ?_
          show Steps p.tables e below (T115.setTop (mkF m 179 #[.val (.int p1), .val (.int p2), .val (.int p3), .val (.int p4), .val (.int p5), .val (.int bv), .val (.int bw), .val (.ref ab), .val (.int en), .val (.ref ob), .val (.int be), .val (.ref ks), .val (.int ac), .val (.int ag), .val (.int (7 : Int32)), .unset] [])) _
          refine XS.iload X115.here hx rfl (hb hby at_179) rfl ?_
          show Steps p.tables e below (T115.setTop (mkF m 181 #[.val (.int p1), .val (.int p2), .val (.int p3), .val (.int p4), .val (.int p5), .val (.int bv), .val (.int bw), .val (.ref ab), .val (.int en), .val (.ref ob), .val (.int be), .val (.ref ks), .val (.int ac), .val (.int ag), .val (.int (7 : Int32)), .unset] [(.int (7 : Int32))])) _
          refine XS.iload X115.here hx rfl (hb hby at_181) rfl ?_
          show Steps p.tables e below (T115.setTop (mkF m 183 #[.val (.int p1), .val (.int p2), .val (.int p3), .val (.int p4), .val (.int p5), .val (.int bv), .val (.int bw), .val (.ref ab), .val (.int en), .val (.ref ob), .val (.int be), .val (.ref ks), .val (.int ac), .val (.int ag), .val (.int (7 : Int32)), .unset] [(.int en), (.int (7 : Int32))])) _
          refine XS.icmpYes X115.here hx rfl (pc0 := 183) (pc' := 200) rfl (hb hby at_183) rfl (XT.ii_ge_t hc164_148) (by decide) (by decide) ?_
          show Steps p.tables e below (T115.setTop (mkF m 200 #[.val (.int p1), .val (.int p2), .val (.int p3), .val (.int p4), .val (.int p5), .val (.int bv), .val (.int bw), .val (.ref ab), .val (.int en), .val (.ref ob), .val (.int be), .val (.ref ks), .val (.int ac), .val (.int ag), .val (.int (7 : Int32)), .unset] [])) _
          refine XS.iconst X115.here hx rfl (hb hby at_200) ?_
          show Steps p.tables e below (T115.setTop (mkF m 201 #[.val (.int p1), .val (.int p2), .val (.int p3), .val (.int p4), .val (.int p5), .val (.int bv), .val (.int bw), .val (.ref ab), .val (.int en), .val (.ref ob), .val (.int be), .val (.ref ks), .val (.int ac), .val (.int ag), .val (.int (7 : Int32)), .unset] [(.int (0 : Int32))])) _
          refine XS.istore X115.here hx rfl (hb hby at_201) rfl (l' := #[.val (.int p1), .val (.int p2), .val (.int p3), .val (.int p4), .val (.int p5), .val (.int bv), .val (.int bw), .val (.ref ab), .val (.int en), .val (.ref ob), .val (.int be), .val (.ref ks), .val (.int ac), .val (.int ag), .val (.int (7 : Int32)), .val (.int (0 : Int32))]) rfl ?_
          show Steps p.tables e below (T115.setTop (mkF m 203 #[.val (.int p1), .val (.int p2), .val (.int p3), .val (.int p4), .val (.int p5), .val (.int bv), .val (.int bw), .val (.ref ab), .val (.int en), .val (.ref ob), .val (.int be), .val (.ref ks), .val (.int ac), .val (.int ag), .val (.int (7 : Int32)), .val (.int (0 : Int32))] [])) _
          refine XS.iload X115.here hx rfl (hb hby at_203) rfl ?_
          exact kt
        by_cases hc205_208 : be = (0 : Int32)
        · skip
          have CK209 := CHr.keep (Z := Z) (EL := EL1) (Keep.refl T95.heap []) sf0 CC95.1
          obtain ⟨kl, T210, gh210, k210, kb, kb210, X210, hE210, E210, hS, hk, hZ, hown, E_kl, F_c_kl, F_v_kl, V210, -, -, CC210, -, -, st210⟩ := ldcCH (s := s) (vm0 := T95.vm) X115 hx hZ hown (hw _ (List.mem_of_getElem? (i := 119) rfl)) hwS hE115 hS (Nat.le_trans hk (Keep.refl T95.heap []).1) hEL own_mem CK209.1 ⟨by decide, rfl⟩ (z := (1 : Int32)) (by decide) rfl (g := (mkF m 208 #[.val (.int p1), .val (.int p2), .val (.int p3), .val (.int p4), .val (.int p5), .val (.int bv), .val (.int bw), .val (.ref ab), .val (.int en), .val (.ref ob), .val (.int be), .val (.ref ks), .val (.int ac), .val (.int ag), .val (.int (7 : Int32)), .val (.int (0 : Int32))] [])) rfl (hb hby at_208) (n := 4) (by decide) (by decide) (by decide) (by decide)
          have f211 := f97.ext E210
          have f212 := f98.ext E210
          have f213 := p95_0.ext E210
          have f214 := p95_1.ext E210
          have f215 := p95_2.ext E210
          have f216 := p95_3.ext E210
          have f217 := p95_4.ext E210
          have f218 := p95_E.ext E210
          have f219 := p95_v.ext E210
          have f220 := p95_c.ext E210
          have f221 := p95_A.ext E210
          have Z222 := Nat.le_trans Z104 E210.1
          have K223 := K105.ext E210
          have K224 := (Keep.refl T95.heap []).ext E210
          have CR225 := CR106.trans (CK209.trans CC210)
          have A_kb : owAI Z gh210 kb .byte 1 (fun _ => (107 : Int32)) := owAI.of_arv V210 rfl (fun i hi => by have q : i = 0 := (by omega); subst q; rfl)
          obtain ⟨cq226, kq226, q226a, q226b, q226c⟩ := isOf hZ hE210 E_kl
          obtain ⟨_, _, ⟨T226, L226, k226, n226⟩, -, X226, ⟨Lc226, hQ226, l226, y226, z226⟩, st226⟩ := X210.virtualBack hx (y := (⟨"java/lang/String", "equals", "(Ljava/lang/Object;)Z"⟩ : MethodName)) (z := (⟨"java/lang/String", "equals", "(Ljava/lang/Object;)Z"⟩ : MethodName)) hown (mvT hZ (hw _ (List.mem_of_getElem? (i := 120) rfl))) (mvT hZ (hw _ (List.mem_of_getElem? (i := 121) rfl))) (notFace_of_selects (args := #[]) (mvT hZ (hw _ (List.mem_of_getElem? (i := 123) rfl)))) (mvT hZ (hw _ (List.mem_of_getElem? (i := 123) rfl))) (mvT hZ (hw _ (List.mem_of_getElem? (i := 122) rfl))) (by decide) (backOf (W := 0) (rm22 l Z a0 hw [] kl ks kb bb u8 cs fmv gh210 n0 Z222 E_kl F_v_kl F_c_kl A_kb f218 f219 f220 f221 f211 hst) hZ (hw _ (List.mem_of_getElem? (i := 124) rfl)) (hw _ (List.mem_of_getElem? (i := 58) rfl)) (by decide) (by decide)) q226a q226c (g := (mkF m 212 #[.val (.int p1), .val (.int p2), .val (.int p3), .val (.int p4), .val (.int p5), .val (.int bv), .val (.int bw), .val (.ref ab), .val (.int en), .val (.ref ob), .val (.int be), .val (.ref ks), .val (.int ac), .val (.int ag), .val (.int (7 : Int32)), .val (.int (0 : Int32))] [(.ref ks), (.ref kl)])) rfl (by rw [hml]; rfl) (Steps.refl _) (argsL := [(.ref ks)]) (rest := []) (lenOf pd_18 rfl) rfl (by show 2 * 0 + _ ≤ _; exact Nat.le_of_eq rfl) (hb hby at_212) (fun _ _ => ⟨rfl, hE210, (by decide : 8 + 0 ≤ _), (by decide : 59 + 0 ≤ _)⟩)
          dsimp only [Pt.U, Pt.locs, Pt.cells, Pt.slots] at X226 l226 y226 z226 st226 hQ226
          subst l226 y226 z226
          obtain ⟨rfl, N226q, hE226⟩ := hQ226
          have N226 := Fr.app N115 N226q
          have pre227 : ∀ t, Steps p.tables e below (T226.setTop (mkF m 222 #[.val (.int p1), .val (.int p2), .val (.int p3), .val (.int p4), .val (.int p5), .val (.int bv), .val (.int bw), .val (.ref ab), .val (.int en), .val (.ref ob), .val (.int be), .val (.ref ks), .val (.int ac), .val (.int ag), .val (.int (7 : Int32)), .val (.int (0 : Int32))] [(.int (0 : Int32)), (.int ac)])) t → Steps p.tables e below (s₁.setTop (entryFrame m #[(.int p1), (.int p2), (.int p3), (.int p4), (.int p5)] maxLocals)) t := by
            intro t kt
            refine pre207 _ ?_
            show Steps p.tables e below (T115.setTop (mkF m 205 #[.val (.int p1), .val (.int p2), .val (.int p3), .val (.int p4), .val (.int p5), .val (.int bv), .val (.int bw), .val (.ref ab), .val (.int en), .val (.ref ob), .val (.int be), .val (.ref ks), .val (.int ac), .val (.int ag), .val (.int (7 : Int32)), .val (.int (0 : Int32))] [(.int be)])) _
            refine XS.ifNo X115.here hx rfl (hb hby at_205) rfl (XT.i0_ne_f hc205_208) ?_
            show Steps p.tables e below (T115.setTop (mkF m 208 #[.val (.int p1), .val (.int p2), .val (.int p3), .val (.int p4), .val (.int p5), .val (.int bv), .val (.int bw), .val (.ref ab), .val (.int en), .val (.ref ob), .val (.int be), .val (.ref ks), .val (.int ac), .val (.int ag), .val (.int (7 : Int32)), .val (.int (0 : Int32))] [])) _
            refine st210 _ ?_
            show Steps p.tables e below (T210.setTop (mkF m 210 #[.val (.int p1), .val (.int p2), .val (.int p3), .val (.int p4), .val (.int p5), .val (.int bv), .val (.int bw), .val (.ref ab), .val (.int en), .val (.ref ob), .val (.int be), .val (.ref ks), .val (.int ac), .val (.int ag), .val (.int (7 : Int32)), .val (.int (0 : Int32))] [(.ref kl)])) _
            refine XS.aload X210.here hx rfl (hb hby at_210) rfl rfl ?_
            show Steps p.tables e below (T210.setTop (mkF m 212 #[.val (.int p1), .val (.int p2), .val (.int p3), .val (.int p4), .val (.int p5), .val (.int bv), .val (.int bw), .val (.ref ab), .val (.int en), .val (.ref ob), .val (.int be), .val (.ref ks), .val (.int ac), .val (.int ag), .val (.int (7 : Int32)), .val (.int (0 : Int32))] [(.ref ks), (.ref kl)])) _
            refine st226.trans ?_
            show Steps p.tables e below (T226.setTop (mkF m 215 #[.val (.int p1), .val (.int p2), .val (.int p3), .val (.int p4), .val (.int p5), .val (.int bv), .val (.int bw), .val (.ref ab), .val (.int en), .val (.ref ob), .val (.int be), .val (.ref ks), .val (.int ac), .val (.int ag), .val (.int (7 : Int32)), .val (.int (0 : Int32))] [(.int (1 : Int32))])) _
            refine XS.ifNo X226.here hx rfl (hb hby at_215) rfl (XT.i0_eq_f (by decide)) ?_
            show Steps p.tables e below (T226.setTop (mkF m 218 #[.val (.int p1), .val (.int p2), .val (.int p3), .val (.int p4), .val (.int p5), .val (.int bv), .val (.int bw), .val (.ref ab), .val (.int en), .val (.ref ob), .val (.int be), .val (.ref ks), .val (.int ac), .val (.int ag), .val (.int (7 : Int32)), .val (.int (0 : Int32))] [])) _
            refine XS.iload X226.here hx rfl (hb hby at_218) rfl ?_
            show Steps p.tables e below (T226.setTop (mkF m 220 #[.val (.int p1), .val (.int p2), .val (.int p3), .val (.int p4), .val (.int p5), .val (.int bv), .val (.int bw), .val (.ref ab), .val (.int en), .val (.ref ob), .val (.int be), .val (.ref ks), .val (.int ac), .val (.int ag), .val (.int (7 : Int32)), .val (.int (0 : Int32))] [(.int ac)])) _
            refine XS.iload X226.here hx rfl (hb hby at_220) rfl ?_
            exact kt
          by_cases hc222_228 : ac = (0 : Int32)
          · skip
            have pre229 : ∀ t, Steps p.tables e below (T226.setTop (mkF m 229 #[.val (.int p1), .val (.int p2), .val (.int p3), .val (.int p4), .val (.int p5), .val (.int bv), .val (.int bw), .val (.ref ab), .val (.int en), .val (.ref ob), .val (.int be), .val (.ref ks), .val (.int ac), .val (.int ag), .val (.int (7 : Int32)), .val (.int (0 : Int32))] [(.int (0 : Int32)), (.int ag)])) t → Steps p.tables e below (s₁.setTop (entryFrame m #[(.int p1), (.int p2), (.int p3), (.int p4), (.int p5)] maxLocals)) t := by
              intro t kt
              refine pre227 _ ?_
              show Steps p.tables e below (T226.setTop (mkF m 222 #[.val (.int p1), .val (.int p2), .val (.int p3), .val (.int p4), .val (.int p5), .val (.int bv), .val (.int bw), .val (.ref ab), .val (.int en), .val (.ref ob), .val (.int be), .val (.ref ks), .val (.int ac), .val (.int ag), .val (.int (7 : Int32)), .val (.int (0 : Int32))] [(.int (0 : Int32)), (.int ac)])) _
              refine XS.icmpNo X226.here hx rfl (hb hby at_222) rfl (XT.ii_ne_f hc222_228) ?_
              show Steps p.tables e below (T226.setTop (mkF m 225 #[.val (.int p1), .val (.int p2), .val (.int p3), .val (.int p4), .val (.int p5), .val (.int bv), .val (.int bw), .val (.ref ab), .val (.int en), .val (.ref ob), .val (.int be), .val (.ref ks), .val (.int ac), .val (.int ag), .val (.int (7 : Int32)), .val (.int (0 : Int32))] [])) _
              refine XS.iload X226.here hx rfl (hb hby at_225) rfl ?_
              show Steps p.tables e below (T226.setTop (mkF m 227 #[.val (.int p1), .val (.int p2), .val (.int p3), .val (.int p4), .val (.int p5), .val (.int bv), .val (.int bw), .val (.ref ab), .val (.int en), .val (.ref ob), .val (.int be), .val (.ref ks), .val (.int ac), .val (.int ag), .val (.int (7 : Int32)), .val (.int (0 : Int32))] [(.int ag)])) _
              refine XS.iload X226.here hx rfl (hb hby at_227) rfl ?_
              exact kt
            by_cases hc229_230 : ag = (0 : Int32)
            · skip
              have pre231 : ∀ t, Steps p.tables e below (T226.setTop (mkF m 237 #[.val (.int p1), .val (.int p2), .val (.int p3), .val (.int p4), .val (.int p5), .val (.int bv), .val (.int bw), .val (.ref ab), .val (.int en), .val (.ref ob), .val (.int be), .val (.ref ks), .val (.int ac), .val (.int ag), .val (.int (7 : Int32)), .val (.int (0 : Int32))] [(.int (1 : Int32))])) t → Steps p.tables e below (s₁.setTop (entryFrame m #[(.int p1), (.int p2), (.int p3), (.int p4), (.int p5)] maxLocals)) t := by
                intro t kt
                refine pre229 _ ?_
                show Steps p.tables e below (T226.setTop (mkF m 229 #[.val (.int p1), .val (.int p2), .val (.int p3), .val (.int p4), .val (.int p5), .val (.int bv), .val (.int bw), .val (.ref ab), .val (.int en), .val (.ref ob), .val (.int be), .val (.ref ks), .val (.int ac), .val (.int ag), .val (.int (7 : Int32)), .val (.int (0 : Int32))] [(.int (0 : Int32)), (.int ag)])) _
                refine XS.icmpNo X226.here hx rfl (hb hby at_229) rfl (XT.ii_ne_f hc229_230) ?_
                show Steps p.tables e below (T226.setTop (mkF m 232 #[.val (.int p1), .val (.int p2), .val (.int p3), .val (.int p4), .val (.int p5), .val (.int bv), .val (.int bw), .val (.ref ab), .val (.int en), .val (.ref ob), .val (.int be), .val (.ref ks), .val (.int ac), .val (.int ag), .val (.int (7 : Int32)), .val (.int (0 : Int32))] [])) _
                refine XS.iconst X226.here hx rfl (hb hby at_232) ?_
                show Steps p.tables e below (T226.setTop (mkF m 233 #[.val (.int p1), .val (.int p2), .val (.int p3), .val (.int p4), .val (.int p5), .val (.int bv), .val (.int bw), .val (.ref ab), .val (.int en), .val (.ref ob), .val (.int be), .val (.ref ks), .val (.int ac), .val (.int ag), .val (.int (7 : Int32)), .val (.int (0 : Int32))] [(.int (1 : Int32))])) _
                refine XS.goto X226.here hx rfl (pc0 := 233) (pc' := 237) rfl (hb hby at_233) (by decide) (by decide) ?_
                exact kt
              have CK232 := CHr.keep (Z := Z) (EL := EL1) (Keep.refl gh210 []) sf0 CC210.1
              obtain ⟨fs, hr, hrun, hended, hEnd⟩ := X226.leaveW hS (by rw [hE226]; exact Nat.le_trans hk (Keep.refl gh210 []).1) (v := some (.int (1 : Int32))) (fun h => by rw [Bd.returns] at h; cases h)
              have CT := CK232.trans (CHv.at (s := s) (vm0 := T210.vm) X226 hZ hEL CK232.1)
              refine ⟨_, _, pre231 _ ?_, hrun, hended, _, _, rfl, ?_, ?_, hEnd.1, hEnd.2.1, hEnd.2.2.1, hEnd.2.2.2.mono (by decide) (by decide)⟩
              · show Steps p.tables e below (T226.setTop (mkF m 237 #[.val (.int p1), .val (.int p2), .val (.int p3), .val (.int p4), .val (.int p5), .val (.int bv), .val (.int bw), .val (.ref ab), .val (.int en), .val (.ref ob), .val (.int be), .val (.ref ks), .val (.int ac), .val (.int ag), .val (.int (7 : Int32)), .val (.int (0 : Int32))] [(.int (1 : Int32))])) _
                exact retN X226 hx (t := .boolean) Bd.returns (by simp) (hb hby at_237) hr
              · show Q0 Z p1 p2 p3 p4 p5 u8 cs fmv h0 n0 _ T226.heap _
                rw [hE226]
                exact ⟨rfl, N226⟩
              · rw [hh]
                show CHr Z EL1 s.vm h0 T226.vm T226.heap
                rw [hE226]
                exact CR225.trans CT
            · skip
              exact absurd ((own_fin (pl := (7 : Int32)) (kl := 7) _ _ en fb kp ag (own_pos en (fb 6) (fb 7)) (by rw [hpl, if_pos hc138_114, if_neg hc146_117, if_neg hc164_148]) rfl h_ag h_kp1).trans (by rw [if_neg hc164_148])) hc229_230
          · skip
            exact absurd ((own_fin (pl := (7 : Int32)) (kl := 7) _ _ en fb kp ac (own_pos en (fb 6) (fb 7)) (by rw [hpl, if_pos hc138_114, if_neg hc146_117, if_neg hc164_148]) rfl h_ac h_kp1).trans (by rw [if_neg hc164_148])) hc222_228
        · skip
          exact absurd (own_before hoe hob h_be) hc205_208
  · skip
    have pre233 : ∀ t, Steps p.tables e below (T110.setTop (mkF m 205 #[.val (.int p1), .val (.int p2), .val (.int p3), .val (.int p4), .val (.int p5), .val (.int bv), .val (.int bw), .val (.ref ab), .val (.int en), .val (.ref ob), .val (.int be), .val (.ref ks), .val (.int ac), .val (.int ag), .val (.int (6 : Int32)), .val (.int (0 : Int32))] [(.int be)])) t → Steps p.tables e below (s₁.setTop (entryFrame m #[(.int p1), (.int p2), (.int p3), (.int p4), (.int p5)] maxLocals)) t := by
      intro t kt
      refine pre113 _ ?_
      show Steps p.tables e below (T110.setTop (mkF m 138 #[.val (.int p1), .val (.int p2), .val (.int p3), .val (.int p4), .val (.int p5), .val (.int bv), .val (.int bw), .val (.ref ab), .val (.int en), .val (.ref ob), .val (.int be), .val (.ref ks), .val (.int ac), .val (.int ag), .val (.int (6 : Int32)), .unset] [(.int en), (.int (6 : Int32))])) _
      refine XS.icmpYes X110.here hx rfl (pc0 := 138) (pc' := 153) rfl (hb hby at_138) rfl (XT.ii_ge_t hc138_114) (by decide) (by decide) ?_
      show Steps p.tables e below (T110.setTop (mkF m 153 #[.val (.int p1), .val (.int p2), .val (.int p3), .val (.int p4), .val (.int p5), .val (.int bv), .val (.int bw), .val (.ref ab), .val (.int en), .val (.ref ob), .val (.int be), .val (.ref ks), .val (.int ac), .val (.int ag), .val (.int (6 : Int32)), .unset] [])) _
      refine XS.iload X110.here hx rfl (hb hby at_153) rfl ?_
      show Steps p.tables e below (T110.setTop (mkF m 155 #[.val (.int p1), .val (.int p2), .val (.int p3), .val (.int p4), .val (.int p5), .val (.int bv), .val (.int bw), .val (.ref ab), .val (.int en), .val (.ref ob), .val (.int be), .val (.ref ks), .val (.int ac), .val (.int ag), .val (.int (6 : Int32)), .unset] [(.int (6 : Int32))])) _
      refine XS.bipush X110.here hx rfl (hb hby at_155) ?_
      show Steps p.tables e below (T110.setTop (mkF m 157 #[.val (.int p1), .val (.int p2), .val (.int p3), .val (.int p4), .val (.int p5), .val (.int bv), .val (.int bw), .val (.ref ab), .val (.int en), .val (.ref ob), .val (.int be), .val (.ref ks), .val (.int ac), .val (.int ag), .val (.int (6 : Int32)), .unset] [(.int (7 : Int32)), (.int (6 : Int32))])) _
      refine XS.icmpYes X110.here hx rfl (pc0 := 157) (pc' := 179) rfl (hb hby at_157) rfl (XT.ii_ne_t (by decide)) (by decide) (by decide) ?_
      show Steps p.tables e below (T110.setTop (mkF m 179 #[.val (.int p1), .val (.int p2), .val (.int p3), .val (.int p4), .val (.int p5), .val (.int bv), .val (.int bw), .val (.ref ab), .val (.int en), .val (.ref ob), .val (.int be), .val (.ref ks), .val (.int ac), .val (.int ag), .val (.int (6 : Int32)), .unset] [])) _
      refine XS.iload X110.here hx rfl (hb hby at_179) rfl ?_
      show Steps p.tables e below (T110.setTop (mkF m 181 #[.val (.int p1), .val (.int p2), .val (.int p3), .val (.int p4), .val (.int p5), .val (.int bv), .val (.int bw), .val (.ref ab), .val (.int en), .val (.ref ob), .val (.int be), .val (.ref ks), .val (.int ac), .val (.int ag), .val (.int (6 : Int32)), .unset] [(.int (6 : Int32))])) _
      refine XS.iload X110.here hx rfl (hb hby at_181) rfl ?_
      show Steps p.tables e below (T110.setTop (mkF m 183 #[.val (.int p1), .val (.int p2), .val (.int p3), .val (.int p4), .val (.int p5), .val (.int bv), .val (.int bw), .val (.ref ab), .val (.int en), .val (.ref ob), .val (.int be), .val (.ref ks), .val (.int ac), .val (.int ag), .val (.int (6 : Int32)), .unset] [(.int en), (.int (6 : Int32))])) _
      refine XS.icmpYes X110.here hx rfl (pc0 := 183) (pc' := 200) rfl (hb hby at_183) rfl (XT.ii_ge_t hc138_114) (by decide) (by decide) ?_
      show Steps p.tables e below (T110.setTop (mkF m 200 #[.val (.int p1), .val (.int p2), .val (.int p3), .val (.int p4), .val (.int p5), .val (.int bv), .val (.int bw), .val (.ref ab), .val (.int en), .val (.ref ob), .val (.int be), .val (.ref ks), .val (.int ac), .val (.int ag), .val (.int (6 : Int32)), .unset] [])) _
      refine XS.iconst X110.here hx rfl (hb hby at_200) ?_
      show Steps p.tables e below (T110.setTop (mkF m 201 #[.val (.int p1), .val (.int p2), .val (.int p3), .val (.int p4), .val (.int p5), .val (.int bv), .val (.int bw), .val (.ref ab), .val (.int en), .val (.ref ob), .val (.int be), .val (.ref ks), .val (.int ac), .val (.int ag), .val (.int (6 : Int32)), .unset] [(.int (0 : Int32))])) _
      refine XS.istore X110.here hx rfl (hb hby at_201) rfl (l' := #[.val (.int p1), .val (.int p2), .val (.int p3), .val (.int p4), .val (.int p5), .val (.int bv), .val (.int bw), .val (.ref ab), .val (.int en), .val (.ref ob), .val (.int be), .val (.ref ks), .val (.int ac), .val (.int ag), .val (.int (6 : Int32)), .val (.int (0 : Int32))]) rfl ?_
      show Steps p.tables e below (T110.setTop (mkF m 203 #[.val (.int p1), .val (.int p2), .val (.int p3), .val (.int p4), .val (.int p5), .val (.int bv), .val (.int bw), .val (.ref ab), .val (.int en), .val (.ref ob), .val (.int be), .val (.ref ks), .val (.int ac), .val (.int ag), .val (.int (6 : Int32)), .val (.int (0 : Int32))] [])) _
      refine XS.iload X110.here hx rfl (hb hby at_203) rfl ?_
      exact kt
    by_cases hc205_234 : be = (0 : Int32)
    · skip
      have CK235 := CHr.keep (Z := Z) (EL := EL1) (Keep.refl T95.heap []) sf0 CC95.1
      obtain ⟨kl, T236, gh236, k236, kb, kb236, X236, hE236, E236, hS, hk, hZ, hown, E_kl, F_c_kl, F_v_kl, V236, -, -, CC236, -, -, st236⟩ := ldcCH (s := s) (vm0 := T95.vm) X110 hx hZ hown (hw _ (List.mem_of_getElem? (i := 119) rfl)) hwS hE110 hS (Nat.le_trans hk (Keep.refl T95.heap []).1) hEL own_mem CK235.1 ⟨by decide, rfl⟩ (z := (1 : Int32)) (by decide) rfl (g := (mkF m 208 #[.val (.int p1), .val (.int p2), .val (.int p3), .val (.int p4), .val (.int p5), .val (.int bv), .val (.int bw), .val (.ref ab), .val (.int en), .val (.ref ob), .val (.int be), .val (.ref ks), .val (.int ac), .val (.int ag), .val (.int (6 : Int32)), .val (.int (0 : Int32))] [])) rfl (hb hby at_208) (n := 4) (by decide) (by decide) (by decide) (by decide)
      have f237 := f97.ext E236
      have f238 := f98.ext E236
      have f239 := p95_0.ext E236
      have f240 := p95_1.ext E236
      have f241 := p95_2.ext E236
      have f242 := p95_3.ext E236
      have f243 := p95_4.ext E236
      have f244 := p95_E.ext E236
      have f245 := p95_v.ext E236
      have f246 := p95_c.ext E236
      have f247 := p95_A.ext E236
      have Z248 := Nat.le_trans Z104 E236.1
      have K249 := K105.ext E236
      have K250 := (Keep.refl T95.heap []).ext E236
      have CR251 := CR106.trans (CK235.trans CC236)
      have A_kb : owAI Z gh236 kb .byte 1 (fun _ => (107 : Int32)) := owAI.of_arv V236 rfl (fun i hi => by have q : i = 0 := (by omega); subst q; rfl)
      obtain ⟨cq252, kq252, q252a, q252b, q252c⟩ := isOf hZ hE236 E_kl
      obtain ⟨_, _, ⟨T252, L252, k252, n252⟩, -, X252, ⟨Lc252, hQ252, l252, y252, z252⟩, st252⟩ := X236.virtualBack hx (y := (⟨"java/lang/String", "equals", "(Ljava/lang/Object;)Z"⟩ : MethodName)) (z := (⟨"java/lang/String", "equals", "(Ljava/lang/Object;)Z"⟩ : MethodName)) hown (mvT hZ (hw _ (List.mem_of_getElem? (i := 120) rfl))) (mvT hZ (hw _ (List.mem_of_getElem? (i := 121) rfl))) (notFace_of_selects (args := #[]) (mvT hZ (hw _ (List.mem_of_getElem? (i := 123) rfl)))) (mvT hZ (hw _ (List.mem_of_getElem? (i := 123) rfl))) (mvT hZ (hw _ (List.mem_of_getElem? (i := 122) rfl))) (by decide) (backOf (W := 0) (rm22 l Z a0 hw [] kl ks kb bb u8 cs fmv gh236 n0 Z248 E_kl F_v_kl F_c_kl A_kb f244 f245 f246 f247 f237 hst) hZ (hw _ (List.mem_of_getElem? (i := 124) rfl)) (hw _ (List.mem_of_getElem? (i := 58) rfl)) (by decide) (by decide)) q252a q252c (g := (mkF m 212 #[.val (.int p1), .val (.int p2), .val (.int p3), .val (.int p4), .val (.int p5), .val (.int bv), .val (.int bw), .val (.ref ab), .val (.int en), .val (.ref ob), .val (.int be), .val (.ref ks), .val (.int ac), .val (.int ag), .val (.int (6 : Int32)), .val (.int (0 : Int32))] [(.ref ks), (.ref kl)])) rfl (by rw [hml]; rfl) (Steps.refl _) (argsL := [(.ref ks)]) (rest := []) (lenOf pd_18 rfl) rfl (by show 2 * 0 + _ ≤ _; exact Nat.le_of_eq rfl) (hb hby at_212) (fun _ _ => ⟨rfl, hE236, (by decide : 8 + 0 ≤ _), (by decide : 59 + 0 ≤ _)⟩)
      dsimp only [Pt.U, Pt.locs, Pt.cells, Pt.slots] at X252 l252 y252 z252 st252 hQ252
      subst l252 y252 z252
      obtain ⟨rfl, N252q, hE252⟩ := hQ252
      have N252 := Fr.app N110 N252q
      have pre253 : ∀ t, Steps p.tables e below (T252.setTop (mkF m 222 #[.val (.int p1), .val (.int p2), .val (.int p3), .val (.int p4), .val (.int p5), .val (.int bv), .val (.int bw), .val (.ref ab), .val (.int en), .val (.ref ob), .val (.int be), .val (.ref ks), .val (.int ac), .val (.int ag), .val (.int (6 : Int32)), .val (.int (0 : Int32))] [(.int (0 : Int32)), (.int ac)])) t → Steps p.tables e below (s₁.setTop (entryFrame m #[(.int p1), (.int p2), (.int p3), (.int p4), (.int p5)] maxLocals)) t := by
        intro t kt
        refine pre233 _ ?_
        show Steps p.tables e below (T110.setTop (mkF m 205 #[.val (.int p1), .val (.int p2), .val (.int p3), .val (.int p4), .val (.int p5), .val (.int bv), .val (.int bw), .val (.ref ab), .val (.int en), .val (.ref ob), .val (.int be), .val (.ref ks), .val (.int ac), .val (.int ag), .val (.int (6 : Int32)), .val (.int (0 : Int32))] [(.int be)])) _
        refine XS.ifNo X110.here hx rfl (hb hby at_205) rfl (XT.i0_ne_f hc205_234) ?_
        show Steps p.tables e below (T110.setTop (mkF m 208 #[.val (.int p1), .val (.int p2), .val (.int p3), .val (.int p4), .val (.int p5), .val (.int bv), .val (.int bw), .val (.ref ab), .val (.int en), .val (.ref ob), .val (.int be), .val (.ref ks), .val (.int ac), .val (.int ag), .val (.int (6 : Int32)), .val (.int (0 : Int32))] [])) _
        refine st236 _ ?_
        show Steps p.tables e below (T236.setTop (mkF m 210 #[.val (.int p1), .val (.int p2), .val (.int p3), .val (.int p4), .val (.int p5), .val (.int bv), .val (.int bw), .val (.ref ab), .val (.int en), .val (.ref ob), .val (.int be), .val (.ref ks), .val (.int ac), .val (.int ag), .val (.int (6 : Int32)), .val (.int (0 : Int32))] [(.ref kl)])) _
        refine XS.aload X236.here hx rfl (hb hby at_210) rfl rfl ?_
        show Steps p.tables e below (T236.setTop (mkF m 212 #[.val (.int p1), .val (.int p2), .val (.int p3), .val (.int p4), .val (.int p5), .val (.int bv), .val (.int bw), .val (.ref ab), .val (.int en), .val (.ref ob), .val (.int be), .val (.ref ks), .val (.int ac), .val (.int ag), .val (.int (6 : Int32)), .val (.int (0 : Int32))] [(.ref ks), (.ref kl)])) _
        refine st252.trans ?_
        show Steps p.tables e below (T252.setTop (mkF m 215 #[.val (.int p1), .val (.int p2), .val (.int p3), .val (.int p4), .val (.int p5), .val (.int bv), .val (.int bw), .val (.ref ab), .val (.int en), .val (.ref ob), .val (.int be), .val (.ref ks), .val (.int ac), .val (.int ag), .val (.int (6 : Int32)), .val (.int (0 : Int32))] [(.int (1 : Int32))])) _
        refine XS.ifNo X252.here hx rfl (hb hby at_215) rfl (XT.i0_eq_f (by decide)) ?_
        show Steps p.tables e below (T252.setTop (mkF m 218 #[.val (.int p1), .val (.int p2), .val (.int p3), .val (.int p4), .val (.int p5), .val (.int bv), .val (.int bw), .val (.ref ab), .val (.int en), .val (.ref ob), .val (.int be), .val (.ref ks), .val (.int ac), .val (.int ag), .val (.int (6 : Int32)), .val (.int (0 : Int32))] [])) _
        refine XS.iload X252.here hx rfl (hb hby at_218) rfl ?_
        show Steps p.tables e below (T252.setTop (mkF m 220 #[.val (.int p1), .val (.int p2), .val (.int p3), .val (.int p4), .val (.int p5), .val (.int bv), .val (.int bw), .val (.ref ab), .val (.int en), .val (.ref ob), .val (.int be), .val (.ref ks), .val (.int ac), .val (.int ag), .val (.int (6 : Int32)), .val (.int (0 : Int32))] [(.int ac)])) _
        refine XS.iload X252.here hx rfl (hb hby at_220) rfl ?_
        exact kt
      by_cases hc222_254 : ac = (0 : Int32)
      · skip
        have pre255 : ∀ t, Steps p.tables e below (T252.setTop (mkF m 229 #[.val (.int p1), .val (.int p2), .val (.int p3), .val (.int p4), .val (.int p5), .val (.int bv), .val (.int bw), .val (.ref ab), .val (.int en), .val (.ref ob), .val (.int be), .val (.ref ks), .val (.int ac), .val (.int ag), .val (.int (6 : Int32)), .val (.int (0 : Int32))] [(.int (0 : Int32)), (.int ag)])) t → Steps p.tables e below (s₁.setTop (entryFrame m #[(.int p1), (.int p2), (.int p3), (.int p4), (.int p5)] maxLocals)) t := by
          intro t kt
          refine pre253 _ ?_
          show Steps p.tables e below (T252.setTop (mkF m 222 #[.val (.int p1), .val (.int p2), .val (.int p3), .val (.int p4), .val (.int p5), .val (.int bv), .val (.int bw), .val (.ref ab), .val (.int en), .val (.ref ob), .val (.int be), .val (.ref ks), .val (.int ac), .val (.int ag), .val (.int (6 : Int32)), .val (.int (0 : Int32))] [(.int (0 : Int32)), (.int ac)])) _
          refine XS.icmpNo X252.here hx rfl (hb hby at_222) rfl (XT.ii_ne_f hc222_254) ?_
          show Steps p.tables e below (T252.setTop (mkF m 225 #[.val (.int p1), .val (.int p2), .val (.int p3), .val (.int p4), .val (.int p5), .val (.int bv), .val (.int bw), .val (.ref ab), .val (.int en), .val (.ref ob), .val (.int be), .val (.ref ks), .val (.int ac), .val (.int ag), .val (.int (6 : Int32)), .val (.int (0 : Int32))] [])) _
          refine XS.iload X252.here hx rfl (hb hby at_225) rfl ?_
          show Steps p.tables e below (T252.setTop (mkF m 227 #[.val (.int p1), .val (.int p2), .val (.int p3), .val (.int p4), .val (.int p5), .val (.int bv), .val (.int bw), .val (.ref ab), .val (.int en), .val (.ref ob), .val (.int be), .val (.ref ks), .val (.int ac), .val (.int ag), .val (.int (6 : Int32)), .val (.int (0 : Int32))] [(.int ag)])) _
          refine XS.iload X252.here hx rfl (hb hby at_227) rfl ?_
          exact kt
        by_cases hc229_256 : ag = (0 : Int32)
        · skip
          have pre257 : ∀ t, Steps p.tables e below (T252.setTop (mkF m 237 #[.val (.int p1), .val (.int p2), .val (.int p3), .val (.int p4), .val (.int p5), .val (.int bv), .val (.int bw), .val (.ref ab), .val (.int en), .val (.ref ob), .val (.int be), .val (.ref ks), .val (.int ac), .val (.int ag), .val (.int (6 : Int32)), .val (.int (0 : Int32))] [(.int (1 : Int32))])) t → Steps p.tables e below (s₁.setTop (entryFrame m #[(.int p1), (.int p2), (.int p3), (.int p4), (.int p5)] maxLocals)) t := by
            intro t kt
            refine pre255 _ ?_
            show Steps p.tables e below (T252.setTop (mkF m 229 #[.val (.int p1), .val (.int p2), .val (.int p3), .val (.int p4), .val (.int p5), .val (.int bv), .val (.int bw), .val (.ref ab), .val (.int en), .val (.ref ob), .val (.int be), .val (.ref ks), .val (.int ac), .val (.int ag), .val (.int (6 : Int32)), .val (.int (0 : Int32))] [(.int (0 : Int32)), (.int ag)])) _
            refine XS.icmpNo X252.here hx rfl (hb hby at_229) rfl (XT.ii_ne_f hc229_256) ?_
            show Steps p.tables e below (T252.setTop (mkF m 232 #[.val (.int p1), .val (.int p2), .val (.int p3), .val (.int p4), .val (.int p5), .val (.int bv), .val (.int bw), .val (.ref ab), .val (.int en), .val (.ref ob), .val (.int be), .val (.ref ks), .val (.int ac), .val (.int ag), .val (.int (6 : Int32)), .val (.int (0 : Int32))] [])) _
            refine XS.iconst X252.here hx rfl (hb hby at_232) ?_
            show Steps p.tables e below (T252.setTop (mkF m 233 #[.val (.int p1), .val (.int p2), .val (.int p3), .val (.int p4), .val (.int p5), .val (.int bv), .val (.int bw), .val (.ref ab), .val (.int en), .val (.ref ob), .val (.int be), .val (.ref ks), .val (.int ac), .val (.int ag), .val (.int (6 : Int32)), .val (.int (0 : Int32))] [(.int (1 : Int32))])) _
            refine XS.goto X252.here hx rfl (pc0 := 233) (pc' := 237) rfl (hb hby at_233) (by decide) (by decide) ?_
            exact kt
          have CK258 := CHr.keep (Z := Z) (EL := EL1) (Keep.refl gh236 []) sf0 CC236.1
          obtain ⟨fs, hr, hrun, hended, hEnd⟩ := X252.leaveW hS (by rw [hE252]; exact Nat.le_trans hk (Keep.refl gh236 []).1) (v := some (.int (1 : Int32))) (fun h => by rw [Bd.returns] at h; cases h)
          have CT := CK258.trans (CHv.at (s := s) (vm0 := T236.vm) X252 hZ hEL CK258.1)
          refine ⟨_, _, pre257 _ ?_, hrun, hended, _, _, rfl, ?_, ?_, hEnd.1, hEnd.2.1, hEnd.2.2.1, hEnd.2.2.2.mono (by decide) (by decide)⟩
          · show Steps p.tables e below (T252.setTop (mkF m 237 #[.val (.int p1), .val (.int p2), .val (.int p3), .val (.int p4), .val (.int p5), .val (.int bv), .val (.int bw), .val (.ref ab), .val (.int en), .val (.ref ob), .val (.int be), .val (.ref ks), .val (.int ac), .val (.int ag), .val (.int (6 : Int32)), .val (.int (0 : Int32))] [(.int (1 : Int32))])) _
            exact retN X252 hx (t := .boolean) Bd.returns (by simp) (hb hby at_237) hr
          · show Q0 Z p1 p2 p3 p4 p5 u8 cs fmv h0 n0 _ T252.heap _
            rw [hE252]
            exact ⟨rfl, N252⟩
          · rw [hh]
            show CHr Z EL1 s.vm h0 T252.vm T252.heap
            rw [hE252]
            exact CR251.trans CT
        · skip
          exact absurd ((own_fin (pl := (6 : Int32)) (kl := 6) _ _ en fb kp ag (own_pos en (fb 6) (fb 7)) (by rw [hpl, if_neg hc138_114]) rfl h_ag h_kp1).trans (by rw [if_neg hc138_114])) hc229_256
      · skip
        exact absurd ((own_fin (pl := (6 : Int32)) (kl := 6) _ _ en fb kp ac (own_pos en (fb 6) (fb 7)) (by rw [hpl, if_neg hc138_114]) rfl h_ac h_kp1).trans (by rw [if_neg hc138_114])) hc222_254
    · skip
      exact absurd (own_before hoe hob h_be) hc205_234
set_option maxRecDepth 65536 in
set_option maxHeartbeats 40000000 in
theorem comes_1 {Post : Tables → Env → Array Value → State → Outcome → State → Prop} (hpost : ∀ tb e args s v u, (limb_1_1.after args s (.returned v) u = true ∧ limb_1_2.after args s (.returned v) u = true ∧ True) → ReturnedEndW s (.returned v) u (Jvm.fieldLocs frame_1_writes args s ++ Jvm.arrayLocs frame_1_arrays args s ++ Jvm.staticLocs frame_1_statics s) 24 2176 → Post tb e args s (.returned v) u) :
    ArmFor flags0 classFile x code maxLocals ret World_1 tables_1 room_1 Calls_1 rest_1 Pre_1 Post := by
  intro l hfl _ _ p e ha hc hk s m args below hf hA hF happ hP
  obtain ⟨hcalls, hrest, hpre⟩ := hP
  obtain ⟨-, -, -, hnamed, -, -, -, hat⟩ := (Spec.applies_iff hf).mp happ
  obtain ⟨hg, hn⟩ := and_e (Cond.before_iff.mp (show (Jvm.Cond.and given_1 narrow_1).before args s = true from hpre))
  obtain ⟨g1, g2⟩ := and_e hg
  obtain ⟨g3, g4⟩ := and_e g2
  obtain ⟨g5, g6⟩ := and_e g4
  obtain ⟨g7, g8⟩ := and_e g6
  obtain ⟨g9, g10⟩ := and_e g8
  obtain ⟨w0, w1, w2, w3, w4, rfl⟩ : ∃ w0 w1 w2 w3 w4 : Value, args = #[w0, w1, w2, w3, w4] := by
    have hs : args.size = 5 := by simpa [Cond.value, given_1] using g1
    obtain ⟨L⟩ := args
    match L, hs with
    | [w0, w1, w2, w3, w4], _ => exact ⟨w0, w1, w2, w3, w4, rfl⟩
  have hw := fun d (hd : d ∈ tables_1) => atoms_spec (ws := Jvm.Cond.code x code maxLocals ret :: tables_1) hat d (List.mem_cons_of_mem _ hd)
  have hfit : Fit s := fun {y c} hc i hi => by
    obtain ⟨ha, rfl⟩ := Array.getElem?_eq_some_iff.mp hc
    have q := List.all_eq_true.mp ((Array.all_eq_true_iff_forall_mem.mp hF) _ (Array.getElem_mem ha)) i (List.mem_range.mpr hi)
    simpa [Array.getElem?_eq_getElem hi] using q
  obtain ⟨hsets, hown0⟩ := atoms_of _ (rest_1_c_eq ▸ (show rest_1_c.before _ s = true from hrest))
  have hr0 := Cond.before_iff.mp hown0
  obtain ⟨i0, ei0⟩ := is_v g3
  obtain rfl : w0 = (.int i0) := Option.some.inj ei0
  obtain ⟨i1, ei1⟩ := is_v g5
  obtain rfl : w1 = (.int i1) := Option.some.inj ei1
  obtain ⟨i2, ei2⟩ := is_v g7
  obtain rfl : w2 = (.int i2) := Option.some.inj ei2
  obtain ⟨i3, ei3⟩ := is_v g9
  obtain rfl : w3 = (.int i3) := Option.some.inj ei3
  obtain ⟨i4, ei4⟩ := is_v g10
  obtain rfl : w4 = (.int i4) := Option.some.inj ei4
  obtain ⟨u8, cs, fmv, hst, hcw⟩ := own_sets hsets
  have CHs : CHv s EL1 s.vm s.heap := CHv.start (own_EW hw) (fun q hq => by cases List.mem_singleton.mp hq; exact hcalls.1 _ (List.mem_of_getElem? (i := 1) rfl)) hcw (own_wS hw _ (List.mem_of_getElem? (i := 2) rfl)) (own_wS hw _ (List.mem_of_getElem? (i := 1) rfl))
  obtain ⟨n, o, h1, h2, h3, _, L, rfl, ⟨rfl, N⟩, -, hq⟩ := rm0 l s _ hw tables_1 i0 i1 i2 i3 i4 u8 cs fmv s.heap s.heap.size (Nat.le_refl _) (Old.start s) hst p e ha hc hk s m _ below hf ((Spec.applies_iff_loose hf).mp happ).1 ⟨rfl, State.Warmed39.refl s, rfl, CHs⟩ trivial
  refine ⟨n, _, h1, h2, h3, hpost _ _ _ _ _ _ ⟨Cond.after_iff.mpr rfl, Cond.after_iff.mpr (eq_i res_at (Term.int_eval (1)) rfl), trivial⟩ ⟨hq.1, hq.2.1, hq.2.2.1, (hq.2.2.2.sift fun y hy => Or.inr (N y hy)).mono (by decide) (by decide)⟩⟩
theorem main_1_1 : Claimed_1_1 := comes_1 fun _ _ _ _ _ _ h hF => ⟨h.1, hF⟩
theorem main_1_2 : Claimed_1_2 := comes_1 fun _ _ _ _ _ _ h hF => ⟨h.2.1, hF⟩
end Jvm.Pilot.@@N@@
namespace Jvm.Pilot.@@N@@
open Jvm Jvm.ClassFile Sem Op Lib Jvm.Free Jvm.Stand Jvm.Pilot.@@N@@.Jvm.D
/-! MADE BY PROGRAM (witnessworld.py) out of the Statement's table words and the real class files: 28 classes; the members and pool entries that the words name. The judged class is class 1, her method 2. -/
namespace start1
open Jvm.ClassFile
def u (s : String) : CpInfo := .utf8 (stringToUtf16 s)
/-- a pool by its gaps: so many unusable entries, then the entry; so many at the end -/
def gap : Nat → List CpInfo → List CpInfo
  | 0, r => r
  | n + 1, r => .unusable :: gap n r
def poolList (es : List (Nat × CpInfo)) (last : Nat) : List CpInfo := es.foldr (fun e r => gap e.1 (e.2 :: r)) (gap last [])
def pool (es : List (Nat × CpInfo)) (last : Nat) : Array CpInfo := ⟨poolList es last⟩
def fileOf (pool : Array CpInfo) (this : Nat) (attrs : Array Attribute := #[]) (ms : Array MethodInfo := #[]) (fl : Nat := 33) (sup : Nat := 0) (ifs : Array Nat := #[]) (fds : Array FieldInfo := #[]) : ClassFile where
  minorVersion := 0
  majorVersion := 65
  constantPool := pool
  accessFlags := fl
  thisClass := this
  superClass := sup
  interfaces := ifs
  fields := fds
  methods := ms
  attributes := attrs
def plain (name : String) (sup : Option ClassId) : Class where
  name := name
  kind := .ordinary
  loader := none
  accessFlags := 33
  super := sup
  interfaces := #[]
  cf := none
  fields := #[]
  methods := #[]
  instanceTypes := #[]
  staticTypes := #[]
  resolved := #[]
  callSites := []
  init := .initialized
  statics := none
  mirror := none

def pool0 : Array CpInfo := pool [(5, u "<init>"), (0, u "()V"), (1, .class_ 10), (1, u "java/lang/Object")] 113

def k0c0 : Code := { maxStack := 0, maxLocals := 1, code := object_method_1_code, exceptionTable := #[], attributes := #[] }
def k0m0 : Method := { name := "<init>", desc := "()V", sig := { parameters := [], returnType := none }, accessFlags := 1, code := some k0c0 }
/-- java/lang/Object -/
def k0 : Class := { plain "java/lang/Object" none with
  accessFlags := 33
  interfaces := #[]
  cf := some (fileOf pool0 8 #[] #[{ accessFlags := 1, nameIndex := 5, descriptorIndex := 6, attributes := #[] }] 33 0 #[] #[])
  fields := #[]
  methods := #[k0m0]
  instanceTypes := #[]
  staticTypes := #[]
  resolved := Array.replicate 124 none
  statics := none }

def pool1 : Array CpInfo := pool [(2, .class_ 4), (1, u "java/lang/Object"), (0, u "<init>"), (0, u "()V"), (0, .integer 2147483647), (0, .class_ 9), (0, u "com/example/fama/fama/table/JsonLine"), (0, .methodref 8 11), (0, .nameAndType 5 12), (0, u "([BII)V"), (0, .methodref 8 14), (0, .nameAndType 15 16), (0, u "atString"), (0, u "()Z"), (0, .methodref 8 18), (0, .nameAndType 19 6), (0, u "startObject"), (0, .methodref 8 21), (0, .nameAndType 22 23), (0, u "nextKey"), (0, u "()Ljava/lang/String;"), (0, .methodref 25 26), (0, .class_ 27), (0, .nameAndType 28 29), (0, u "com/example/fama/fama/table/JsonLineAtStringPinLaw"), (0, u "ws"), (0, u "(B)Z"), (0, .string 31), (0, u "k"), (0, .methodref 33 34), (0, .class_ 35), (0, .nameAndType 36 37), (0, u "java/lang/String"), (0, u "equals"), (0, u "(Ljava/lang/Object;)Z"), (3, u "law"), (0, u "(IIIII)Z")] 7

def k1m0 : Method := { name := "<init>", desc := "()V", sig := { parameters := [], returnType := none }, accessFlags := 2, code := none }
def k1c1 : Code := { maxStack := 2, maxLocals := 1, code := method_2_code, exceptionTable := #[], attributes := #[] }
def k1m1 : Method := { name := "ws", desc := "(B)Z", sig := { parameters := [.byte], returnType := some .boolean }, accessFlags := 10, code := some k1c1 }
def k1c2 : Code := { maxStack := 5, maxLocals := 16, code := code, exceptionTable := #[], attributes := #[] }
def k1m2 : Method := { name := "law", desc := "(IIIII)Z", sig := { parameters := [.int, .int, .int, .int, .int], returnType := some .boolean }, accessFlags := 9, code := some k1c2 }
/-- com/example/fama/fama/table/JsonLineAtStringPinLaw -/
def k1 : Class := { plain "com/example/fama/fama/table/JsonLineAtStringPinLaw" (some 0) with
  accessFlags := 49
  interfaces := #[]
  cf := some (fileOf pool1 25 #[] #[{ accessFlags := 2, nameIndex := 5, descriptorIndex := 6, attributes := #[] }, { accessFlags := 10, nameIndex := 28, descriptorIndex := 29, attributes := #[] }, { accessFlags := 9, nameIndex := 41, descriptorIndex := 42, attributes := #[] }] 49 2 #[] #[])
  fields := #[]
  methods := #[k1m0, k1m1, k1m2]
  instanceTypes := #[]
  staticTypes := #[]
  resolved := Array.replicate 50 none
  statics := none }

def pool2 : Array CpInfo := pool [(1, .methodref 2 3), (0, .class_ 4), (0, .nameAndType 5 6), (0, u "java/lang/Object"), (0, u "<init>"), (0, u "()V"), (0, .fieldref 8 9), (0, .class_ 10), (0, .nameAndType 11 12), (0, u "com/example/fama/fama/table/JsonLine"), (0, u "first"), (0, u "Z"), (0, .fieldref 8 14), (0, .nameAndType 15 16), (0, u "bytes"), (0, u "[B"), (0, .fieldref 8 18), (0, .nameAndType 19 20), (0, u "start"), (0, u "I"), (0, .fieldref 8 22), (0, .nameAndType 23 20), (0, u "end"), (0, .fieldref 8 25), (0, .nameAndType 26 20), (0, u "at"), (0, .methodref 8 28), (0, .nameAndType 29 6), (0, u "skipWhitespace"), (0, .class_ 31), (0, u "com/example/fama/fama/table/JsonLine$Malformed"), (9, .methodref 8 42), (0, .nameAndType 43 44), (0, u "expect"), (0, u "(CLjava/lang/String;)V"), (0, .methodref 8 46), (0, .nameAndType 47 48), (0, u "key"), (0, u "(Z)Ljava/lang/String;"), (0, .methodref 8 50), (0, .nameAndType 51 52), (0, u "atString"), (0, u "()Z"), (0, .methodref 8 54), (0, .nameAndType 55 48), (0, u "string"), (3, .methodref 60 61), (0, .class_ 62), (0, .nameAndType 63 64), (0, u "com/example/fama/fama/table/TableLines"), (0, u "decode"), (0, u "([BII)Ljava/lang/String;"), (17, .string 83), (0, u "a colon"), (25, u "()Ljava/lang/String;"), (13, u "(B)Z"), (49, .methodref 8 174), (0, .nameAndType 175 123), (0, u "isWhitespace"), (8, u "AFTER_MEMBER"), (0, u "Ljava/lang/String;"), (1, u "INVALID_ESCAPE"), (0, u "([BII)V"), (2, u "startObject"), (2, u "nextKey")] 27

def k2c0 : Code := { maxStack := 2, maxLocals := 4, code := prog_30_method_1_code, exceptionTable := #[], attributes := #[] }
def k2m0 : Method := { name := "<init>", desc := "([BII)V", sig := { parameters := [(.array .byte), .int, .int], returnType := none }, accessFlags := 0, code := some k2c0 }
def k2c1 : Code := { maxStack := 3, maxLocals := 1, code := prog_30_method_2_code, exceptionTable := #[], attributes := #[] }
def k2m1 : Method := { name := "startObject", desc := "()V", sig := { parameters := [], returnType := none }, accessFlags := 0, code := some k2c1 }
def k2c2 : Code := { maxStack := 3, maxLocals := 1, code := prog_30_method_3_code, exceptionTable := #[], attributes := #[] }
def k2m2 : Method := { name := "nextKey", desc := "()Ljava/lang/String;", sig := { parameters := [], returnType := some (.object "java/lang/String") }, accessFlags := 0, code := some k2c2 }
def k2c3 : Code := { maxStack := 2, maxLocals := 1, code := prog_30_method_4_code, exceptionTable := #[], attributes := #[] }
def k2m3 : Method := { name := "atString", desc := "()Z", sig := { parameters := [], returnType := some .boolean }, accessFlags := 0, code := some k2c3 }
def k2c4 : Code := { maxStack := 3, maxLocals := 3, code := prog_30_method_8_code, exceptionTable := #[], attributes := #[] }
def k2m4 : Method := { name := "key", desc := "(Z)Ljava/lang/String;", sig := { parameters := [.boolean], returnType := some (.object "java/lang/String") }, accessFlags := 2, code := some k2c4 }
def k2c5 : Code := { maxStack := 4, maxLocals := 8, code := prog_30_method_9_code, exceptionTable := #[], attributes := #[] }
def k2m5 : Method := { name := "string", desc := "(Z)Ljava/lang/String;", sig := { parameters := [.boolean], returnType := some (.object "java/lang/String") }, accessFlags := 2, code := some k2c5 }
def k2c6 : Code := { maxStack := 3, maxLocals := 1, code := prog_30_method_18_code, exceptionTable := #[], attributes := #[] }
def k2m6 : Method := { name := "skipWhitespace", desc := "()V", sig := { parameters := [], returnType := none }, accessFlags := 2, code := some k2c6 }
def k2c7 : Code := { maxStack := 3, maxLocals := 3, code := prog_30_method_19_code, exceptionTable := #[], attributes := #[] }
def k2m7 : Method := { name := "expect", desc := "(CLjava/lang/String;)V", sig := { parameters := [.char, (.object "java/lang/String")], returnType := none }, accessFlags := 2, code := some k2c7 }
def k2c8 : Code := { maxStack := 2, maxLocals := 1, code := prog_30_method_22_code, exceptionTable := #[], attributes := #[] }
def k2m8 : Method := { name := "isWhitespace", desc := "(B)Z", sig := { parameters := [.byte], returnType := some .boolean }, accessFlags := 10, code := some k2c8 }
/-- com/example/fama/fama/table/JsonLine -/
def k2 : Class := { plain "com/example/fama/fama/table/JsonLine" (some 0) with
  accessFlags := 48
  interfaces := #[]
  cf := some (fileOf pool2 8 #[.nestMembers #[30]] #[{ accessFlags := 0, nameIndex := 5, descriptorIndex := 188, attributes := #[] }, { accessFlags := 0, nameIndex := 191, descriptorIndex := 6, attributes := #[] }, { accessFlags := 0, nameIndex := 194, descriptorIndex := 109, attributes := #[] }, { accessFlags := 0, nameIndex := 51, descriptorIndex := 52, attributes := #[] }, { accessFlags := 2, nameIndex := 47, descriptorIndex := 48, attributes := #[] }, { accessFlags := 2, nameIndex := 55, descriptorIndex := 48, attributes := #[] }, { accessFlags := 2, nameIndex := 29, descriptorIndex := 6, attributes := #[] }, { accessFlags := 2, nameIndex := 43, descriptorIndex := 44, attributes := #[] }, { accessFlags := 10, nameIndex := 175, descriptorIndex := 123, attributes := #[] }] 48 2 #[] #[{ accessFlags := 26, nameIndex := 184, descriptorIndex := 185, attributes := #[] }, { accessFlags := 26, nameIndex := 187, descriptorIndex := 185, attributes := #[] }, { accessFlags := 18, nameIndex := 15, descriptorIndex := 16, attributes := #[] }, { accessFlags := 18, nameIndex := 19, descriptorIndex := 20, attributes := #[] }, { accessFlags := 18, nameIndex := 23, descriptorIndex := 20, attributes := #[] }, { accessFlags := 2, nameIndex := 26, descriptorIndex := 20, attributes := #[] }, { accessFlags := 2, nameIndex := 11, descriptorIndex := 12, attributes := #[] }])
  fields := #[{ name := "AFTER_MEMBER", type := (.object "java/lang/String"), accessFlags := 26, slot := 0, constantValue := 0 }, { name := "INVALID_ESCAPE", type := (.object "java/lang/String"), accessFlags := 26, slot := 1, constantValue := 0 }, { name := "bytes", type := (.array .byte), accessFlags := 18, slot := 0, constantValue := 0 }, { name := "start", type := .int, accessFlags := 18, slot := 1, constantValue := 0 }, { name := "end", type := .int, accessFlags := 18, slot := 2, constantValue := 0 }, { name := "at", type := .int, accessFlags := 2, slot := 3, constantValue := 0 }, { name := "first", type := .boolean, accessFlags := 2, slot := 4, constantValue := 0 }]
  methods := #[k2m0, k2m1, k2m2, k2m3, k2m4, k2m5, k2m6, k2m7, k2m8]
  instanceTypes := #[(.array .byte), .int, .int, .int, .boolean]
  staticTypes := #[(.object "java/lang/String"), (.object "java/lang/String")]
  resolved := Array.replicate 222 none
  statics := none }

def pool3 : Array CpInfo := pool [(6, .class_ 8), (1, u "java/lang/Object"), (0, u "<init>"), (1, .class_ 12), (0, u "com/example/fama/fama/table/TableLines$Row"), (2, .class_ 17), (1, u "com/example/fama/fama/table/TableLines"), (0, u "row"), (0, u "Lcom/example/fama/fama/table/TableLines$Row;"), (3, u "buffer"), (0, u "[B"), (2, u "file"), (0, u "Ljava/nio/file/Path;"), (2, u "in"), (0, u "Ljava/io/InputStream;"), (21, u "ended"), (0, u "Z"), (21, u "end"), (0, u "I"), (11, u "lineNumber"), (0, u "J"), (37, .class_ 131), (1, u "com/example/fama/fama/table/TableLines$RowReader"), (15, u "LONGS"), (0, u "Ljava/lang/invoke/VarHandle;"), (18, .class_ 168), (0, u "java/lang/String"), (0, .fieldref 170 171), (0, .class_ 172), (0, .nameAndType 173 174), (0, u "java/nio/charset/StandardCharsets"), (0, u "UTF_8"), (0, u "Ljava/nio/charset/Charset;"), (0, .methodref 167 176), (0, .nameAndType 9 177), (0, u "([BIILjava/nio/charset/Charset;)V"), (5, .class_ 185), (1, u "com/example/fama/fama/table/TableLines$Reader"), (15, u "BUFFER_SIZE"), (2, u "LONGEST_LINE"), (0, u "EVERY_BYTE_14"), (0, u "EVERY_HIGH_BIT"), (9, u "decode"), (0, u "([BII)Ljava/lang/String;")] 26

def k3c0 : Code := { maxStack := 6, maxLocals := 3, code := prog_51_method_8_code, exceptionTable := #[], attributes := #[] }
def k3m0 : Method := { name := "decode", desc := "([BII)Ljava/lang/String;", sig := { parameters := [(.array .byte), .int, .int], returnType := some (.object "java/lang/String") }, accessFlags := 8, code := some k3c0 }
/-- com/example/fama/fama/table/TableLines -/
def k3 : Class := { plain "com/example/fama/fama/table/TableLines" (some 0) with
  accessFlags := 48
  interfaces := #[]
  cf := some (fileOf pool3 15 #[.nestMembers #[11, 129, 183]] #[{ accessFlags := 8, nameIndex := 216, descriptorIndex := 217, attributes := #[] }] 48 6 #[] #[{ accessFlags := 24, nameIndex := 201, descriptorIndex := 78, attributes := #[] }, { accessFlags := 24, nameIndex := 204, descriptorIndex := 78, attributes := #[] }, { accessFlags := 26, nameIndex := 147, descriptorIndex := 148, attributes := #[] }, { accessFlags := 26, nameIndex := 205, descriptorIndex := 91, attributes := #[] }, { accessFlags := 26, nameIndex := 206, descriptorIndex := 91, attributes := #[] }, { accessFlags := 18, nameIndex := 27, descriptorIndex := 28, attributes := #[] }, { accessFlags := 18, nameIndex := 31, descriptorIndex := 32, attributes := #[] }, { accessFlags := 18, nameIndex := 18, descriptorIndex := 19, attributes := #[] }, { accessFlags := 2, nameIndex := 23, descriptorIndex := 24, attributes := #[] }, { accessFlags := 2, nameIndex := 77, descriptorIndex := 78, attributes := #[] }, { accessFlags := 2, nameIndex := 54, descriptorIndex := 55, attributes := #[] }, { accessFlags := 2, nameIndex := 90, descriptorIndex := 91, attributes := #[] }])
  fields := #[{ name := "BUFFER_SIZE", type := .int, accessFlags := 24, slot := 0, constantValue := 0 }, { name := "LONGEST_LINE", type := .int, accessFlags := 24, slot := 1, constantValue := 0 }, { name := "LONGS", type := (.object "java/lang/invoke/VarHandle"), accessFlags := 26, slot := 2, constantValue := 0 }, { name := "EVERY_BYTE_14", type := .long, accessFlags := 26, slot := 3, constantValue := 0 }, { name := "EVERY_HIGH_BIT", type := .long, accessFlags := 26, slot := 4, constantValue := 0 }, { name := "file", type := (.object "java/nio/file/Path"), accessFlags := 18, slot := 0, constantValue := 0 }, { name := "in", type := (.object "java/io/InputStream"), accessFlags := 18, slot := 1, constantValue := 0 }, { name := "row", type := (.object "com/example/fama/fama/table/TableLines$Row"), accessFlags := 18, slot := 2, constantValue := 0 }, { name := "buffer", type := (.array .byte), accessFlags := 2, slot := 3, constantValue := 0 }, { name := "end", type := .int, accessFlags := 2, slot := 4, constantValue := 0 }, { name := "ended", type := .boolean, accessFlags := 2, slot := 5, constantValue := 0 }, { name := "lineNumber", type := .long, accessFlags := 2, slot := 6, constantValue := 0 }]
  methods := #[k3m0]
  instanceTypes := #[(.object "java/nio/file/Path"), (.object "java/io/InputStream"), (.object "com/example/fama/fama/table/TableLines$Row"), (.array .byte), .int, .boolean, .long]
  staticTypes := #[.int, .int, (.object "java/lang/invoke/VarHandle"), .long, .long]
  resolved := Array.replicate 244 none
  statics := none }

def pool4 : Array CpInfo := pool [(1, .class_ 2), (0, u "java/io/Serializable"), (0, .class_ 4), (0, u "java/lang/Object")] 2

/-- java/io/Serializable -/
def k4 : Class := { plain "java/io/Serializable" (some 0) with
  accessFlags := 1537
  interfaces := #[]
  cf := some (fileOf pool4 1 #[] #[] 1537 3 #[] #[])
  fields := #[]
  methods := #[]
  instanceTypes := #[]
  staticTypes := #[]
  resolved := Array.replicate 7 none
  statics := none }

def pool5 : Array CpInfo := pool [(1, .class_ 2), (0, u "java/lang/Comparable"), (0, .class_ 4), (0, u "java/lang/Object")] 7

/-- java/lang/Comparable -/
def k5 : Class := { plain "java/lang/Comparable" (some 0) with
  accessFlags := 1537
  interfaces := #[]
  cf := some (fileOf pool5 1 #[] #[] 1537 3 #[] #[])
  fields := #[]
  methods := #[]
  instanceTypes := #[]
  staticTypes := #[]
  resolved := Array.replicate 12 none
  statics := none }

def pool6 : Array CpInfo := pool [(2, .class_ 4), (1, u "java/lang/CharSequence"), (42, .class_ 48), (0, u "java/lang/CharSequence$1CodePointIterator"), (10, .class_ 60), (0, u "java/lang/CharSequence$1CharIterator"), (5, .class_ 67), (0, u "java/lang/Object")] 63

/-- java/lang/CharSequence -/
def k6 : Class := { plain "java/lang/CharSequence" (some 0) with
  accessFlags := 1537
  interfaces := #[]
  cf := some (fileOf pool6 2 #[.nestMembers #[47, 59]] #[] 1537 66 #[] #[])
  fields := #[]
  methods := #[]
  instanceTypes := #[]
  staticTypes := #[]
  resolved := Array.replicate 131 none
  statics := none }

def pool7 : Array CpInfo := pool [(1, .class_ 2), (0, u "java/lang/constant/Constable"), (0, .class_ 4), (0, u "java/lang/Object")] 6

/-- java/lang/constant/Constable -/
def k7 : Class := { plain "java/lang/constant/Constable" (some 0) with
  accessFlags := 1537
  interfaces := #[]
  cf := some (fileOf pool7 1 #[] #[] 1537 3 #[] #[])
  fields := #[]
  methods := #[]
  instanceTypes := #[]
  staticTypes := #[]
  resolved := Array.replicate 11 none
  statics := none }

def pool8 : Array CpInfo := pool [(1, .class_ 2), (0, u "java/lang/constant/ConstantDesc"), (0, .class_ 4), (0, u "java/lang/Object")] 32

/-- java/lang/constant/ConstantDesc -/
def k8 : Class := { plain "java/lang/constant/ConstantDesc" (some 0) with
  accessFlags := 1537
  interfaces := #[]
  cf := some (fileOf pool8 1 #[] #[] 1537 3 #[] #[])
  fields := #[]
  methods := #[]
  instanceTypes := #[]
  staticTypes := #[]
  resolved := Array.replicate 37 none
  statics := none }

def pool9 : Array CpInfo := pool [(1, .methodref 2 3), (0, .class_ 4), (0, .nameAndType 5 6), (0, u "java/lang/Object"), (0, u "<init>"), (0, u "()V"), (2, .fieldref 10 11), (0, .class_ 12), (0, .nameAndType 13 14), (0, u "java/lang/String"), (0, u "value"), (0, u "[B"), (0, .fieldref 10 16), (0, .nameAndType 17 18), (0, u "coder"), (0, u "B"), (2, u "hash"), (0, u "I"), (2, u "hashIsZero"), (0, u "Z"), (7, .methodref 10 35), (0, .nameAndType 36 37), (0, u "checkBoundsOffCount"), (0, u "(III)I"), (0, .fieldref 10 39), (0, .nameAndType 40 26), (0, u "COMPACT_STRINGS"), (13, .methodref 55 56), (0, .class_ 57), (0, .nameAndType 58 59), (0, u "java/util/Arrays"), (0, u "copyOfRange"), (0, u "([BII)[B"), (15, .methodref 10 76), (0, .nameAndType 5 77), (0, u "(Ljava/nio/charset/Charset;[BII)V"), (0, .methodref 79 80), (0, .class_ 81), (0, .nameAndType 82 83), (0, u "java/util/Objects"), (0, u "requireNonNull"), (0, u "(Ljava/lang/Object;)Ljava/lang/Object;"), (0, .class_ 85), (0, u "java/nio/charset/Charset"), (0, .fieldref 87 88), (0, .class_ 89), (0, .nameAndType 90 91), (0, u "sun/nio/cs/UTF_8"), (0, u "INSTANCE"), (0, u "Lsun/nio/cs/UTF_8;"), (0, .methodref 93 94), (0, .class_ 95), (0, .nameAndType 96 97), (0, u "java/lang/StringCoding"), (0, u "countPositives"), (0, u "([BII)I"), (9, .class_ 109), (1, u "java/lang/StringLatin1"), (128, u "([BIILjava/nio/charset/Charset;)V"), (302, .methodref 107 542), (0, .nameAndType 543 544), (0, u "equals"), (0, u "([B[B)Z"), (28, u "(Ljava/lang/Object;)Z"), (1, .class_ 576), (0, u "java/lang/CharSequence"), (22, u "CASE_INSENSITIVE_ORDER"), (0, u "Ljava/util/Comparator;"), (452, .fieldref 1054 1055), (0, .class_ 1056), (0, .nameAndType 1057 1058), (0, u "jdk/internal/util/Preconditions"), (0, u "SIOOBE_FORMATTER"), (0, u "Ljava/util/function/BiFunction;"), (5, u "(IIILjava/util/function/BiFunction;)I"), (0, .methodref 1054 1066), (0, .nameAndType 1067 1064), (0, u "checkFromIndexSize"), (33, u "serialPersistentFields"), (0, u "[Ljava/io/ObjectStreamField;"), (0, .class_ 1104), (0, u "java/lang/String$CaseInsensitiveComparator"), (1, .class_ 1107), (0, u "java/io/Serializable"), (0, .class_ 1109), (0, u "java/lang/Comparable"), (0, .class_ 1111), (0, u "java/lang/constant/Constable"), (0, .class_ 1113), (0, u "java/lang/constant/ConstantDesc"), (2, u "serialVersionUID"), (0, u "J"), (3, u "REPL"), (0, u "C"), (2, u "LATIN1"), (1, u "UTF16")] 323

def k9m0 : Method := { name := "<init>", desc := "()V", sig := { parameters := [], returnType := none }, accessFlags := 1, code := none }
def k9c1 : Code := { maxStack := 6, maxLocals := 5, code := jdk_42_method_10_code, exceptionTable := #[], attributes := #[] }
def k9m1 : Method := { name := "<init>", desc := "([BIILjava/nio/charset/Charset;)V", sig := { parameters := [(.array .byte), .int, .int, (.object "java/nio/charset/Charset")], returnType := none }, accessFlags := 1, code := some k9c1 }
def k9c2 : Code := { maxStack := 6, maxLocals := 11, code := jdk_42_method_11_code, exceptionTable := #[{ startPc := 800, endPc := 813, handlerPc := 816, catchType := 202 }], attributes := #[] }
def k9m2 : Method := { name := "<init>", desc := "(Ljava/nio/charset/Charset;[BII)V", sig := { parameters := [(.object "java/nio/charset/Charset"), (.array .byte), .int, .int], returnType := none }, accessFlags := 2, code := some k9c2 }
def k9c3 : Code := { maxStack := 2, maxLocals := 3, code := jdk_42_method_66_code, exceptionTable := #[], attributes := #[] }
def k9m3 : Method := { name := "equals", desc := "(Ljava/lang/Object;)Z", sig := { parameters := [(.object "java/lang/Object")], returnType := some .boolean }, accessFlags := 1, code := some k9c3 }
def k9c4 : Code := { maxStack := 4, maxLocals := 3, code := jdk_42_method_157_code, exceptionTable := #[], attributes := #[] }
def k9m4 : Method := { name := "checkBoundsOffCount", desc := "(III)I", sig := { parameters := [.int, .int, .int], returnType := some .int }, accessFlags := 8, code := some k9c4 }
/-- java/lang/String -/
def k9 : Class := { plain "java/lang/String" (some 0) with
  accessFlags := 49
  interfaces := #[4, 5, 6, 7, 8]
  cf := some (fileOf pool9 10 #[.nestMembers #[1103]] #[{ accessFlags := 1, nameIndex := 5, descriptorIndex := 6, attributes := #[] }, { accessFlags := 1, nameIndex := 5, descriptorIndex := 238, attributes := #[] }, { accessFlags := 2, nameIndex := 5, descriptorIndex := 77, attributes := #[] }, { accessFlags := 1, nameIndex := 543, descriptorIndex := 573, attributes := #[] }, { accessFlags := 8, nameIndex := 36, descriptorIndex := 37, attributes := #[] }] 49 2 #[1106, 1108, 575, 1110, 1112] #[{ accessFlags := 18, nameIndex := 13, descriptorIndex := 14, attributes := #[] }, { accessFlags := 18, nameIndex := 17, descriptorIndex := 18, attributes := #[] }, { accessFlags := 2, nameIndex := 21, descriptorIndex := 22, attributes := #[] }, { accessFlags := 2, nameIndex := 25, descriptorIndex := 26, attributes := #[] }, { accessFlags := 26, nameIndex := 1116, descriptorIndex := 1117, attributes := #[] }, { accessFlags := 24, nameIndex := 40, descriptorIndex := 26, attributes := #[] }, { accessFlags := 26, nameIndex := 1101, descriptorIndex := 1102, attributes := #[] }, { accessFlags := 26, nameIndex := 1121, descriptorIndex := 1122, attributes := #[] }, { accessFlags := 25, nameIndex := 599, descriptorIndex := 600, attributes := #[] }, { accessFlags := 24, nameIndex := 1125, descriptorIndex := 18, attributes := #[] }, { accessFlags := 24, nameIndex := 1127, descriptorIndex := 18, attributes := #[] }])
  fields := #[{ name := "value", type := (.array .byte), accessFlags := 18, slot := 0, constantValue := 0 }, { name := "coder", type := .byte, accessFlags := 18, slot := 1, constantValue := 0 }, { name := "hash", type := .int, accessFlags := 2, slot := 2, constantValue := 0 }, { name := "hashIsZero", type := .boolean, accessFlags := 2, slot := 3, constantValue := 0 }, { name := "serialVersionUID", type := .long, accessFlags := 26, slot := 0, constantValue := 0 }, { name := "COMPACT_STRINGS", type := .boolean, accessFlags := 24, slot := 1, constantValue := 0 }, { name := "serialPersistentFields", type := (.array (.object "java/io/ObjectStreamField")), accessFlags := 26, slot := 2, constantValue := 0 }, { name := "REPL", type := .char, accessFlags := 26, slot := 3, constantValue := 0 }, { name := "CASE_INSENSITIVE_ORDER", type := (.object "java/util/Comparator"), accessFlags := 25, slot := 4, constantValue := 0 }, { name := "LATIN1", type := .byte, accessFlags := 24, slot := 5, constantValue := 0 }, { name := "UTF16", type := .byte, accessFlags := 24, slot := 6, constantValue := 0 }]
  methods := #[k9m0, k9m1, k9m2, k9m3, k9m4]
  instanceTypes := #[(.array .byte), .byte, .int, .boolean]
  staticTypes := #[.long, .boolean, (.array (.object "java/io/ObjectStreamField")), .char, (.object "java/util/Comparator"), .byte, .byte]
  resolved := Array.replicate 1451 none
  statics := some 0 }

def pool10 : Array CpInfo := pool [(2, .class_ 4), (1, u "java/lang/Object"), (0, u "<init>"), (0, u "()V"), (14, .class_ 23), (1, u "java/nio/charset/StandardCharsets"), (0, u "US_ASCII"), (0, u "Ljava/nio/charset/Charset;"), (7, u "ISO_8859_1"), (7, u "UTF_8"), (5, u "UTF_16BE"), (5, u "UTF_16LE"), (5, u "UTF_16")] 8

def k10m0 : Method := { name := "<init>", desc := "()V", sig := { parameters := [], returnType := none }, accessFlags := 2, code := none }
/-- java/nio/charset/StandardCharsets -/
def k10 : Class := { plain "java/nio/charset/StandardCharsets" (some 0) with
  accessFlags := 49
  interfaces := #[]
  cf := some (fileOf pool10 21 #[] #[{ accessFlags := 2, nameIndex := 5, descriptorIndex := 6, attributes := #[] }] 49 2 #[] #[{ accessFlags := 25, nameIndex := 24, descriptorIndex := 25, attributes := #[] }, { accessFlags := 25, nameIndex := 33, descriptorIndex := 25, attributes := #[] }, { accessFlags := 25, nameIndex := 41, descriptorIndex := 25, attributes := #[] }, { accessFlags := 25, nameIndex := 47, descriptorIndex := 25, attributes := #[] }, { accessFlags := 25, nameIndex := 53, descriptorIndex := 25, attributes := #[] }, { accessFlags := 25, nameIndex := 59, descriptorIndex := 25, attributes := #[] }])
  fields := #[{ name := "US_ASCII", type := (.object "java/nio/charset/Charset"), accessFlags := 25, slot := 0, constantValue := 0 }, { name := "ISO_8859_1", type := (.object "java/nio/charset/Charset"), accessFlags := 25, slot := 1, constantValue := 0 }, { name := "UTF_8", type := (.object "java/nio/charset/Charset"), accessFlags := 25, slot := 2, constantValue := 0 }, { name := "UTF_16BE", type := (.object "java/nio/charset/Charset"), accessFlags := 25, slot := 3, constantValue := 0 }, { name := "UTF_16LE", type := (.object "java/nio/charset/Charset"), accessFlags := 25, slot := 4, constantValue := 0 }, { name := "UTF_16", type := (.object "java/nio/charset/Charset"), accessFlags := 25, slot := 5, constantValue := 0 }]
  methods := #[k10m0]
  instanceTypes := #[]
  staticTypes := #[(.object "java/nio/charset/Charset"), (.object "java/nio/charset/Charset"), (.object "java/nio/charset/Charset"), (.object "java/nio/charset/Charset"), (.object "java/nio/charset/Charset"), (.object "java/nio/charset/Charset")]
  resolved := Array.replicate 68 none
  statics := some 1 }

def pool11 : Array CpInfo := pool [(2, .class_ 4), (1, u "java/lang/Object"), (0, u "<init>"), (0, u "()V"), (35, .class_ 44), (1, u "java/util/Objects"), (0, u "requireNonNull"), (0, u "(Ljava/lang/Object;)Ljava/lang/Object;")] 137

def k11m0 : Method := { name := "<init>", desc := "()V", sig := { parameters := [], returnType := none }, accessFlags := 2, code := none }
def k11c1 : Code := { maxStack := 2, maxLocals := 1, code := jdk_31_method_10_code, exceptionTable := #[], attributes := #[] }
def k11m1 : Method := { name := "requireNonNull", desc := "(Ljava/lang/Object;)Ljava/lang/Object;", sig := { parameters := [(.object "java/lang/Object")], returnType := some (.object "java/lang/Object") }, accessFlags := 9, code := some k11c1 }
/-- java/util/Objects -/
def k11 : Class := { plain "java/util/Objects" (some 0) with
  accessFlags := 49
  interfaces := #[]
  cf := some (fileOf pool11 42 #[] #[{ accessFlags := 2, nameIndex := 5, descriptorIndex := 6, attributes := #[] }, { accessFlags := 9, nameIndex := 45, descriptorIndex := 46, attributes := #[] }] 49 2 #[] #[])
  fields := #[]
  methods := #[k11m0, k11m1]
  instanceTypes := #[]
  staticTypes := #[]
  resolved := Array.replicate 184 none
  statics := none }

def pool12 : Array CpInfo := pool [(18, .class_ 20), (1, u "java/nio/charset/Charset"), (0, u "cache1"), (0, u "[Ljava/lang/Object;"), (2, u "cache2"), (0, .class_ 27), (0, u "java/lang/Object"), (0, .class_ 29), (0, u "java/nio/charset/Charset$1"), (4, .class_ 36), (1, u "java/nio/charset/Charset$ThreadTrackHolder"), (21, .class_ 59), (0, u "java/nio/charset/Charset$2"), (11, .class_ 73), (1, u "java/nio/charset/Charset$ExtendedProviderHolder"), (22, u "standardProvider"), (0, u "Ljava/nio/charset/spi/CharsetProvider;"), (29, u "name"), (7, .class_ 136), (0, u "java/nio/charset/Charset$3"), (5, u "defaultCharset"), (0, u "Ljava/nio/charset/Charset;"), (14, u "zeroAliases"), (0, u "[Ljava/lang/String;"), (29, u "Ljava/lang/String;"), (2, u "aliases"), (2, u "aliasSet"), (0, u "Ljava/util/Set;"), (82, .class_ 280), (0, u "java/lang/Comparable"), (84, .class_ 366), (0, u "java/nio/charset/Charset$ExtendedProviderHolder$1")] 3

/-- java/nio/charset/Charset -/
def k12 : Class := { plain "java/nio/charset/Charset" (some 0) with
  accessFlags := 1057
  interfaces := #[5]
  cf := some (fileOf pool12 18 #[.nestMembers #[71, 365, 34, 135, 58, 28]] #[] 1057 26 #[279] #[{ accessFlags := 26, nameIndex := 96, descriptorIndex := 97, attributes := #[] }, { accessFlags := 26, nameIndex := 158, descriptorIndex := 159, attributes := #[] }, { accessFlags := 74, nameIndex := 21, descriptorIndex := 22, attributes := #[] }, { accessFlags := 74, nameIndex := 25, descriptorIndex := 22, attributes := #[] }, { accessFlags := 10, nameIndex := 142, descriptorIndex := 143, attributes := #[] }, { accessFlags := 18, nameIndex := 127, descriptorIndex := 189, attributes := #[] }, { accessFlags := 18, nameIndex := 192, descriptorIndex := 159, attributes := #[] }, { accessFlags := 2, nameIndex := 195, descriptorIndex := 196, attributes := #[] }])
  fields := #[{ name := "standardProvider", type := (.object "java/nio/charset/spi/CharsetProvider"), accessFlags := 26, slot := 0, constantValue := 0 }, { name := "zeroAliases", type := (.array (.object "java/lang/String")), accessFlags := 26, slot := 1, constantValue := 0 }, { name := "cache1", type := (.array (.object "java/lang/Object")), accessFlags := 74, slot := 2, constantValue := 0 }, { name := "cache2", type := (.array (.object "java/lang/Object")), accessFlags := 74, slot := 3, constantValue := 0 }, { name := "defaultCharset", type := (.object "java/nio/charset/Charset"), accessFlags := 10, slot := 4, constantValue := 0 }, { name := "name", type := (.object "java/lang/String"), accessFlags := 18, slot := 0, constantValue := 0 }, { name := "aliases", type := (.array (.object "java/lang/String")), accessFlags := 18, slot := 1, constantValue := 0 }, { name := "aliasSet", type := (.object "java/util/Set"), accessFlags := 2, slot := 2, constantValue := 0 }]
  methods := #[]
  instanceTypes := #[(.object "java/lang/String"), (.array (.object "java/lang/String")), (.object "java/util/Set")]
  staticTypes := #[(.object "java/nio/charset/spi/CharsetProvider"), (.array (.object "java/lang/String")), (.array (.object "java/lang/Object")), (.array (.object "java/lang/Object")), (.object "java/nio/charset/Charset")]
  resolved := Array.replicate 370 none
  statics := none }

def pool13 : Array CpInfo := pool [(1, .class_ 2), (0, u "sun/nio/cs/HistoricallyNamedCharset"), (0, .class_ 4), (0, u "java/lang/Object")] 4

/-- sun/nio/cs/HistoricallyNamedCharset -/
def k13 : Class := { plain "sun/nio/cs/HistoricallyNamedCharset" (some 0) with
  accessFlags := 1537
  interfaces := #[]
  cf := some (fileOf pool13 1 #[] #[] 1537 3 #[] #[])
  fields := #[]
  methods := #[]
  instanceTypes := #[]
  staticTypes := #[]
  resolved := Array.replicate 9 none
  statics := none }

def pool14 : Array CpInfo := pool [(2, .class_ 4), (1, u "java/nio/charset/Charset"), (130, .class_ 136), (0, u "sun/nio/cs/Unicode"), (0, .class_ 138), (0, u "sun/nio/cs/HistoricallyNamedCharset")] 15

/-- sun/nio/cs/Unicode -/
def k14 : Class := { plain "sun/nio/cs/Unicode" (some 12) with
  accessFlags := 1056
  interfaces := #[13]
  cf := some (fileOf pool14 135 #[] #[] 1056 2 #[137] #[])
  fields := #[]
  methods := #[]
  instanceTypes := #[(.object "java/lang/String"), (.array (.object "java/lang/String")), (.object "java/util/Set")]
  staticTypes := #[]
  resolved := Array.replicate 154 none
  statics := none }

def pool15 : Array CpInfo := pool [(10, .class_ 12), (1, u "sun/nio/cs/Unicode"), (0, u "<init>"), (3, .class_ 18), (0, u "sun/nio/cs/UTF_8$Decoder"), (3, .class_ 23), (0, u "sun/nio/cs/UTF_8$Encoder"), (15, .class_ 40), (0, u "sun/nio/cs/UTF_8"), (2, u "()V"), (2, u "INSTANCE"), (0, u "Lsun/nio/cs/UTF_8;"), (8, u "JLA"), (0, u "Ljdk/internal/access/JavaLangAccess;")] 26

def k15m0 : Method := { name := "<init>", desc := "()V", sig := { parameters := [], returnType := none }, accessFlags := 1, code := none }
/-- sun/nio/cs/UTF_8 -/
def k15 : Class := { plain "sun/nio/cs/UTF_8" (some 14) with
  accessFlags := 49
  interfaces := #[]
  cf := some (fileOf pool15 39 #[.nestMembers #[22, 17]] #[{ accessFlags := 1, nameIndex := 13, descriptorIndex := 43, attributes := #[] }] 49 10 #[] #[{ accessFlags := 25, nameIndex := 46, descriptorIndex := 47, attributes := #[] }, { accessFlags := 26, nameIndex := 56, descriptorIndex := 57, attributes := #[] }])
  fields := #[{ name := "INSTANCE", type := (.object "sun/nio/cs/UTF_8"), accessFlags := 25, slot := 0, constantValue := 0 }, { name := "JLA", type := (.object "jdk/internal/access/JavaLangAccess"), accessFlags := 26, slot := 1, constantValue := 0 }]
  methods := #[k15m0]
  instanceTypes := #[(.object "java/lang/String"), (.array (.object "java/lang/String")), (.object "java/util/Set")]
  staticTypes := #[(.object "sun/nio/cs/UTF_8"), (.object "jdk/internal/access/JavaLangAccess")]
  resolved := Array.replicate 84 none
  statics := some 2 }

def pool16 : Array CpInfo := pool [(2, .class_ 4), (1, u "java/lang/Object"), (0, u "<init>"), (0, u "()V"), (17, .class_ 26), (1, u "jdk/internal/util/Preconditions"), (22, u "checkFromIndexSize"), (5, .class_ 56), (0, u "jdk/internal/util/Preconditions$4"), (57, .class_ 115), (0, u "jdk/internal/util/Preconditions$1"), (7, u "SIOOBE_FORMATTER"), (0, u "Ljava/util/function/BiFunction;"), (0, .class_ 126), (0, u "jdk/internal/util/Preconditions$2"), (3, u "AIOOBE_FORMATTER"), (0, .class_ 132), (0, u "jdk/internal/util/Preconditions$3"), (3, u "IOOBE_FORMATTER"), (46, u "(IIILjava/util/function/BiFunction;)I")] 10

def k16m0 : Method := { name := "<init>", desc := "()V", sig := { parameters := [], returnType := none }, accessFlags := 1, code := none }
def k16c1 : Code := { maxStack := 4, maxLocals := 4, code := jdk_41_method_13_code, exceptionTable := #[], attributes := #[] }
def k16m1 : Method := { name := "checkFromIndexSize", desc := "(IIILjava/util/function/BiFunction;)I", sig := { parameters := [.int, .int, .int, (.object "java/util/function/BiFunction")], returnType := some .int }, accessFlags := 9, code := some k16c1 }
/-- jdk/internal/util/Preconditions -/
def k16 : Class := { plain "jdk/internal/util/Preconditions" (some 0) with
  accessFlags := 33
  interfaces := #[]
  cf := some (fileOf pool16 24 #[.nestMembers #[55, 131, 125, 114]] #[{ accessFlags := 1, nameIndex := 5, descriptorIndex := 6, attributes := #[] }, { accessFlags := 9, nameIndex := 49, descriptorIndex := 183, attributes := #[] }] 33 2 #[] #[{ accessFlags := 25, nameIndex := 123, descriptorIndex := 124, attributes := #[] }, { accessFlags := 25, nameIndex := 130, descriptorIndex := 124, attributes := #[] }, { accessFlags := 25, nameIndex := 136, descriptorIndex := 124, attributes := #[] }])
  fields := #[{ name := "SIOOBE_FORMATTER", type := (.object "java/util/function/BiFunction"), accessFlags := 25, slot := 0, constantValue := 0 }, { name := "AIOOBE_FORMATTER", type := (.object "java/util/function/BiFunction"), accessFlags := 25, slot := 1, constantValue := 0 }, { name := "IOOBE_FORMATTER", type := (.object "java/util/function/BiFunction"), accessFlags := 25, slot := 2, constantValue := 0 }]
  methods := #[k16m0, k16m1]
  instanceTypes := #[]
  staticTypes := #[(.object "java/util/function/BiFunction"), (.object "java/util/function/BiFunction"), (.object "java/util/function/BiFunction")]
  resolved := Array.replicate 194 none
  statics := some 3 }

def pool17 : Array CpInfo := pool [(2, .class_ 4), (1, u "java/lang/Object"), (0, u "<init>"), (0, u "()V"), (1, .class_ 10), (1, u "java/lang/StringCoding"), (0, u "countPositives"), (0, u "([BII)I")] 36

def k17m0 : Method := { name := "<init>", desc := "()V", sig := { parameters := [], returnType := none }, accessFlags := 2, code := none }
def k17c1 : Code := { maxStack := 2, maxLocals := 5, code := jdk_123_method_3_code, exceptionTable := #[], attributes := #[] }
def k17m1 : Method := { name := "countPositives", desc := "([BII)I", sig := { parameters := [(.array .byte), .int, .int], returnType := some .int }, accessFlags := 9, code := some k17c1 }
/-- java/lang/StringCoding -/
def k17 : Class := { plain "java/lang/StringCoding" (some 0) with
  accessFlags := 32
  interfaces := #[]
  cf := some (fileOf pool17 8 #[] #[{ accessFlags := 2, nameIndex := 5, descriptorIndex := 6, attributes := #[] }, { accessFlags := 9, nameIndex := 11, descriptorIndex := 12, attributes := #[] }] 32 2 #[] #[])
  fields := #[]
  methods := #[k17m0, k17m1]
  instanceTypes := #[]
  staticTypes := #[]
  resolved := Array.replicate 49 none
  statics := none }

def pool18 : Array CpInfo := pool [(2, .class_ 4), (1, u "java/lang/Object"), (0, u "<init>"), (0, u "()V"), (7, .class_ 16), (1, u "java/util/Arrays"), (57, .class_ 76), (1, u "java/util/Arrays$NaturalOrder"), (36, .class_ 115), (1, u "java/util/Arrays$LegacyMergeSort"), (1, u "Z"), (21, u "copyOfRange"), (10, .methodref 151 152), (0, .class_ 153), (0, .nameAndType 154 155), (0, u "java/lang/System"), (0, u "arraycopy"), (0, u "(Ljava/lang/Object;ILjava/lang/Object;II)V"), (148, .methodref 305 306), (0, .class_ 307), (0, .nameAndType 308 309), (0, u "java/lang/Math"), (0, u "min"), (0, u "(II)I"), (29, .methodref 14 340), (0, .nameAndType 341 342), (0, u "copyOfRangeByte"), (0, u "([BII)[B"), (0, .methodref 14 344), (0, .nameAndType 345 346), (0, u "checkLength"), (0, u "(II)V"), (28, .class_ 376), (0, u "java/util/Arrays$ArrayList"), (68, u "$assertionsDisabled"), (269, u "MIN_ARRAY_SORT_GRAN"), (0, u "I"), (2, u "INSERTIONSORT_THRESHOLD"), (255, .class_ 976), (0, u "java/util/Arrays$ArrayItr")] 52

def k18m0 : Method := { name := "<init>", desc := "()V", sig := { parameters := [], returnType := none }, accessFlags := 2, code := none }
def k18c1 : Code := { maxStack := 4, maxLocals := 2, code := jdk_65_method_131_code, exceptionTable := #[], attributes := #[] }
def k18m1 : Method := { name := "checkLength", desc := "(II)V", sig := { parameters := [.int, .int], returnType := none }, accessFlags := 10, code := some k18c1 }
def k18c2 : Code := { maxStack := 3, maxLocals := 3, code := jdk_65_method_132_code, exceptionTable := #[], attributes := #[] }
def k18m2 : Method := { name := "copyOfRange", desc := "([BII)[B", sig := { parameters := [(.array .byte), .int, .int], returnType := some (.array .byte) }, accessFlags := 9, code := some k18c2 }
def k18c3 : Code := { maxStack := 6, maxLocals := 5, code := jdk_65_method_133_code, exceptionTable := #[], attributes := #[] }
def k18m3 : Method := { name := "copyOfRangeByte", desc := "([BII)[B", sig := { parameters := [(.array .byte), .int, .int], returnType := some (.array .byte) }, accessFlags := 10, code := some k18c3 }
/-- java/util/Arrays -/
def k18 : Class := { plain "java/util/Arrays" (some 0) with
  accessFlags := 49
  interfaces := #[]
  cf := some (fileOf pool18 14 #[.nestMembers #[975, 375, 113, 74]] #[{ accessFlags := 2, nameIndex := 5, descriptorIndex := 6, attributes := #[] }, { accessFlags := 10, nameIndex := 345, descriptorIndex := 346, attributes := #[] }, { accessFlags := 9, nameIndex := 139, descriptorIndex := 342, attributes := #[] }, { accessFlags := 10, nameIndex := 341, descriptorIndex := 342, attributes := #[] }] 49 2 #[] #[{ accessFlags := 26, nameIndex := 715, descriptorIndex := 716, attributes := #[] }, { accessFlags := 26, nameIndex := 719, descriptorIndex := 716, attributes := #[] }, { accessFlags := 4120, nameIndex := 445, descriptorIndex := 117, attributes := #[] }])
  fields := #[{ name := "MIN_ARRAY_SORT_GRAN", type := .int, accessFlags := 26, slot := 0, constantValue := 0 }, { name := "INSERTIONSORT_THRESHOLD", type := .int, accessFlags := 26, slot := 1, constantValue := 0 }, { name := "$assertionsDisabled", type := .boolean, accessFlags := 4120, slot := 2, constantValue := 0 }]
  methods := #[k18m0, k18m1, k18m2, k18m3]
  instanceTypes := #[]
  staticTypes := #[.int, .int, .boolean]
  resolved := Array.replicate 1029 none
  statics := none }

def pool19 : Array CpInfo := pool [(1, .class_ 2), (0, u "java/lang/Math"), (1, .class_ 6), (1, u "java/lang/Object"), (0, u "<init>"), (0, u "()V"), (89, .class_ 100), (1, u "java/lang/Math$RandomNumberGeneratorHolder"), (71, u "negativeZeroFloatBits"), (0, u "J"), (2, u "negativeZeroDoubleBits"), (24, u "min"), (43, u "$assertionsDisabled"), (0, u "Z"), (88, u "(II)I"), (2, u "twoToTheDoubleScaleDown"), (0, u "D"), (4, u "twoToTheDoubleScaleUp"), (9, u "E"), (3, u "PI"), (2, u "TAU"), (2, u "DEGREES_TO_RADIANS"), (0, u "RADIANS_TO_DEGREES")] 94

def k19m0 : Method := { name := "<init>", desc := "()V", sig := { parameters := [], returnType := none }, accessFlags := 2, code := none }
def k19c1 : Code := { maxStack := 2, maxLocals := 2, code := jdk_29_method_69_code, exceptionTable := #[], attributes := #[] }
def k19m1 : Method := { name := "min", desc := "(II)I", sig := { parameters := [.int, .int], returnType := some .int }, accessFlags := 9, code := some k19c1 }
/-- java/lang/Math -/
def k19 : Class := { plain "java/lang/Math" (some 0) with
  accessFlags := 49
  interfaces := #[]
  cf := some (fileOf pool19 1 #[.nestMembers #[98]] #[{ accessFlags := 2, nameIndex := 7, descriptorIndex := 8, attributes := #[] }, { accessFlags := 9, nameIndex := 201, descriptorIndex := 335, attributes := #[] }] 49 4 #[] #[{ accessFlags := 25, nameIndex := 354, descriptorIndex := 339, attributes := #[] }, { accessFlags := 25, nameIndex := 358, descriptorIndex := 339, attributes := #[] }, { accessFlags := 25, nameIndex := 361, descriptorIndex := 339, attributes := #[] }, { accessFlags := 26, nameIndex := 364, descriptorIndex := 339, attributes := #[] }, { accessFlags := 26, nameIndex := 365, descriptorIndex := 339, attributes := #[] }, { accessFlags := 26, nameIndex := 172, descriptorIndex := 173, attributes := #[] }, { accessFlags := 26, nameIndex := 176, descriptorIndex := 173, attributes := #[] }, { accessFlags := 8, nameIndex := 344, descriptorIndex := 339, attributes := #[] }, { accessFlags := 8, nameIndex := 338, descriptorIndex := 339, attributes := #[] }, { accessFlags := 4120, nameIndex := 245, descriptorIndex := 246, attributes := #[] }])
  fields := #[{ name := "E", type := .double, accessFlags := 25, slot := 0, constantValue := 0 }, { name := "PI", type := .double, accessFlags := 25, slot := 1, constantValue := 0 }, { name := "TAU", type := .double, accessFlags := 25, slot := 2, constantValue := 0 }, { name := "DEGREES_TO_RADIANS", type := .double, accessFlags := 26, slot := 3, constantValue := 0 }, { name := "RADIANS_TO_DEGREES", type := .double, accessFlags := 26, slot := 4, constantValue := 0 }, { name := "negativeZeroFloatBits", type := .long, accessFlags := 26, slot := 5, constantValue := 0 }, { name := "negativeZeroDoubleBits", type := .long, accessFlags := 26, slot := 6, constantValue := 0 }, { name := "twoToTheDoubleScaleUp", type := .double, accessFlags := 8, slot := 7, constantValue := 0 }, { name := "twoToTheDoubleScaleDown", type := .double, accessFlags := 8, slot := 8, constantValue := 0 }, { name := "$assertionsDisabled", type := .boolean, accessFlags := 4120, slot := 9, constantValue := 0 }]
  methods := #[k19m0, k19m1]
  instanceTypes := #[]
  staticTypes := #[.double, .double, .double, .double, .double, .long, .long, .double, .double, .boolean]
  resolved := Array.replicate 460 none
  statics := none }

def pool20 : Array CpInfo := pool [(2, .class_ 4), (1, u "java/lang/Object"), (0, u "<init>"), (0, u "()V"), (1, .class_ 10), (1, u "java/lang/System"), (0, u "allowSecurityManager"), (0, u "I"), (16, u "cons"), (0, u "Ljava/io/Console;"), (77, .class_ 110), (1, u "java/lang/System$CallersHolder"), (43, u "initialErrStream"), (0, u "Ljava/io/PrintStream;"), (19, u "security"), (0, u "Ljava/lang/SecurityManager;"), (31, .class_ 209), (0, u "java/lang/System$1"), (7, u "props"), (0, u "Ljava/util/Properties;"), (2, u "lineSeparator"), (0, u "Ljava/lang/String;"), (96, .class_ 321), (1, u "java/lang/System$LoggerFinder"), (5, .class_ 328), (0, u "java/lang/System$Logger"), (67, u "err"), (2, u "out"), (91, u "notSupportedJnuEncoding"), (15, u "in"), (17, u "initialIn"), (0, u "Ljava/io/InputStream;"), (35, u "bootLayer"), (0, u "Ljava/lang/ModuleLayer;"), (99, .class_ 664), (0, u "java/lang/System$2"), (9, u "NEVER"), (2, u "MAYBE"), (49, u "arraycopy"), (0, u "(Ljava/lang/Object;ILjava/lang/Object;II)V"), (72, .class_ 802), (0, u "java/lang/System$Logger$Level")] 31

def k20m0 : Method := { name := "<init>", desc := "()V", sig := { parameters := [], returnType := none }, accessFlags := 2, code := none }
def k20m1 : Method := { name := "arraycopy", desc := "(Ljava/lang/Object;ILjava/lang/Object;II)V", sig := { parameters := [(.object "java/lang/Object"), .int, (.object "java/lang/Object"), .int, .int], returnType := none }, accessFlags := 265, code := none }
/-- java/lang/System -/
def k20 : Class := { plain "java/lang/System" (some 0) with
  accessFlags := 49
  interfaces := #[]
  cf := some (fileOf pool20 8 #[.nestMembers #[319, 327, 801, 108, 663, 208]] #[{ accessFlags := 2, nameIndex := 5, descriptorIndex := 6, attributes := #[] }, { accessFlags := 265, nameIndex := 727, descriptorIndex := 728, attributes := #[] }] 49 2 #[] #[{ accessFlags := 25, nameIndex := 507, descriptorIndex := 526, attributes := #[] }, { accessFlags := 25, nameIndex := 399, descriptorIndex := 155, attributes := #[] }, { accessFlags := 25, nameIndex := 396, descriptorIndex := 155, attributes := #[] }, { accessFlags := 10, nameIndex := 525, descriptorIndex := 526, attributes := #[] }, { accessFlags := 26, nameIndex := 674, descriptorIndex := 12, attributes := #[] }, { accessFlags := 26, nameIndex := 677, descriptorIndex := 12, attributes := #[] }, { accessFlags := 10, nameIndex := 11, descriptorIndex := 12, attributes := #[] }, { accessFlags := 74, nameIndex := 175, descriptorIndex := 176, attributes := #[] }, { accessFlags := 10, nameIndex := 491, descriptorIndex := 222, attributes := #[] }, { accessFlags := 74, nameIndex := 29, descriptorIndex := 30, attributes := #[] }, { accessFlags := 74, nameIndex := 154, descriptorIndex := 155, attributes := #[] }, { accessFlags := 10, nameIndex := 217, descriptorIndex := 218, attributes := #[] }, { accessFlags := 10, nameIndex := 221, descriptorIndex := 222, attributes := #[] }, { accessFlags := 8, nameIndex := 562, descriptorIndex := 563, attributes := #[] }])
  fields := #[{ name := "in", type := (.object "java/io/InputStream"), accessFlags := 25, slot := 0, constantValue := 0 }, { name := "out", type := (.object "java/io/PrintStream"), accessFlags := 25, slot := 1, constantValue := 0 }, { name := "err", type := (.object "java/io/PrintStream"), accessFlags := 25, slot := 2, constantValue := 0 }, { name := "initialIn", type := (.object "java/io/InputStream"), accessFlags := 10, slot := 3, constantValue := 0 }, { name := "NEVER", type := .int, accessFlags := 26, slot := 4, constantValue := 0 }, { name := "MAYBE", type := .int, accessFlags := 26, slot := 5, constantValue := 0 }, { name := "allowSecurityManager", type := .int, accessFlags := 10, slot := 6, constantValue := 0 }, { name := "security", type := (.object "java/lang/SecurityManager"), accessFlags := 74, slot := 7, constantValue := 0 }, { name := "notSupportedJnuEncoding", type := (.object "java/lang/String"), accessFlags := 10, slot := 8, constantValue := 0 }, { name := "cons", type := (.object "java/io/Console"), accessFlags := 74, slot := 9, constantValue := 0 }, { name := "initialErrStream", type := (.object "java/io/PrintStream"), accessFlags := 74, slot := 10, constantValue := 0 }, { name := "props", type := (.object "java/util/Properties"), accessFlags := 10, slot := 11, constantValue := 0 }, { name := "lineSeparator", type := (.object "java/lang/String"), accessFlags := 10, slot := 12, constantValue := 0 }, { name := "bootLayer", type := (.object "java/lang/ModuleLayer"), accessFlags := 8, slot := 13, constantValue := 0 }]
  methods := #[k20m0, k20m1]
  instanceTypes := #[]
  staticTypes := #[(.object "java/io/InputStream"), (.object "java/io/PrintStream"), (.object "java/io/PrintStream"), (.object "java/io/InputStream"), .int, .int, .int, (.object "java/lang/SecurityManager"), (.object "java/lang/String"), (.object "java/io/Console"), (.object "java/io/PrintStream"), (.object "java/util/Properties"), (.object "java/lang/String"), (.object "java/lang/ModuleLayer")]
  resolved := Array.replicate 834 none
  statics := none }

def pool21 : Array CpInfo := pool [(4, .class_ 6), (1, u "java/lang/Object"), (0, u "<init>"), (0, u "()V"), (5, .class_ 16), (1, u "java/lang/StringLatin1"), (104, u "$assertionsDisabled"), (0, u "Z"), (98, .class_ 223), (1, u "java/lang/StringLatin1$LinesSpliterator"), (57, u "equals"), (0, u "([B[B)Z"), (107, .class_ 391), (0, u "java/lang/StringLatin1$CharsSpliterator")] 3

def k21m0 : Method := { name := "<init>", desc := "()V", sig := { parameters := [], returnType := none }, accessFlags := 0, code := none }
def k21c1 : Code := { maxStack := 3, maxLocals := 3, code := jdk_43_method_13_code, exceptionTable := #[], attributes := #[] }
def k21m1 : Method := { name := "equals", desc := "([B[B)Z", sig := { parameters := [(.array .byte), (.array .byte)], returnType := some .boolean }, accessFlags := 9, code := some k21c1 }
/-- java/lang/StringLatin1 -/
def k21 : Class := { plain "java/lang/StringLatin1" (some 0) with
  accessFlags := 48
  interfaces := #[]
  cf := some (fileOf pool21 14 #[.nestMembers #[390, 221]] #[{ accessFlags := 0, nameIndex := 7, descriptorIndex := 8, attributes := #[] }, { accessFlags := 9, nameIndex := 281, descriptorIndex := 282, attributes := #[] }] 48 4 #[] #[{ accessFlags := 4120, nameIndex := 121, descriptorIndex := 122, attributes := #[] }])
  fields := #[{ name := "$assertionsDisabled", type := .boolean, accessFlags := 4120, slot := 0, constantValue := 0 }]
  methods := #[k21m0, k21m1]
  instanceTypes := #[]
  staticTypes := #[.boolean]
  resolved := Array.replicate 395 none
  statics := none }

def pool22 : Array CpInfo := pool [(9, u "<init>"), (6, .class_ 18), (1, u "java/lang/Object"), (0, u "()V"), (1, .class_ 23), (1, u "jdk/internal/util/ArraysSupport"), (0, u "LOG2_ARRAY_LONG_INDEX_SCALE"), (0, u "I"), (2, u "U"), (0, u "Ljdk/internal/misc/Unsafe;"), (8, u "BIG_ENDIAN"), (0, u "Z"), (8, u "LOG2_BYTE_BIT_SIZE"), (4, u "LOG2_ARRAY_INT_INDEX_SCALE"), (54, u "JLA"), (0, u "Ljdk/internal/access/JavaLangAccess;"), (11, u "LOG2_ARRAY_BOOLEAN_INDEX_SCALE"), (9, u "LOG2_ARRAY_BYTE_INDEX_SCALE"), (5, u "LOG2_ARRAY_CHAR_INDEX_SCALE"), (5, u "LOG2_ARRAY_SHORT_INDEX_SCALE"), (18, u "LOG2_ARRAY_FLOAT_INDEX_SCALE"), (24, u "LOG2_ARRAY_DOUBLE_INDEX_SCALE"), (89, u "T_BOOLEAN"), (2, u "T_CHAR"), (1, u "T_FLOAT"), (1, u "T_DOUBLE"), (1, u "T_BYTE"), (1, u "T_SHORT"), (1, u "T_INT"), (1, u "T_LONG"), (1, u "SOFT_MAX_ARRAY_LENGTH")] 83

def k22m0 : Method := { name := "<init>", desc := "()V", sig := { parameters := [], returnType := none }, accessFlags := 2, code := none }
/-- jdk/internal/util/ArraysSupport -/
def k22 : Class := { plain "jdk/internal/util/ArraysSupport" (some 0) with
  accessFlags := 33
  interfaces := #[]
  cf := some (fileOf pool22 21 #[] #[{ accessFlags := 2, nameIndex := 9, descriptorIndex := 19, attributes := #[] }] 33 16 #[] #[{ accessFlags := 24, nameIndex := 28, descriptorIndex := 29, attributes := #[] }, { accessFlags := 26, nameIndex := 38, descriptorIndex := 39, attributes := #[] }, { accessFlags := 25, nameIndex := 121, descriptorIndex := 25, attributes := #[] }, { accessFlags := 25, nameIndex := 131, descriptorIndex := 25, attributes := #[] }, { accessFlags := 25, nameIndex := 137, descriptorIndex := 25, attributes := #[] }, { accessFlags := 25, nameIndex := 143, descriptorIndex := 25, attributes := #[] }, { accessFlags := 25, nameIndex := 53, descriptorIndex := 25, attributes := #[] }, { accessFlags := 25, nameIndex := 24, descriptorIndex := 25, attributes := #[] }, { accessFlags := 25, nameIndex := 162, descriptorIndex := 25, attributes := #[] }, { accessFlags := 25, nameIndex := 187, descriptorIndex := 25, attributes := #[] }, { accessFlags := 26, nameIndex := 48, descriptorIndex := 25, attributes := #[] }, { accessFlags := 25, nameIndex := 277, descriptorIndex := 25, attributes := #[] }, { accessFlags := 25, nameIndex := 280, descriptorIndex := 25, attributes := #[] }, { accessFlags := 25, nameIndex := 282, descriptorIndex := 25, attributes := #[] }, { accessFlags := 25, nameIndex := 284, descriptorIndex := 25, attributes := #[] }, { accessFlags := 25, nameIndex := 286, descriptorIndex := 25, attributes := #[] }, { accessFlags := 25, nameIndex := 288, descriptorIndex := 25, attributes := #[] }, { accessFlags := 25, nameIndex := 290, descriptorIndex := 25, attributes := #[] }, { accessFlags := 25, nameIndex := 292, descriptorIndex := 25, attributes := #[] }, { accessFlags := 26, nameIndex := 108, descriptorIndex := 109, attributes := #[] }, { accessFlags := 25, nameIndex := 294, descriptorIndex := 25, attributes := #[] }])
  fields := #[{ name := "U", type := (.object "jdk/internal/misc/Unsafe"), accessFlags := 24, slot := 0, constantValue := 0 }, { name := "BIG_ENDIAN", type := .boolean, accessFlags := 26, slot := 1, constantValue := 0 }, { name := "LOG2_ARRAY_BOOLEAN_INDEX_SCALE", type := .int, accessFlags := 25, slot := 2, constantValue := 0 }, { name := "LOG2_ARRAY_BYTE_INDEX_SCALE", type := .int, accessFlags := 25, slot := 3, constantValue := 0 }, { name := "LOG2_ARRAY_CHAR_INDEX_SCALE", type := .int, accessFlags := 25, slot := 4, constantValue := 0 }, { name := "LOG2_ARRAY_SHORT_INDEX_SCALE", type := .int, accessFlags := 25, slot := 5, constantValue := 0 }, { name := "LOG2_ARRAY_INT_INDEX_SCALE", type := .int, accessFlags := 25, slot := 6, constantValue := 0 }, { name := "LOG2_ARRAY_LONG_INDEX_SCALE", type := .int, accessFlags := 25, slot := 7, constantValue := 0 }, { name := "LOG2_ARRAY_FLOAT_INDEX_SCALE", type := .int, accessFlags := 25, slot := 8, constantValue := 0 }, { name := "LOG2_ARRAY_DOUBLE_INDEX_SCALE", type := .int, accessFlags := 25, slot := 9, constantValue := 0 }, { name := "LOG2_BYTE_BIT_SIZE", type := .int, accessFlags := 26, slot := 10, constantValue := 0 }, { name := "T_BOOLEAN", type := .int, accessFlags := 25, slot := 11, constantValue := 0 }, { name := "T_CHAR", type := .int, accessFlags := 25, slot := 12, constantValue := 0 }, { name := "T_FLOAT", type := .int, accessFlags := 25, slot := 13, constantValue := 0 }, { name := "T_DOUBLE", type := .int, accessFlags := 25, slot := 14, constantValue := 0 }, { name := "T_BYTE", type := .int, accessFlags := 25, slot := 15, constantValue := 0 }, { name := "T_SHORT", type := .int, accessFlags := 25, slot := 16, constantValue := 0 }, { name := "T_INT", type := .int, accessFlags := 25, slot := 17, constantValue := 0 }, { name := "T_LONG", type := .int, accessFlags := 25, slot := 18, constantValue := 0 }, { name := "JLA", type := (.object "jdk/internal/access/JavaLangAccess"), accessFlags := 26, slot := 19, constantValue := 0 }, { name := "SOFT_MAX_ARRAY_LENGTH", type := .int, accessFlags := 25, slot := 20, constantValue := 0 }]
  methods := #[k22m0]
  instanceTypes := #[]
  staticTypes := #[(.object "jdk/internal/misc/Unsafe"), .boolean, .int, .int, .int, .int, .int, .int, .int, .int, .int, .int, .int, .int, .int, .int, .int, .int, .int, (.object "jdk/internal/access/JavaLangAccess"), .int]
  resolved := Array.replicate 378 none
  statics := none }

def pool23 : Array CpInfo := pool [(1, u "java/lang/Cloneable"), (0, .class_ 1), (0, u "java/lang/Object"), (0, .class_ 3)] 3

/-- java/lang/Cloneable -/
def k23 : Class := { plain "java/lang/Cloneable" (some 0) with
  accessFlags := 1537
  interfaces := #[]
  cf := some (fileOf pool23 2 #[] #[] 1537 4 #[] #[])
  fields := #[]
  methods := #[]
  instanceTypes := #[]
  staticTypes := #[]
  resolved := Array.replicate 8 none
  statics := none }

/-- the primitive byte -/
def k24 : Class := { plain "byte" none with kind := .primitive 'B', accessFlags := 0x411 }
/-- [B -/
def k25 : Class := { plain "[B" (some 0) with kind := .array 24 .byte, interfaces := #[23, 4], accessFlags := 1041 }

/-- the primitive int -/
def k26 : Class := { plain "int" none with kind := .primitive 'I', accessFlags := 0x411 }
/-- [I -/
def k27 : Class := { plain "[I" (some 0) with kind := .array 26 .int, interfaces := #[23, 4], accessFlags := 1041 }

def heap : Heap := #[{ cls := 9, slots := #[.long 0, .int 1, .null, .int 0, .null, .int 0, .int 0], vm := .statics 9 },
  { cls := 10, slots := #[.null, .null, .ref 4, .null, .null, .null], vm := .statics 10 },
  { cls := 15, slots := #[.ref 4, .null], vm := .statics 15 },
  { cls := 16, slots := #[.null, .null, .null], vm := .statics 16 },
  { cls := 15, slots := #[.null, .null, .null], vm := .none }]
def classes : Array Class := #[k0, k1, k2, k3, k4, k5, k6, k7, k8, k9, k10, k11, k12, k13, k14, k15, k16, k17, k18, k19, k20, k21, k22, k23, k24, k25, k26, k27]
def interned : List (Array UInt16 × Addr) := []
def slotsUsed : Nat := 21
def theMethod : MethodId := ⟨1, 2⟩
def args0 : Array Value := #[.int 34, .int 32, .int 0, .int 0, .int 1]
def aboutOver (below : List Frame) : State where
  vm := { classes := classes, interned := interned.toArray }
  heap := heap
  slotsUsed := slotsUsed
  threads := #[{ frames := .invoking theMethod args0 :: below }]
def below0 : List Frame := [.native { method := ⟨0, 0⟩, args := #[] }]
def about1 : State := aboutOver below0
def p0 : Program := .bare "" "" ""
def e0 : Env := launch0.env 0 0 0
theorem w_frames : about1.frames = Frame.invoking theMethod args0 :: below0 := rfl
set_option maxRecDepth 65536 in
theorem w_args : argsFit about1.vm theMethod args0 = true := by decide +kernel
set_option maxRecDepth 65536 in
theorem w_heap : heapFits about1 = true := by decide +kernel
set_option maxRecDepth 65536 in
theorem w_runnable : about1.curStatus? = some .runnable := by decide +kernel
set_option maxRecDepth 65536 in
theorem w_alone : about1.alone = true := by decide +kernel
set_option maxRecDepth 65536 in
theorem w_named : about1.methodNamed? x = some theMethod := by decide +kernel
set_option maxRecDepth 65536 in
theorem w_hears : about1.hears theMethod below0 = true := by decide +kernel
set_option maxRecDepth 65536 in
theorem w_ripe : about1.ripe theMethod args0 below0 = true := by decide +kernel
theorem w_running : about1.status = .running := rfl
set_option maxRecDepth 65536 in
theorem w_room : about1.hasRoom e0.platform room_1 = true :=
  launch0.hasRoom_least _ room_1 (by decide +kernel) (by decide +kernel) (by decide +kernel) (by decide +kernel) (by decide +kernel) (by decide +kernel)
theorem allAtoms_all (ts : List Jvm.Cond) (a : Array Jvm.Value) (st : Jvm.State) : (allAtoms ts).before a st = ts.all (fun c => c.before a st) := by
  induction ts with
  | nil => rfl
  | cons c t ih =>
    show (Jvm.Cond.and c (allAtoms t)).before a st = _
    rw [Jvm.Cond.before_and, ih, List.all_cons]
def words1 : List Jvm.Cond := Jvm.Cond.code x code maxLocals ret :: tables_1
/-- a 'code' word, met by the world's own term for the bytes: nothing is compared byte by byte -/
theorem code_word {y : MethodName} {bytes : ByteArray} {mx : Nat} {rt : Option FieldType} {a : Array Value} {s : State} {m : MethodId} {meth : Method} {c : Code} (h1 : s.methodNamed? y = some m) (h2 : s.vm.method? m = some meth) (h3 : meth.code = some c) (h4 : c.code = bytes)
    (h5 : (c.maxLocals == mx && c.exceptionTable.isEmpty && decide (c.maxStack ≤ mostOperands) && decide (meth.sig.returnType = rt) && !meth.locks && decide (parseMethodDescriptor y.desc = some meth.sig)) = true) : (Jvm.Cond.code y bytes mx rt).before a s = true := by
  simp only [Bool.and_eq_true, beq_iff_eq, Bool.not_eq_true', decide_eq_true_eq] at h5
  obtain ⟨⟨⟨⟨⟨g1, g2⟩, g3⟩, g4⟩, g5⟩, g6⟩ := h5
  simp [Cond.before, Cond.holds, Cond.value, h1, h2, h3, h4, g1, g2, g3, g4, g5, g6]
def isCode : Jvm.Cond → Bool
  | .code _ _ _ _ => true
  | .codeWith _ _ _ _ _ => true
  | _ => false
theorem all_split {L : List Jvm.Cond} {P : Jvm.Cond → Bool} (h1 : L.all (fun c => isCode c || P c) = true) (h2 : ∀ c ∈ L.filter isCode, P c = true) : L.all P = true := by
  refine List.all_eq_true.mpr fun c hc => ?_
  have h := List.all_eq_true.mp h1 c hc
  rcases Bool.eq_false_or_eq_true (isCode c) with hi | hi
  · exact h2 c (List.mem_filter.mpr ⟨hc, hi⟩)
  · simpa [hi] using h
set_option maxRecDepth 65536 in
theorem w_c0 : (Jvm.Cond.code x code maxLocals ret).before args0 about1 = true := code_word (m := ⟨1, 2⟩) (meth := k1m2) (c := k1c2) (by decide +kernel) rfl rfl rfl (by decide +kernel)
set_option maxRecDepth 65536 in
theorem w_c1 : (Jvm.Cond.code ({ cls := "com/example/fama/fama/table/JsonLine", name := "<init>", desc := "([BII)V" } : Jvm.MethodName) prog_30_method_1_code (4 : Nat) (Option.none : Option Jvm.ClassFile.FieldType)).before args0 about1 = true := code_word (m := ⟨2, 0⟩) (meth := k2m0) (c := k2c0) (by decide +kernel) rfl rfl rfl (by decide +kernel)
set_option maxRecDepth 65536 in
theorem w_c2 : (Jvm.Cond.code ({ cls := "java/lang/Object", name := "<init>", desc := "()V" } : Jvm.MethodName) object_method_1_code (1 : Nat) (Option.none : Option Jvm.ClassFile.FieldType)).before args0 about1 = true := code_word (m := ⟨0, 0⟩) (meth := k0m0) (c := k0c0) (by decide +kernel) rfl rfl rfl (by decide +kernel)
set_option maxRecDepth 65536 in
theorem w_c3 : (Jvm.Cond.code ({ cls := "com/example/fama/fama/table/JsonLine", name := "atString", desc := "()Z" } : Jvm.MethodName) prog_30_method_4_code (1 : Nat) (Option.some Jvm.ClassFile.FieldType.boolean)).before args0 about1 = true := code_word (m := ⟨2, 3⟩) (meth := k2m3) (c := k2c3) (by decide +kernel) rfl rfl rfl (by decide +kernel)
set_option maxRecDepth 65536 in
theorem w_c4 : (Jvm.Cond.code ({ cls := "com/example/fama/fama/table/JsonLine", name := "startObject", desc := "()V" } : Jvm.MethodName) prog_30_method_2_code (1 : Nat) (Option.none : Option Jvm.ClassFile.FieldType)).before args0 about1 = true := code_word (m := ⟨2, 1⟩) (meth := k2m1) (c := k2c1) (by decide +kernel) rfl rfl rfl (by decide +kernel)
set_option maxRecDepth 65536 in
theorem w_c5 : (Jvm.Cond.code ({ cls := "com/example/fama/fama/table/JsonLine", name := "skipWhitespace", desc := "()V" } : Jvm.MethodName) prog_30_method_18_code (1 : Nat) (Option.none : Option Jvm.ClassFile.FieldType)).before args0 about1 = true := code_word (m := ⟨2, 6⟩) (meth := k2m6) (c := k2c6) (by decide +kernel) rfl rfl rfl (by decide +kernel)
set_option maxRecDepth 65536 in
theorem w_c6 : (Jvm.Cond.code ({ cls := "com/example/fama/fama/table/JsonLine", name := "isWhitespace", desc := "(B)Z" } : Jvm.MethodName) prog_30_method_22_code (1 : Nat) (Option.some Jvm.ClassFile.FieldType.boolean)).before args0 about1 = true := code_word (m := ⟨2, 8⟩) (meth := k2m8) (c := k2c8) (by decide +kernel) rfl rfl rfl (by decide +kernel)
set_option maxRecDepth 65536 in
theorem w_c7 : (Jvm.Cond.code ({ cls := "com/example/fama/fama/table/JsonLine", name := "nextKey", desc := "()Ljava/lang/String;" } : Jvm.MethodName) prog_30_method_3_code (1 : Nat) (Option.some (Jvm.ClassFile.FieldType.object "java/lang/String"))).before args0 about1 = true := code_word (m := ⟨2, 2⟩) (meth := k2m2) (c := k2c2) (by decide +kernel) rfl rfl rfl (by decide +kernel)
set_option maxRecDepth 65536 in
theorem w_c8 : (Jvm.Cond.code ({ cls := "com/example/fama/fama/table/JsonLine", name := "key", desc := "(Z)Ljava/lang/String;" } : Jvm.MethodName) prog_30_method_8_code (3 : Nat) (Option.some (Jvm.ClassFile.FieldType.object "java/lang/String"))).before args0 about1 = true := code_word (m := ⟨2, 4⟩) (meth := k2m4) (c := k2c4) (by decide +kernel) rfl rfl rfl (by decide +kernel)
set_option maxRecDepth 65536 in
theorem w_c9 : (Jvm.Cond.code ({ cls := "com/example/fama/fama/table/JsonLine", name := "string", desc := "(Z)Ljava/lang/String;" } : Jvm.MethodName) prog_30_method_9_code (8 : Nat) (Option.some (Jvm.ClassFile.FieldType.object "java/lang/String"))).before args0 about1 = true := code_word (m := ⟨2, 5⟩) (meth := k2m5) (c := k2c5) (by decide +kernel) rfl rfl rfl (by decide +kernel)
set_option maxRecDepth 65536 in
theorem w_c10 : (Jvm.Cond.code ({ cls := "com/example/fama/fama/table/TableLines", name := "decode", desc := "([BII)Ljava/lang/String;" } : Jvm.MethodName) prog_51_method_8_code (3 : Nat) (Option.some (Jvm.ClassFile.FieldType.object "java/lang/String"))).before args0 about1 = true := code_word (m := ⟨3, 0⟩) (meth := k3m0) (c := k3c0) (by decide +kernel) rfl rfl rfl (by decide +kernel)
set_option maxRecDepth 65536 in
theorem w_c11 : (Jvm.Cond.code ({ cls := "java/lang/String", name := "<init>", desc := "([BIILjava/nio/charset/Charset;)V" } : Jvm.MethodName) jdk_42_method_10_code (5 : Nat) (Option.none : Option Jvm.ClassFile.FieldType)).before args0 about1 = true := code_word (m := ⟨9, 1⟩) (meth := k9m1) (c := k9c1) (by decide +kernel) rfl rfl rfl (by decide +kernel)
set_option maxRecDepth 65536 in
theorem w_c12 : (Jvm.Cond.code ({ cls := "java/util/Objects", name := "requireNonNull", desc := "(Ljava/lang/Object;)Ljava/lang/Object;" } : Jvm.MethodName) jdk_31_method_10_code (1 : Nat) (Option.some (Jvm.ClassFile.FieldType.object "java/lang/Object"))).before args0 about1 = true := code_word (m := ⟨11, 1⟩) (meth := k11m1) (c := k11c1) (by decide +kernel) rfl rfl rfl (by decide +kernel)
set_option maxRecDepth 65536 in
theorem w_c13 : (Jvm.Cond.code ({ cls := "java/lang/String", name := "checkBoundsOffCount", desc := "(III)I" } : Jvm.MethodName) jdk_42_method_157_code (3 : Nat) (Option.some Jvm.ClassFile.FieldType.int)).before args0 about1 = true := code_word (m := ⟨9, 4⟩) (meth := k9m4) (c := k9c4) (by decide +kernel) rfl rfl rfl (by decide +kernel)
set_option maxRecDepth 65536 in
theorem w_c14 : (Jvm.Cond.code ({ cls := "jdk/internal/util/Preconditions", name := "checkFromIndexSize", desc := "(IIILjava/util/function/BiFunction;)I" } : Jvm.MethodName) jdk_41_method_13_code (4 : Nat) (Option.some Jvm.ClassFile.FieldType.int)).before args0 about1 = true := code_word (m := ⟨16, 1⟩) (meth := k16m1) (c := k16c1) (by decide +kernel) rfl rfl rfl (by decide +kernel)
set_option maxRecDepth 65536 in
theorem w_c15 : (Jvm.Cond.code ({ cls := "java/lang/StringCoding", name := "countPositives", desc := "([BII)I" } : Jvm.MethodName) jdk_123_method_3_code (5 : Nat) (Option.some Jvm.ClassFile.FieldType.int)).before args0 about1 = true := code_word (m := ⟨17, 1⟩) (meth := k17m1) (c := k17c1) (by decide +kernel) rfl rfl rfl (by decide +kernel)
set_option maxRecDepth 65536 in
theorem w_c16 : (Jvm.Cond.code ({ cls := "java/util/Arrays", name := "copyOfRange", desc := "([BII)[B" } : Jvm.MethodName) jdk_65_method_132_code (3 : Nat) (Option.some (Jvm.ClassFile.FieldType.array Jvm.ClassFile.FieldType.byte))).before args0 about1 = true := code_word (m := ⟨18, 2⟩) (meth := k18m2) (c := k18c2) (by decide +kernel) rfl rfl rfl (by decide +kernel)
set_option maxRecDepth 65536 in
theorem w_c17 : (Jvm.Cond.code ({ cls := "java/util/Arrays", name := "copyOfRangeByte", desc := "([BII)[B" } : Jvm.MethodName) jdk_65_method_133_code (5 : Nat) (Option.some (Jvm.ClassFile.FieldType.array Jvm.ClassFile.FieldType.byte))).before args0 about1 = true := code_word (m := ⟨18, 3⟩) (meth := k18m3) (c := k18c3) (by decide +kernel) rfl rfl rfl (by decide +kernel)
set_option maxRecDepth 65536 in
theorem w_c18 : (Jvm.Cond.code ({ cls := "java/util/Arrays", name := "checkLength", desc := "(II)V" } : Jvm.MethodName) jdk_65_method_131_code (2 : Nat) (Option.none : Option Jvm.ClassFile.FieldType)).before args0 about1 = true := code_word (m := ⟨18, 1⟩) (meth := k18m1) (c := k18c1) (by decide +kernel) rfl rfl rfl (by decide +kernel)
set_option maxRecDepth 65536 in
theorem w_c19 : (Jvm.Cond.code ({ cls := "java/lang/Math", name := "min", desc := "(II)I" } : Jvm.MethodName) jdk_29_method_69_code (2 : Nat) (Option.some Jvm.ClassFile.FieldType.int)).before args0 about1 = true := code_word (m := ⟨19, 1⟩) (meth := k19m1) (c := k19c1) (by decide +kernel) rfl rfl rfl (by decide +kernel)
set_option maxRecDepth 65536 in
theorem w_c20 : (Jvm.Cond.code ({ cls := "com/example/fama/fama/table/JsonLine", name := "expect", desc := "(CLjava/lang/String;)V" } : Jvm.MethodName) prog_30_method_19_code (3 : Nat) (Option.none : Option Jvm.ClassFile.FieldType)).before args0 about1 = true := code_word (m := ⟨2, 7⟩) (meth := k2m7) (c := k2c7) (by decide +kernel) rfl rfl rfl (by decide +kernel)
set_option maxRecDepth 65536 in
theorem w_c21 : (Jvm.Cond.code ({ cls := "java/lang/String", name := "equals", desc := "(Ljava/lang/Object;)Z" } : Jvm.MethodName) jdk_42_method_66_code (3 : Nat) (Option.some Jvm.ClassFile.FieldType.boolean)).before args0 about1 = true := code_word (m := ⟨9, 3⟩) (meth := k9m3) (c := k9c3) (by decide +kernel) rfl rfl rfl (by decide +kernel)
set_option maxRecDepth 65536 in
theorem w_c22 : (Jvm.Cond.code ({ cls := "java/lang/StringLatin1", name := "equals", desc := "([B[B)Z" } : Jvm.MethodName) jdk_43_method_13_code (3 : Nat) (Option.some Jvm.ClassFile.FieldType.boolean)).before args0 about1 = true := code_word (m := ⟨21, 1⟩) (meth := k21m1) (c := k21c1) (by decide +kernel) rfl rfl rfl (by decide +kernel)
set_option maxRecDepth 65536 in
theorem w_c23 : (Jvm.Cond.code ({ cls := "com/example/fama/fama/table/JsonLineAtStringPinLaw", name := "ws", desc := "(B)Z" } : Jvm.MethodName) method_2_code (1 : Nat) (Option.some Jvm.ClassFile.FieldType.boolean)).before args0 about1 = true := code_word (m := ⟨1, 1⟩) (meth := k1m1) (c := k1c1) (by decide +kernel) rfl rfl rfl (by decide +kernel)
theorem codeWith_word {y : MethodName} {bytes : ByteArray} {mx : Nat} {rt : Option FieldType} {hs : List (Nat × Nat × Nat × Nat)} {a : Array Value} {s : State} {m : MethodId} {meth : Method} {c : Code} (h1 : s.methodNamed? y = some m) (h2 : s.vm.method? m = some meth) (h3 : meth.code = some c) (h4 : c.code = bytes)
    (h5 : (c.maxLocals == mx && decide (c.exceptionTable.toList.map (fun h => (h.startPc, h.endPc, h.handlerPc, h.catchType)) = hs) && decide (c.maxStack ≤ mostOperands) && decide (meth.sig.returnType = rt) && !meth.locks && decide (parseMethodDescriptor y.desc = some meth.sig)) = true) : (Jvm.Cond.codeWith y bytes mx rt hs).before a s = true := by
  simp only [Bool.and_eq_true, beq_iff_eq, Bool.not_eq_true', decide_eq_true_eq] at h5
  obtain ⟨⟨⟨⟨⟨g1, g2⟩, g3⟩, g4⟩, g5⟩, g6⟩ := h5
  simp only [Cond.before, Cond.holds, Cond.value, h1, h2, h3, h4, g1, g2, g3, g4, g5, g6, Option.bind_some, Option.map_some, Option.any_some, decide_true, beq_self_eq_true, Bool.and_self, Bool.not_false, Bool.and_true]
set_option maxRecDepth 65536 in
theorem w_cW : (Jvm.Cond.codeWith ({ cls := "java/lang/String", name := "<init>", desc := "(Ljava/nio/charset/Charset;[BII)V" } : Jvm.MethodName) jdk_42_method_11_code (11 : Nat) (Option.none : Option Jvm.ClassFile.FieldType) [((800 : Nat), (813 : Nat), (816 : Nat), (202 : Nat))]).before args0 about1 = true := codeWith_word (m := ⟨9, 2⟩) (meth := k9m2) (c := k9c2) (by decide +kernel) rfl rfl rfl (by decide +kernel)
def codes1 : List Jvm.Cond := [Jvm.Cond.code x code maxLocals ret, Jvm.Cond.code ({ cls := "com/example/fama/fama/table/JsonLine", name := "<init>", desc := "([BII)V" } : Jvm.MethodName) prog_30_method_1_code (4 : Nat) (Option.none : Option Jvm.ClassFile.FieldType), Jvm.Cond.code ({ cls := "java/lang/Object", name := "<init>", desc := "()V" } : Jvm.MethodName) object_method_1_code (1 : Nat) (Option.none : Option Jvm.ClassFile.FieldType), Jvm.Cond.code ({ cls := "com/example/fama/fama/table/JsonLine", name := "atString", desc := "()Z" } : Jvm.MethodName) prog_30_method_4_code (1 : Nat) (Option.some Jvm.ClassFile.FieldType.boolean), Jvm.Cond.code ({ cls := "com/example/fama/fama/table/JsonLine", name := "startObject", desc := "()V" } : Jvm.MethodName) prog_30_method_2_code (1 : Nat) (Option.none : Option Jvm.ClassFile.FieldType), Jvm.Cond.code ({ cls := "com/example/fama/fama/table/JsonLine", name := "skipWhitespace", desc := "()V" } : Jvm.MethodName) prog_30_method_18_code (1 : Nat) (Option.none : Option Jvm.ClassFile.FieldType), Jvm.Cond.code ({ cls := "com/example/fama/fama/table/JsonLine", name := "isWhitespace", desc := "(B)Z" } : Jvm.MethodName) prog_30_method_22_code (1 : Nat) (Option.some Jvm.ClassFile.FieldType.boolean), Jvm.Cond.code ({ cls := "com/example/fama/fama/table/JsonLine", name := "nextKey", desc := "()Ljava/lang/String;" } : Jvm.MethodName) prog_30_method_3_code (1 : Nat) (Option.some (Jvm.ClassFile.FieldType.object "java/lang/String")), Jvm.Cond.code ({ cls := "com/example/fama/fama/table/JsonLine", name := "key", desc := "(Z)Ljava/lang/String;" } : Jvm.MethodName) prog_30_method_8_code (3 : Nat) (Option.some (Jvm.ClassFile.FieldType.object "java/lang/String")), Jvm.Cond.code ({ cls := "com/example/fama/fama/table/JsonLine", name := "string", desc := "(Z)Ljava/lang/String;" } : Jvm.MethodName) prog_30_method_9_code (8 : Nat) (Option.some (Jvm.ClassFile.FieldType.object "java/lang/String")), Jvm.Cond.code ({ cls := "com/example/fama/fama/table/TableLines", name := "decode", desc := "([BII)Ljava/lang/String;" } : Jvm.MethodName) prog_51_method_8_code (3 : Nat) (Option.some (Jvm.ClassFile.FieldType.object "java/lang/String")), Jvm.Cond.code ({ cls := "java/lang/String", name := "<init>", desc := "([BIILjava/nio/charset/Charset;)V" } : Jvm.MethodName) jdk_42_method_10_code (5 : Nat) (Option.none : Option Jvm.ClassFile.FieldType), Jvm.Cond.code ({ cls := "java/util/Objects", name := "requireNonNull", desc := "(Ljava/lang/Object;)Ljava/lang/Object;" } : Jvm.MethodName) jdk_31_method_10_code (1 : Nat) (Option.some (Jvm.ClassFile.FieldType.object "java/lang/Object")), Jvm.Cond.code ({ cls := "java/lang/String", name := "checkBoundsOffCount", desc := "(III)I" } : Jvm.MethodName) jdk_42_method_157_code (3 : Nat) (Option.some Jvm.ClassFile.FieldType.int), Jvm.Cond.code ({ cls := "jdk/internal/util/Preconditions", name := "checkFromIndexSize", desc := "(IIILjava/util/function/BiFunction;)I" } : Jvm.MethodName) jdk_41_method_13_code (4 : Nat) (Option.some Jvm.ClassFile.FieldType.int), Jvm.Cond.codeWith ({ cls := "java/lang/String", name := "<init>", desc := "(Ljava/nio/charset/Charset;[BII)V" } : Jvm.MethodName) jdk_42_method_11_code (11 : Nat) (Option.none : Option Jvm.ClassFile.FieldType) [((800 : Nat), (813 : Nat), (816 : Nat), (202 : Nat))], Jvm.Cond.code ({ cls := "java/lang/StringCoding", name := "countPositives", desc := "([BII)I" } : Jvm.MethodName) jdk_123_method_3_code (5 : Nat) (Option.some Jvm.ClassFile.FieldType.int), Jvm.Cond.code ({ cls := "java/util/Arrays", name := "copyOfRange", desc := "([BII)[B" } : Jvm.MethodName) jdk_65_method_132_code (3 : Nat) (Option.some (Jvm.ClassFile.FieldType.array Jvm.ClassFile.FieldType.byte)), Jvm.Cond.code ({ cls := "java/util/Arrays", name := "copyOfRangeByte", desc := "([BII)[B" } : Jvm.MethodName) jdk_65_method_133_code (5 : Nat) (Option.some (Jvm.ClassFile.FieldType.array Jvm.ClassFile.FieldType.byte)), Jvm.Cond.code ({ cls := "java/util/Arrays", name := "checkLength", desc := "(II)V" } : Jvm.MethodName) jdk_65_method_131_code (2 : Nat) (Option.none : Option Jvm.ClassFile.FieldType), Jvm.Cond.code ({ cls := "java/lang/Math", name := "min", desc := "(II)I" } : Jvm.MethodName) jdk_29_method_69_code (2 : Nat) (Option.some Jvm.ClassFile.FieldType.int), Jvm.Cond.code ({ cls := "com/example/fama/fama/table/JsonLine", name := "expect", desc := "(CLjava/lang/String;)V" } : Jvm.MethodName) prog_30_method_19_code (3 : Nat) (Option.none : Option Jvm.ClassFile.FieldType), Jvm.Cond.code ({ cls := "java/lang/String", name := "equals", desc := "(Ljava/lang/Object;)Z" } : Jvm.MethodName) jdk_42_method_66_code (3 : Nat) (Option.some Jvm.ClassFile.FieldType.boolean), Jvm.Cond.code ({ cls := "java/lang/StringLatin1", name := "equals", desc := "([B[B)Z" } : Jvm.MethodName) jdk_43_method_13_code (3 : Nat) (Option.some Jvm.ClassFile.FieldType.boolean), Jvm.Cond.code ({ cls := "com/example/fama/fama/table/JsonLineAtStringPinLaw", name := "ws", desc := "(B)Z" } : Jvm.MethodName) method_2_code (1 : Nat) (Option.some Jvm.ClassFile.FieldType.boolean)]
set_option maxRecDepth 65536 in
theorem codes_eq : words1.filter isCode = codes1 := rfl
theorem w_codes : ∀ c ∈ words1.filter isCode, c.before args0 about1 = true := by
  rw [codes_eq]
  intro c hc
  simp only [codes1, List.mem_cons, List.not_mem_nil, or_false] at hc
  rcases hc with rfl | rfl | rfl | rfl | rfl | rfl | rfl | rfl | rfl | rfl | rfl | rfl | rfl | rfl | rfl | rfl | rfl | rfl | rfl | rfl | rfl | rfl | rfl | rfl | rfl
  · exact w_c0
  · exact w_c1
  · exact w_c2
  · exact w_c3
  · exact w_c4
  · exact w_c5
  · exact w_c6
  · exact w_c7
  · exact w_c8
  · exact w_c9
  · exact w_c10
  · exact w_c11
  · exact w_c12
  · exact w_c13
  · exact w_c14
  · exact w_cW
  · exact w_c15
  · exact w_c16
  · exact w_c17
  · exact w_c18
  · exact w_c19
  · exact w_c20
  · exact w_c21
  · exact w_c22
  · exact w_c23
set_option maxRecDepth 65536 in
theorem w_t1 : (words1.take 24).all (fun c => isCode c || c.before args0 about1) = true := by decide +kernel
set_option maxRecDepth 65536 in
theorem w_t2 : ((words1.drop 24).take 24).all (fun c => isCode c || c.before args0 about1) = true := by decide +kernel
set_option maxRecDepth 65536 in
theorem w_t3 : (((words1.drop 24).drop 24).take 24).all (fun c => isCode c || c.before args0 about1) = true := by decide +kernel
set_option maxRecDepth 65536 in
theorem w_t4 : ((((words1.drop 24).drop 24).drop 24).take 24).all (fun c => isCode c || c.before args0 about1) = true := by decide +kernel
set_option maxRecDepth 65536 in
theorem w_t5 : (((((words1.drop 24).drop 24).drop 24).drop 24).take 24).all (fun c => isCode c || c.before args0 about1) = true := by decide +kernel
set_option maxRecDepth 65536 in
theorem w_t6 : (((((words1.drop 24).drop 24).drop 24).drop 24).drop 24).all (fun c => isCode c || c.before args0 about1) = true := by decide +kernel
theorem w_tables : (allAtoms (Jvm.Cond.code x code maxLocals ret :: tables_1)).before args0 about1 = true := by
  rw [allAtoms_all]
  show words1.all (fun c => c.before args0 about1) = true
  refine all_split ?_ w_codes
  rw [← List.take_append_drop 24 words1, List.all_append, w_t1, ← List.take_append_drop 24 (words1.drop 24), List.all_append, w_t2, ← List.take_append_drop 24 ((words1.drop 24).drop 24), List.all_append, w_t3, ← List.take_append_drop 24 (((words1.drop 24).drop 24).drop 24), List.all_append, w_t4, ← List.take_append_drop 24 ((((words1.drop 24).drop 24).drop 24).drop 24), List.all_append, w_t5, w_t6]
  rfl
set_option maxRecDepth 65536 in
theorem w_rest : rest_1_c.before args0 about1 = true := by decide +kernel
set_option maxRecDepth 65536 in
theorem w_case : (Jvm.Cond.and given_1 narrow_1).before args0 about1 = true := by decide +kernel
set_option maxRecDepth 65536 in
theorem w_consts : constsHeld consts_1 about1 := Jvm.Lit.constsHeldB_iff.mp (by decide +kernel)
theorem w_applies : (headSpec (Jvm.Cond.code x code maxLocals ret :: tables_1) room_1).applies x e0.platform about1 = true :=
  (Spec.applies_iff w_frames).mpr ⟨w_running, w_runnable, w_alone, w_named, w_hears, w_ripe, w_room, w_tables⟩
theorem atStart : AtStart classFile x code maxLocals ret World_1 tables_1 room_1 Calls_1 rest_1 Pre_1 launch0 p0 e0 about1 theMethod args0 below0 :=
  ⟨lists_1, trivial, launch0.admits_env _ _ _, launch0.least_env, fairChoices_fair.cas, fairChoices_fair.clock, w_frames, w_args, w_heap, w_applies, ⟨w_consts, trivial⟩, w_rest, w_case⟩
end start1
theorem witness_1 : WitnessClaimed_1 := ⟨start1.p0, start1.e0, start1.about1, start1.theMethod, start1.args0, start1.below0, start1.atStart⟩
end Jvm.Pilot.@@N@@
