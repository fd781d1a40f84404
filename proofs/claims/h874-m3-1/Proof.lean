import JvmDerived
import JvmDerived.Pilot.@@N@@Statement
import JvmDerived.Pilot.@@N@@Code
set_option linter.unusedVariables false
set_option linter.unusedSimpArgs false
namespace Jvm.Pilot.@@N@@
open Jvm Jvm.ClassFile Sem Op Lib Jvm.Free Jvm.Stand Jvm.LawKit Jvm.RoadKit Bundle Jvm.Pilot.@@N@@.Jvm.D
section Own
variable {p : Program} {l : Launch} {e : Env} {R : Room} {s : State} {m : MethodId} {args : Array Value} {below : List Frame} {meth : Method} {c : Code} {T : State} {locs : List Loc} {cells slots : Nat} {Z : State} {h h' : Heap} {a b : Addr} {n k : Nat}
/-- a function with one place turned -/
def owUp {α : Type} (f : Nat → α) (k : Nat) (v : α) : Nat → α := fun i => if i = k then v else f i
theorem owUp_at {α : Type} {f : Nat → α} {k : Nat} {v : α} : owUp f k v k = v := if_pos rfl
theorem owUp_ne {α : Type} {f : Nat → α} {k i : Nat} {v : α} (q : i ≠ k) : owUp f k v i = f i := if_neg q
theorem owUpP {α : Type} {P : α → Prop} {f : Nat → α} {k : Nat} {v : α} (hf : ∀ i, P (f i)) (hv : P v) : ∀ i, P (owUp f k v i) := fun i => by
  by_cases q : i = k
  · rw [q, owUp_at]; exact hv
  · rw [owUp_ne q]; exact hf i
theorem owIdx {j : Int32} {k : Nat} (hj : j.toInt = (k : Int)) : j.toNatClampNeg = k := by
  have q : j.toNatClampNeg = j.toInt.toNat := rfl
  rw [q, hj]; rfl
theorem owIn {j : Int32} {k n sz : Nat} (hj : j.toInt = (k : Int)) (hk : k < n) (hs : sz = n) : ¬ (j < 0 ∨ sz ≤ j.toNatClampNeg) := by
  rw [owIdx hj, Int32.lt_iff_toInt_lt, hj, hs]
  have q : (0 : Int32).toInt = 0 := rfl
  omega
theorem owSlot {cl : Cell} {k i : Nat} {v : Value} (hk : k < cl.slots.size) : (cl.setSlot k v).slots[i]? = if i = k then some v else cl.slots[i]? := by
  by_cases q : i = k
  · subst q; rw [if_pos rfl]; simp [Cell.setSlot, hk]
  · rw [if_neg q]; exact Array.getElem?_setIfInBounds_ne (Ne.symm q)
/-- an array of ints (bytes, chars ..) whose components a function tells -/
def owAI (Z : State) (h : Heap) (a : Addr) (ty : FieldType) (n : Nat) (f : Nat → Int32) : Prop := ∃ c : Cell, Arr Z h a c ty ∧ c.slots.size = n ∧ ∀ i, i < n → c.slots[i]? = some (.int (f i))
/-- an array of longs -/
def owAJ (Z : State) (h : Heap) (a : Addr) (ty : FieldType) (n : Nat) (f : Nat → Int64) : Prop := ∃ c : Cell, Arr Z h a c ty ∧ c.slots.size = n ∧ ∀ i, i < n → c.slots[i]? = some (.long (f i))
theorem owAI.lt {ty : FieldType} {f : Nat → Int32} (F : owAI Z h a ty n f) : a < h.size := by obtain ⟨c, A, -⟩ := F; exact A.lt
theorem owAI.ext {ty : FieldType} {f : Nat → Int32} (F : owAI Z h a ty n f) (E : Ext h h') : owAI Z h' a ty n f := by obtain ⟨c, A, r⟩ := F; exact ⟨c, A.ext E, r⟩
theorem owAI.other {ty : FieldType} {f : Nat → Int32} {sl : Nat} {v : Value} (F : owAI Z h b ty n f) (W : Wr h h' a sl v) (q : b ≠ a) : owAI Z h' b ty n f := by obtain ⟨c, A, r⟩ := F; exact ⟨c, A.other W q, r⟩
theorem owAI.keep {ty : FieldType} {f : Nat → Int32} {ws : List Addr} (F : owAI Z h a ty n f) (K : Keep h h' ws) (q : a ∉ ws) : owAI Z h' a ty n f := by obtain ⟨c, A, r⟩ := F; exact ⟨c, ⟨K.2.1 a c A.1 q, A.2⟩, r⟩
theorem owAJ.lt {ty : FieldType} {f : Nat → Int64} (F : owAJ Z h a ty n f) : a < h.size := by obtain ⟨c, A, -⟩ := F; exact A.lt
theorem owAJ.ext {ty : FieldType} {f : Nat → Int64} (F : owAJ Z h a ty n f) (E : Ext h h') : owAJ Z h' a ty n f := by obtain ⟨c, A, r⟩ := F; exact ⟨c, A.ext E, r⟩
theorem owAJ.other {ty : FieldType} {f : Nat → Int64} {sl : Nat} {v : Value} (F : owAJ Z h b ty n f) (W : Wr h h' a sl v) (q : b ≠ a) : owAJ Z h' b ty n f := by obtain ⟨c, A, r⟩ := F; exact ⟨c, A.other W q, r⟩
theorem owAJ.keep {ty : FieldType} {f : Nat → Int64} {ws : List Addr} (F : owAJ Z h a ty n f) (K : Keep h h' ws) (q : a ∉ ws) : owAJ Z h' a ty n f := by obtain ⟨c, A, r⟩ := F; exact ⟨c, ⟨K.2.1 a c A.1 q, A.2⟩, r⟩
theorem owAI.new {ty : FieldType} {k : ClassId} {z : Int32} (A : Arr Z h a (newA k ty z) ty) (hz : z.toInt = (n : Int)) (hd : defaultValue ty = .int 0) : owAI Z h a ty n (fun _ => 0) :=
  ⟨_, A, by rw [sz_new]; exact owIdx hz, fun i hi => by rw [← hd]; simp [newA, owIdx hz, hi]⟩
theorem owAJ.new {ty : FieldType} {k : ClassId} {z : Int32} (A : Arr Z h a (newA k ty z) ty) (hz : z.toInt = (n : Int)) (hd : defaultValue ty = .long 0) : owAJ Z h a ty n (fun _ => 0) :=
  ⟨_, A, by rw [sz_new]; exact owIdx hz, fun i hi => by rw [← hd]; simp [newA, owIdx hz, hi]⟩
theorem owAI.to {ty : FieldType} {f g : Nat → Int32} (F : owAI Z h a ty n f) (q : ∀ i, i < n → f i = g i) : owAI Z h a ty n g := by
  obtain ⟨c, A, S, H⟩ := F; exact ⟨c, A, S, fun i hi => by rw [H i hi, q i hi]⟩
theorem owAJ.to {ty : FieldType} {f g : Nat → Int64} (F : owAJ Z h a ty n f) (q : ∀ i, i < n → f i = g i) : owAJ Z h a ty n g := by
  obtain ⟨c, A, S, H⟩ := F; exact ⟨c, A, S, fun i hi => by rw [H i hi, q i hi]⟩
theorem owLdB (X : Stand p l e R s m args below meth c T locs cells slots) (hx : p.tables.exec = Jvm.exec) (hZ : Z.Warmed39 s.vm) (eT : T.heap = h) {f : Nat → Int32} (A : owAI Z h a .byte n f) {j : Int32} (hj : j.toInt = (k : Int)) (hk : k < n) {g : JFrame} (hg : g.method = m) {rest : List Value} (hs : g.stack = .int j :: .ref a :: rest) (hd : decode c.code g.pc = .ok (.baload, 1)) (target : State) (kt : Steps p.tables e below (T.setTop { g with pc := g.pc + 1, stack := .int (f k) :: rest }) target) : Steps p.tables e below (T.setTop g) target := by
  obtain ⟨cl, Ar, S, H⟩ := A
  exact X.baloadBytes hx (by rw [eT]; exact Ar.1) (State.isArrayOf_alike hZ.alike Ar.2.1) Ar.2.2 (owIn hj hk S) (by rw [owIdx hj]; exact H k hk) hg hs hd target kt
theorem owLdC (X : Stand p l e R s m args below meth c T locs cells slots) (hx : p.tables.exec = Jvm.exec) (hZ : Z.Warmed39 s.vm) (eT : T.heap = h) {f : Nat → Int32} (A : owAI Z h a .char n f) {j : Int32} (hj : j.toInt = (k : Int)) (hk : k < n) {g : JFrame} (hg : g.method = m) {rest : List Value} (hs : g.stack = .int j :: .ref a :: rest) (hd : decode c.code g.pc = .ok (.caload, 1)) (target : State) (kt : Steps p.tables e below (T.setTop { g with pc := g.pc + 1, stack := .int (f k) :: rest }) target) : Steps p.tables e below (T.setTop g) target := by
  obtain ⟨cl, Ar, S, H⟩ := A
  exact X.caload hx (by rw [eT]; exact Ar.1) (State.isArrayOf_alike hZ.alike Ar.2.1) Ar.2.2 (owIn hj hk S) (by rw [owIdx hj]; exact H k hk) hg hs hd target kt
theorem owLdI (X : Stand p l e R s m args below meth c T locs cells slots) (hx : p.tables.exec = Jvm.exec) (hZ : Z.Warmed39 s.vm) (eT : T.heap = h) {f : Nat → Int32} (A : owAI Z h a .int n f) {j : Int32} (hj : j.toInt = (k : Int)) (hk : k < n) {g : JFrame} (hg : g.method = m) {rest : List Value} (hs : g.stack = .int j :: .ref a :: rest) (hd : decode c.code g.pc = .ok (.iaload, 1)) (target : State) (kt : Steps p.tables e below (T.setTop { g with pc := g.pc + 1, stack := .int (f k) :: rest }) target) : Steps p.tables e below (T.setTop g) target := by
  obtain ⟨cl, Ar, S, H⟩ := A
  exact X.iaload hx (by rw [eT]; exact Ar.1) (State.isArrayOf_alike hZ.alike Ar.2.1) Ar.2.2 (owIn hj hk S) (by rw [owIdx hj]; exact H k hk) hg hs hd target kt
theorem owLdJ (X : Stand p l e R s m args below meth c T locs cells slots) (hx : p.tables.exec = Jvm.exec) (hZ : Z.Warmed39 s.vm) (eT : T.heap = h) {f : Nat → Int64} (A : owAJ Z h a .long n f) {j : Int32} (hj : j.toInt = (k : Int)) (hk : k < n) {g : JFrame} (hg : g.method = m) {rest : List Value} (hs : g.stack = .int j :: .ref a :: rest) (hd : decode c.code g.pc = .ok (.laload, 1)) (target : State) (kt : Steps p.tables e below (T.setTop { g with pc := g.pc + 1, stack := .long (f k) :: rest }) target) : Steps p.tables e below (T.setTop g) target := by
  obtain ⟨cl, Ar, S, H⟩ := A
  exact X.laload hx (by rw [eT]; exact Ar.1) (State.isArrayOf_alike hZ.alike Ar.2.1) Ar.2.2 (owIn hj hk S) (by rw [owIdx hj]; exact H k hk) hg hs hd target kt
/-- an array of objects -/
def owAR (Z : State) (h : Heap) (a : Addr) (ty : FieldType) (n : Nat) (f : Nat → Addr) : Prop := ∃ c : Cell, Arr Z h a c ty ∧ c.slots.size = n ∧ ∀ i, i < n → c.slots[i]? = some (.ref (f i))
theorem owAR.lt {ty : FieldType} {f : Nat → Addr} (F : owAR Z h a ty n f) : a < h.size := by obtain ⟨c, A, -⟩ := F; exact A.lt
theorem owAR.ext {ty : FieldType} {f : Nat → Addr} (F : owAR Z h a ty n f) (E : Ext h h') : owAR Z h' a ty n f := by obtain ⟨c, A, r⟩ := F; exact ⟨c, A.ext E, r⟩
theorem owAR.other {ty : FieldType} {f : Nat → Addr} {sl : Nat} {v : Value} (F : owAR Z h b ty n f) (W : Wr h h' a sl v) (q : b ≠ a) : owAR Z h' b ty n f := by obtain ⟨c, A, r⟩ := F; exact ⟨c, A.other W q, r⟩
theorem owAR.keep {ty : FieldType} {f : Nat → Addr} {ws : List Addr} (F : owAR Z h a ty n f) (K : Keep h h' ws) (q : a ∉ ws) : owAR Z h' a ty n f := by obtain ⟨c, A, r⟩ := F; exact ⟨c, ⟨K.2.1 a c A.1 q, A.2⟩, r⟩
theorem owLdR (X : Stand p l e R s m args below meth c T locs cells slots) (hx : p.tables.exec = Jvm.exec) (hZ : Z.Warmed39 s.vm) (eT : T.heap = h) {ty : FieldType} {f : Nat → Addr} (A : owAR Z h a ty n f) (hty : ty.isReference = true) {j : Int32} (hj : j.toInt = (k : Int)) (hk : k < n) {g : JFrame} (hg : g.method = m) {rest : List Value} (hs : g.stack = .int j :: .ref a :: rest) (hd : decode c.code g.pc = .ok (.aaload, 1)) (target : State) (kt : Steps p.tables e below (T.setTop { g with pc := g.pc + 1, stack := .ref (f k) :: rest }) target) : Steps p.tables e below (T.setTop g) target := by
  obtain ⟨cl, Ar, S, H⟩ := A
  exact X.aaload hx (by rw [eT]; exact Ar.1) (State.isArrayOf_alike hZ.alike Ar.2.1) hty Ar.2.2 (owIn hj hk S) (by rw [owIdx hj]; exact H k hk) hg hs hd target kt
theorem owLenI (X : Stand p l e R s m args below meth c T locs cells slots) (hx : p.tables.exec = Jvm.exec) (hZ : Z.Warmed39 s.vm) (eT : T.heap = h) {ty : FieldType} {f : Nat → Int32} (A : owAI Z h a ty n f) {z : Int32} (hz : n.toInt32 = z) {g : JFrame} (hg : g.method = m) {rest : List Value} (hs : g.stack = .ref a :: rest) (hd : decode c.code g.pc = .ok (.arraylength, 1)) (target : State) (kt : Steps p.tables e below (T.setTop { g with pc := g.pc + 1, stack := .int z :: rest }) target) : Steps p.tables e below (T.setTop g) target := by
  obtain ⟨cl, Ar, S, H⟩ := A
  exact X.arraylength hx (by rw [eT]; exact Ar.1) (State.isArrayOf_alike hZ.alike Ar.2.1) hg hs hd target (by rw [S, hz]; exact kt)
theorem owLenJ (X : Stand p l e R s m args below meth c T locs cells slots) (hx : p.tables.exec = Jvm.exec) (hZ : Z.Warmed39 s.vm) (eT : T.heap = h) {ty : FieldType} {f : Nat → Int64} (A : owAJ Z h a ty n f) {z : Int32} (hz : n.toInt32 = z) {g : JFrame} (hg : g.method = m) {rest : List Value} (hs : g.stack = .ref a :: rest) (hd : decode c.code g.pc = .ok (.arraylength, 1)) (target : State) (kt : Steps p.tables e below (T.setTop { g with pc := g.pc + 1, stack := .int z :: rest }) target) : Steps p.tables e below (T.setTop g) target := by
  obtain ⟨cl, Ar, S, H⟩ := A
  exact X.arraylength hx (by rw [eT]; exact Ar.1) (State.isArrayOf_alike hZ.alike Ar.2.1) hg hs hd target (by rw [S, hz]; exact kt)
theorem owSetI {ty : FieldType} {f : Nat → Int32} {cl : Cell} {x : Int32} (Ar : Arr Z h a cl ty) (S : cl.slots.size = n) (H : ∀ i, i < n → cl.slots[i]? = some (.int (f i))) (hk : k < n) (W : Wr h h' a k (.int x)) : owAI Z h' a ty n (owUp f k x) :=
  ⟨cl.setSlot k (.int x), Ar.same W, by rw [sz_set]; exact S, fun i hi => by
    rw [owSlot (by omega)]
    by_cases q : i = k
    · rw [if_pos q, q, owUp_at]
    · rw [if_neg q, owUp_ne q]; exact H i hi⟩
theorem owSetJ {ty : FieldType} {f : Nat → Int64} {cl : Cell} {x : Int64} (Ar : Arr Z h a cl ty) (S : cl.slots.size = n) (H : ∀ i, i < n → cl.slots[i]? = some (.long (f i))) (hk : k < n) (W : Wr h h' a k (.long x)) : owAJ Z h' a ty n (owUp f k x) :=
  ⟨cl.setSlot k (.long x), Ar.same W, by rw [sz_set]; exact S, fun i hi => by
    rw [owSlot (by omega)]
    by_cases q : i = k
    · rw [if_pos q, q, owUp_at]
    · rw [if_neg q, owUp_ne q]; exact H i hi⟩
theorem owStB (X : Stand p l e R s m args below meth c T locs cells slots) (hx : p.tables.exec = Jvm.exec) (hZ : Z.Warmed39 s.vm) (eT : T.heap = h) {f : Nat → Int32} (A : owAI Z h a .byte n f) {j x : Int32} (hj : j.toInt = (k : Int)) (hk : k < n) {g : JFrame} (hg : g.method = m) {rest : List Value} (hs : g.stack = .int x :: .int j :: .ref a :: rest) (hd : decode c.code g.pc = .ok (.bastore, 1)) :
    ∃ T' h', Stand p l e R s m args below meth c T' (locs ++ [⟨a, k⟩]) cells slots ∧ T'.heap = h' ∧ Wr h h' a k (.int x.toInt8.toInt32) ∧ owAI Z h' a .byte n (owUp f k x.toInt8.toInt32) ∧ ∀ target, Steps p.tables e below (T'.setTop { g with pc := g.pc + 1, stack := rest }) target → Steps p.tables e below (T.setTop g) target := by
  obtain ⟨cl, Ar, S, H⟩ := A
  have st := stB X hx hZ eT Ar (j := j) (owIn hj hk S) hg hs hd
  rw [owIdx hj] at st
  obtain ⟨T', h', X', e', W, st⟩ := st
  exact ⟨T', h', X', e', W, owSetI Ar S H hk W, st⟩
theorem owStC (X : Stand p l e R s m args below meth c T locs cells slots) (hx : p.tables.exec = Jvm.exec) (hZ : Z.Warmed39 s.vm) (eT : T.heap = h) {f : Nat → Int32} (A : owAI Z h a .char n f) {j x : Int32} (hj : j.toInt = (k : Int)) (hk : k < n) {g : JFrame} (hg : g.method = m) {rest : List Value} (hs : g.stack = .int x :: .int j :: .ref a :: rest) (hd : decode c.code g.pc = .ok (.castore, 1)) :
    ∃ T' h', Stand p l e R s m args below meth c T' (locs ++ [⟨a, k⟩]) cells slots ∧ T'.heap = h' ∧ Wr h h' a k (.int x.toUInt32.toUInt16.toUInt32.toInt32) ∧ owAI Z h' a .char n (owUp f k x.toUInt32.toUInt16.toUInt32.toInt32) ∧ ∀ target, Steps p.tables e below (T'.setTop { g with pc := g.pc + 1, stack := rest }) target → Steps p.tables e below (T.setTop g) target := by
  obtain ⟨cl, Ar, S, H⟩ := A
  have st := stC X hx hZ eT Ar (j := j) (owIn hj hk S) hg hs hd
  rw [owIdx hj] at st
  obtain ⟨T', h', X', e', W, st⟩ := st
  exact ⟨T', h', X', e', W, owSetI Ar S H hk W, st⟩
theorem owStI (X : Stand p l e R s m args below meth c T locs cells slots) (hx : p.tables.exec = Jvm.exec) (hZ : Z.Warmed39 s.vm) (eT : T.heap = h) {f : Nat → Int32} (A : owAI Z h a .int n f) {j x : Int32} (hj : j.toInt = (k : Int)) (hk : k < n) {g : JFrame} (hg : g.method = m) {rest : List Value} (hs : g.stack = .int x :: .int j :: .ref a :: rest) (hd : decode c.code g.pc = .ok (.iastore, 1)) :
    ∃ T' h', Stand p l e R s m args below meth c T' (locs ++ [⟨a, k⟩]) cells slots ∧ T'.heap = h' ∧ Wr h h' a k (.int x) ∧ owAI Z h' a .int n (owUp f k x) ∧ ∀ target, Steps p.tables e below (T'.setTop { g with pc := g.pc + 1, stack := rest }) target → Steps p.tables e below (T.setTop g) target := by
  obtain ⟨cl, Ar, S, H⟩ := A
  have st := stI X hx hZ eT Ar (j := j) (owIn hj hk S) hg hs hd
  rw [owIdx hj] at st
  obtain ⟨T', h', X', e', W, st⟩ := st
  exact ⟨T', h', X', e', W, owSetI Ar S H hk W, st⟩
theorem owStJ (X : Stand p l e R s m args below meth c T locs cells slots) (hx : p.tables.exec = Jvm.exec) (hZ : Z.Warmed39 s.vm) (eT : T.heap = h) {f : Nat → Int64} (A : owAJ Z h a .long n f) {j : Int32} {x : Int64} (hj : j.toInt = (k : Int)) (hk : k < n) {g : JFrame} (hg : g.method = m) {rest : List Value} (hs : g.stack = .long x :: .int j :: .ref a :: rest) (hd : decode c.code g.pc = .ok (.lastore, 1)) :
    ∃ T' h', Stand p l e R s m args below meth c T' (locs ++ [⟨a, k⟩]) cells slots ∧ T'.heap = h' ∧ Wr h h' a k (.long x) ∧ owAJ Z h' a .long n (owUp f k x) ∧ ∀ target, Steps p.tables e below (T'.setTop { g with pc := g.pc + 1, stack := rest }) target → Steps p.tables e below (T.setTop g) target := by
  obtain ⟨cl, Ar, S, H⟩ := A
  have st := stJ X hx hZ eT Ar (j := j) (owIn hj hk S) hg hs hd
  rw [owIdx hj] at st
  obtain ⟨T', h', X', e', W, st⟩ := st
  exact ⟨T', h', X', e', W, owSetJ Ar S H hk W, st⟩
theorem owSel {s : State} {args : Array Value} {y : MethodName} {n : Nat} (hi : (Cond.instantiable y.cls n).before args s = true) (hpriv : s.PrivateAt y) (hinst : (Cond.instanceMethod y).before args s = true) (hy : y.cls ≠ "java/lang/invoke/MethodHandle" ∧ y.cls ≠ "java/lang/invoke/VarHandle") : (Cond.selects y.cls y y).before args s = true := by
  obtain ⟨c, k, h1, h2, -, h4, -⟩ := Cond.instantiable_spec hi
  have h5 : k.isInterface = false := by cases hq : k.isInterface <;> simp_all
  exact selects_self_of_private h1 h2 h5 hpriv hinst hy
theorem owRetI (X : Stand p l e R s m args below meth c T locs cells slots) (hx : p.tables.exec = Jvm.exec) {pc : Nat} {Ls : Array Slot} {z : Int32} (hret : meth.sig.returnType = some .int) (hd : decode c.code pc = .ok (.ireturn, 1)) {fs : List Frame}
    (hl : ∀ (f : JFrame) (acts : List Action), f.method = m → f.locked = none → f.entered = [] → (doReturn e (T.setTop f) acts (some (.int z))).1 = T.setFrames fs) : Steps p.tables e below (T.setTop (mkF m pc Ls [.int z])) (T.setFrames fs) :=
  X.ireturnOut hx hret rfl (Or.inl rfl) hd hl
end Own
section OwnCopy
variable {p : Program} {l : Launch} {e : Env} {R : Room} {s : State} {m : MethodId} {args : Array Value} {below : List Frame} {meth : Method} {c : Code} {T : State} {locs : List Loc} {cells slots : Nat} {Z : State} {h h' : Heap} {a b : Addr} {n k : Nat}
theorem owArv {ty : FieldType} {f : Nat → Int32} {z : Int32} (A : owAI Z h a ty n f) (hz : z.toInt = (n : Int)) (hf : ∀ i, i < n → fits ty (.int (f i)) = true) : ∃ k, Arv Z h a k ty z ((List.range n).map fun i => Value.int (f i)) (.int 0) := by
  obtain ⟨c, Ar, S, H⟩ := A
  have g : ∀ i, i < n → ((List.range n).map fun i => Value.int (f i)).getD i (.int 0) = .int (f i) := fun i hi => by simp [List.getD, hi]
  refine ⟨c.cls, c, Ar, rfl, by rw [owIdx hz]; exact S, ?_, fun i hi => ?_, fun i hi => ?_⟩
  · rw [Int32.lt_iff_toInt_lt, hz]
    have q : (0 : Int32).toInt = 0 := rfl
    omega
  · rw [S] at hi; rw [H i hi, g i hi]
  · rw [S] at hi; rw [g i hi]; exact hf i hi
theorem owAI.of_arv {ty : FieldType} {z : Int32} {vs : List Value} {d : Value} {k : ClassId} {g : Nat → Int32} (F : Arv Z h a k ty z vs d) (hz : z.toInt = (n : Int)) (hv : ∀ i, i < n → vs.getD i d = .int (g i)) : owAI Z h a ty n g := by
  obtain ⟨c, A, q, S, N, H, G⟩ := F
  exact ⟨c, A, by rw [S]; exact owIdx hz, fun i hi => by rw [H i (by rw [S, owIdx hz]; exact hi), hv i hi]⟩
theorem owCp (X : Stand p l e R s m args below meth c T locs cells slots) (hx : p.tables.exec = Jvm.exec) (hZ : Z.Warmed39 s.vm) {a0 : Array Value} {own : String} {index : Nat} (hown : s.vm.findClass own = some m.cls)
    (w1 : (Cond.methodLink own index Jvm.Stand.acN).before a0 Z = true) (w2 : (Cond.native Jvm.Stand.acN).before a0 Z = true) (w3 : (Cond.static Jvm.Stand.acN).before a0 Z = true) (w4 : (Cond.initialized "java/lang/System").before a0 Z = true) (eT : T.heap = h)
    {ty : FieldType} (hty : refKind ty = false) {na nb : Nat} {fa fb : Nat → Int32} (A : owAI Z h a ty na fa) (B : owAI Z h b ty nb fb) (ga : ∀ i, i < na → fits ty (.int (fa i)) = true) (gb : ∀ i, i < nb → fits ty (.int (fb i)) = true)
    {sp dp nn : Int32} {ks kd kn : Nat} (h1 : sp.toInt = (ks : Int)) (h2 : dp.toInt = (kd : Int)) (h3 : nn.toInt = (kn : Int)) (h4 : ks + kn ≤ na) (h5 : kd + kn ≤ nb) (hna : na < 2147483648) (hnb : nb < 2147483648) {n0 : Nat} (N : Fr n0 locs) (ge : n0 ≤ b)
    {g : JFrame} (hg : g.method = m) (hsize : g.locals.size = c.maxLocals) {rest : List Value} (hs : g.stack = .int nn :: .int dp :: .ref b :: .int sp :: .ref a :: rest) (hd : decode c.code g.pc = .ok (.invokestatic index, 3))
    (hf : 1 ≤ R.frames) {W : Nat} (hW : 2 * g.monitorRoom + (rest.map fun v => v.category).sum ≤ W) (hlo : W + (nativeFrameWords "java/lang/System" "arraycopy" 5 + 11) ≤ R.locals) :
    ∃ T' h' L, Stand p l e R s m args below meth c T' L cells slots ∧ T'.heap = h' ∧ Fr n0 L ∧ Keep h h' [b] ∧ owAI Z h' b ty nb (fun i => if kd ≤ i ∧ i < kd + kn then fa (ks + (i - kd)) else fb i) ∧
      ∀ target, Steps p.tables e below (T'.setTop { g with pc := g.pc + 3, stack := rest }) target → Steps p.tables e below (T.setTop g) target := by
  have za : (Int32.ofNat na).toInt = (na : Int) := Int32.toInt_ofNat_of_lt (by omega)
  have zb : (Int32.ofNat nb).toInt = (nb : Int) := Int32.toInt_ofNat_of_lt (by omega)
  obtain ⟨ka, VA⟩ := owArv A za ga
  obtain ⟨kb, VB⟩ := owArv B zb gb
  have neg : ∀ {x : Int32} {j : Nat}, x.toInt = (j : Int) → ¬ x < 0 := fun {x j} hq => by
    rw [Int32.lt_iff_toInt_lt, hq]
    have q : (0 : Int32).toInt = 0 := rfl
    omega
  obtain ⟨T', h', L, X', e', N', K', V', st⟩ := cpA X hx hZ hown w1 w2 w3 w4 eT (us := (List.range nn.toNatClampNeg).map fun i => ((List.range na).map fun i => Value.int (fa i)).getD (sp.toNatClampNeg + i) (.int 0)) VA VB (Or.inl ⟨rfl, hty⟩) (neg h1) (neg h2) (neg h3) (by rw [owIdx h1, owIdx h3, owIdx za]; exact h4) (by rw [owIdx h2, owIdx h3, owIdx zb]; exact h5) rfl (by rw [owIdx h2, owIdx h3]; simpa using h5) N ge hg hsize hs hd hf hW hlo
  refine ⟨T', h', L, X', e', N', K', owAI.of_arv V' zb fun i hi => ?_, st⟩
  rw [owIdx h1, owIdx h2, owIdx h3]
  by_cases q1 : i < kd
  · have q2 : ¬ (kd ≤ i ∧ i < kd + kn) := by omega
    rw [if_neg q2]
    have l1 : i < min kd nb := by omega
    simp [List.getD, List.getElem?_append, List.getElem?_take, q1, hi, l1]
  · by_cases q3 : i < kd + kn
    · rw [if_pos ⟨by omega, q3⟩]
      have l1 : ¬ i < min kd nb := by omega
      have l2 : i - min kd nb < kn := by omega
      have l3 : ks + (i - min kd nb) < na := by omega
      have l4 : min kd nb = kd := by omega
      have l5 : ks + (i - kd) < na := by omega
      have l6 : i - kd < kn := by omega
      have l7 : i < min kd nb + kn := by omega
      simp [List.getD, List.getElem?_append, List.getElem?_drop, l1, l4, l5, l6, q1, q3]
    · rw [if_neg (by omega)]
      have l4 : min kd nb = kd := by omega
      have l6 : ¬ i - kd < kn := by omega
      have l8 : kd + kn + (i - (kd + kn)) = i := by omega
      have l9 : kd + kn + (i - kd - kn) = i := by omega
      simp [List.getD, List.getElem?_append, List.getElem?_drop, l4, l6, q1, q3, hi, l8, l9]
theorem owSel2 {s : State} {args : Array Value} {C : String} {y y' : MethodName} (hs : (Cond.selects C y' y').before args s = true) (hc : y'.cls = y.cls) (hpriv : s.PrivateAt y) (hinst : (Cond.instanceMethod y).before args s = true) (hy : y.cls ≠ "java/lang/invoke/MethodHandle" ∧ y.cls ≠ "java/lang/invoke/VarHandle") : (Cond.selects y.cls y y).before args s = true := by
  obtain ⟨c2, r2, m2, -, -, q3, -, kP, hkP, hkPi⟩ := Cond.selects_spec hs
  have q := findClass_of_methodNamed q3
  rw [hc] at q
  exact selects_self_of_private q hkP hkPi hpriv hinst hy
end OwnCopy

def own_ok (f : Nat → Int32) (c : Nat) : Prop := (∀ i, 0 ≤ (f i).toInt ∧ (f i).toInt < 65536) ∧ ∀ i j, i < j → j < c → (f i).toInt < (f j).toInt
def own_mem (f : Nat → Int32) (c : Nat) (v : Int32) : Prop := ∃ i, i < c ∧ f i = v
def own_res (f : Nat → Int32) (c : Nat) (f' : Nat → Int32) (c' : Nat) (v : Int32) : Prop := 1 ≤ c' ∧ c' ≤ c + 1 ∧ own_ok f' c' ∧ ∀ w, own_mem f' c' w ↔ (w = v ∨ own_mem f c w)
def own_bs (f : Nat → Int32) (c : Nat) (v r : Int32) : Prop := (0 ≤ r.toInt → ∃ k : Nat, k < c ∧ f k = v) ∧ (r.toInt < 0 → ∃ k : Nat, r.toInt = -((k : Int) + 1) ∧ k ≤ c ∧ (∀ i, i < k → (f i).toInt < v.toInt) ∧ ∀ i, k ≤ i → i < c → v.toInt < (f i).toInt)
def own_ins (f : Nat → Int32) (k c : Nat) (v : Int32) : Nat → Int32 := owUp (fun i => if (k + 1) ≤ i ∧ i < (k + 1) + (c - k) then f (k + (i - (k + 1))) else f i) k v
theorem own_fit {f : Nat → Int32} {n : Nat} (h : ∀ i, 0 ≤ (f i).toInt ∧ (f i).toInt < 65536) : ∀ i, i < n → fits .char (.int (f i)) = true := fun i _ => by
  have q := h i
  simp only [fits, Bool.and_eq_true, decide_eq_true_eq, Int32.le_iff_toInt_le]
  have o : (0 : Int32).toInt = 0 := rfl
  have o2 : (65535 : Int32).toInt = 65535 := rfl
  omega
theorem own_nc {v : Int32} (h : 0 ≤ v.toInt ∧ v.toInt < 65536) : (v.toUInt32.toUInt16.toUInt32.toInt32) = v := by
  have q := c_i2c v
  apply Int32.toInt_inj.mp; omega
theorem own_upok {f : Nat → Int32} {k : Nat} {v : Int32} (h : ∀ i, 0 ≤ (f i).toInt ∧ (f i).toInt < 65536) (hv : 0 ≤ v.toInt ∧ v.toInt < 65536) : ∀ i, 0 ≤ (owUp f k v i).toInt ∧ (owUp f k v i).toInt < 65536 := owUpP (P := fun x : Int32 => 0 ≤ x.toInt ∧ x.toInt < 65536) h hv
theorem own_res_last {f : Nat → Int32} {c : Nat} {v : Int32} (ok : own_ok f c) (hv : 0 ≤ v.toInt ∧ v.toInt < 65536) (hl : ∀ i, i < c → (f i).toInt < v.toInt) : own_res f c (owUp f c v) (c + 1) v := by
  refine ⟨by omega, Nat.le_refl _, ⟨own_upok ok.1 hv, fun i j hij hj => ?_⟩, fun w => ⟨?_, ?_⟩⟩
  · rw [owUp_ne (by omega)]
    by_cases e : j = c
    · rw [e, owUp_at]; exact hl i (by omega)
    · rw [owUp_ne e]; exact ok.2 i j hij (by omega)
  · rintro ⟨i, hi, he⟩
    by_cases e : i = c
    · rw [e, owUp_at] at he; exact Or.inl he.symm
    · rw [owUp_ne e] at he; exact Or.inr ⟨i, by omega, he⟩
  · rintro (rfl | ⟨i, hi, he⟩)
    · exact ⟨c, by omega, owUp_at⟩
    · exact ⟨i, by omega, by rw [owUp_ne (by omega)]; exact he⟩
theorem own_res_found {f : Nat → Int32} {c : Nat} {v : Int32} (ok : own_ok f c) (h1 : 1 ≤ c) (hm : own_mem f c v) : own_res f c f c v := by
  refine ⟨h1, by omega, ok, fun w => ⟨Or.inr, ?_⟩⟩
  rintro (rfl | h)
  · exact hm
  · exact h
theorem own_insA {f : Nat → Int32} {k c i : Nat} {v : Int32} (hi : i < k) : own_ins f k c v i = f i := by
  unfold own_ins; rw [owUp_ne (by omega), if_neg (by omega)]
theorem own_insB {f : Nat → Int32} {k c : Nat} {v : Int32} : own_ins f k c v k = v := owUp_at
theorem own_insC {f : Nat → Int32} {k c i : Nat} {v : Int32} (h1 : k ≤ i) (h2 : i < c) : own_ins f k c v (i + 1) = f i := by
  unfold own_ins; rw [owUp_ne (by omega), if_pos (by omega)]; congr 1; omega
theorem own_res_ins {f : Nat → Int32} {c k : Nat} {v : Int32} (ok : own_ok f c) (hv : 0 ≤ v.toInt ∧ v.toInt < 65536) (hk : k ≤ c) (h1 : ∀ i, i < k → (f i).toInt < v.toInt) (h2 : ∀ i, k ≤ i → i < c → v.toInt < (f i).toInt) : own_res f c (own_ins f k c v) (c + 1) v := by
  have cs : ∀ i, i < c + 1 → (i < k ∧ own_ins f k c v i = f i) ∨ (i = k ∧ own_ins f k c v i = v) ∨ (k < i ∧ own_ins f k c v i = f (i - 1)) := by
    intro i hi
    by_cases a : i < k
    · exact Or.inl ⟨a, own_insA a⟩
    · by_cases b : i = k
      · exact Or.inr (Or.inl ⟨b, by rw [b]; exact own_insB⟩)
      · refine Or.inr (Or.inr ⟨by omega, ?_⟩)
        have := own_insC (f := f) (c := c) (v := v) (show k ≤ i - 1 by omega) (by omega)
        rwa [show i - 1 + 1 = i by omega] at this
  refine ⟨by omega, Nat.le_refl _, ⟨?_, fun i j hij hj => ?_⟩, fun w => ⟨?_, ?_⟩⟩
  · unfold own_ins
    refine own_upok (fun i => ?_) hv
    split
    · exact ok.1 _
    · exact ok.1 _
  · rcases cs i (by omega) with ⟨a1, a2⟩ | ⟨a1, a2⟩ | ⟨a1, a2⟩ <;> rcases cs j hj with ⟨b1, b2⟩ | ⟨b1, b2⟩ | ⟨b1, b2⟩ <;> rw [a2, b2]
    · exact ok.2 i j hij (by omega)
    · exact h1 i a1
    · have x := h1 i a1; have y := h2 (j - 1) (by omega) (by omega); omega
    · omega
    · omega
    · exact h2 (j - 1) (by omega) (by omega)
    · omega
    · omega
    · exact ok.2 (i - 1) (j - 1) (by omega) (by omega)
  · rintro ⟨i, hi, he⟩
    rcases cs i hi with ⟨a1, a2⟩ | ⟨a1, a2⟩ | ⟨a1, a2⟩ <;> rw [a2] at he
    · exact Or.inr ⟨i, by omega, he⟩
    · exact Or.inl he.symm
    · exact Or.inr ⟨i - 1, by omega, he⟩
  · rintro (rfl | ⟨i, hi, he⟩)
    · exact ⟨k, by omega, own_insB⟩
    · by_cases a : i < k
      · exact ⟨i, by omega, by rw [own_insA a]; exact he⟩
      · exact ⟨i + 1, by omega, by rw [own_insC (by omega) hi]; exact he⟩
section
variable {f : Nat → Int32} {v : Int32} {cn km d : Nat} {lo hi mi : Int32}
def own_inv (f : Nat → Int32) (v : Int32) (cn : Nat) (lo hi : Int32) : Prop := 0 ≤ lo.toInt ∧ lo.toInt ≤ hi.toInt + 1 ∧ hi.toInt < (cn : Int) ∧ cn ≤ 4 ∧ (∀ i : Nat, (i : Int) < lo.toInt → (f i).toInt < v.toInt) ∧ (∀ i : Nat, hi.toInt < (i : Int) → i < cn → v.toInt < (f i).toInt)
theorem own_z (hd : hi.toInt + 1 - lo.toInt ≤ ((0 : Nat) : Int)) : hi < lo := by rw [Int32.lt_iff_toInt_lt]; omega
theorem own_out (hv : own_inv f v cn lo hi) (h : hi < lo) : own_bs f cn v (-(lo + (1 : Int32))) := by
  obtain ⟨h1, h2, h3, h4, h5, h6⟩ := hv
  rw [Int32.lt_iff_toInt_lt] at h
  have a1 := c_iadd lo 1
  have a2 := rng32 (lo + 1)
  have a3 := c_ineg (lo + 1)
  have a4 := rng32 (-(lo + 1))
  have o : (1 : Int32).toInt = 1 := rfl
  refine ⟨fun hh => by omega, fun _ => ⟨lo.toInt.toNat, by omega, by omega, fun i hi => h5 i (by omega), fun i hi hc => h6 i (by omega) hc⟩⟩
theorem own_mid (lo hi mi : Int32) (h_mi : mi = (((lo + hi).toUInt32 >>> ((1 : Int32) &&& 31).toUInt32).toInt32)) (hv : own_inv f v cn lo hi) (hq : ¬ hi < lo) : ∃ km : Nat, mi.toInt = (km : Int) ∧ lo.toInt ≤ (km : Int) ∧ (km : Int) ≤ hi.toInt ∧ km < 4 ∧ km < cn := by
  obtain ⟨h1, h2, h3, h4, h5, h6⟩ := hv
  rw [Int32.lt_iff_toInt_lt] at hq
  have a1 := c_iadd lo hi
  have a2 := rng32 (lo + hi)
  have a3 := c_iushr (lo + hi) 1 1 (by decide) (by decide)
  rw [← h_mi] at a3
  exact ⟨mi.toInt.toNat, by omega, by omega, by omega, by omega, by omega⟩
theorem own_right (hv : own_inv f v cn lo hi) (ok : own_ok f cn) (h_km : mi.toInt = (km : Int)) (h_k1 : lo.toInt ≤ (km : Int)) (h_k2 : (km : Int) ≤ hi.toInt) (hn : (f km) < v) : own_inv f v cn (mi + (1 : Int32)) hi := by
  obtain ⟨h1, h2, h3, h4, h5, h6⟩ := hv
  rw [Int32.lt_iff_toInt_lt] at hn
  have a1 := c_iadd mi 1
  have a2 := rng32 (mi + 1)
  have o : (1 : Int32).toInt = 1 := rfl
  refine ⟨by omega, by omega, h3, h4, fun i hi => ?_, h6⟩
  by_cases e : i = km
  · rw [e]; exact hn
  · have := ok.2 i km (by omega) (by omega); omega
theorem own_left (hv : own_inv f v cn lo hi) (ok : own_ok f cn) (h_km : mi.toInt = (km : Int)) (h_k1 : lo.toInt ≤ (km : Int)) (h_k2 : (km : Int) ≤ hi.toInt) (hn : v < (f km)) : own_inv f v cn lo (mi - (1 : Int32)) := by
  obtain ⟨h1, h2, h3, h4, h5, h6⟩ := hv
  rw [Int32.lt_iff_toInt_lt] at hn
  have a1 := c_isub mi 1
  have a2 := rng32 (mi - 1)
  have o : (1 : Int32).toInt = 1 := rfl
  refine ⟨h1, by omega, by omega, h4, h5, fun i hi hc => ?_⟩
  by_cases e : i = km
  · rw [e]; exact hn
  · have := ok.2 km i (by omega) hc; omega
theorem own_rightd (h_km : mi.toInt = (km : Int)) (h_k1 : lo.toInt ≤ (km : Int)) (h_k3 : km < 4) (hd : hi.toInt + 1 - lo.toInt ≤ ((d + 1 : Nat) : Int)) : hi.toInt + 1 - (mi + (1 : Int32)).toInt ≤ (d : Int) := by
  have a1 := c_iadd mi 1
  have a2 := rng32 (mi + 1)
  have o : (1 : Int32).toInt = 1 := rfl
  omega
theorem own_leftd (h_km : mi.toInt = (km : Int)) (h_k2 : (km : Int) ≤ hi.toInt) (h_k3 : km < 4) (hd : hi.toInt + 1 - lo.toInt ≤ ((d + 1 : Nat) : Int)) : (mi - (1 : Int32)).toInt + 1 - lo.toInt ≤ (d : Int) := by
  have a1 := c_isub mi 1
  have a2 := rng32 (mi - 1)
  have o : (1 : Int32).toInt = 1 := rfl
  omega
theorem own_found (h_km : mi.toInt = (km : Int)) (h_k4 : km < cn) (n1 : ¬ (f km) < v) (n2 : ¬ v < (f km)) : own_bs f cn v mi := by
  rw [Int32.lt_iff_toInt_lt] at n1 n2
  exact ⟨fun _ => ⟨km, h_k4, Int32.toInt_inj.mp (by omega)⟩, fun hh => by omega⟩
theorem own_init {ps : Int32} (hps : ps.toInt = (cn : Int)) (hcn : cn ≤ 4) : own_inv f v cn (0 : Int32) (ps - (1 : Int32)) := by
  have a1 := c_isub ps 1
  have a2 := rng32 (ps - 1)
  have o : (1 : Int32).toInt = 1 := rfl
  have o0 : (0 : Int32).toInt = 0 := rfl
  exact ⟨by omega, by omega, by omega, hcn, fun i hi => by omega, fun i hi hc => by omega⟩
theorem own_initd {ps : Int32} (hps : ps.toInt = (cn : Int)) (hcn : cn ≤ 4) : (ps - (1 : Int32)).toInt + 1 - (0 : Int32).toInt ≤ ((4 : Nat) : Int) := by
  have a1 := c_isub ps 1
  have a2 := rng32 (ps - 1)
  have o : (1 : Int32).toInt = 1 := rfl
  have o0 : (0 : Int32).toInt = 0 := rfl
  omega
end
theorem own_m1 {x : Int32} {n : Nat} (h : x.toInt = (n : Int)) (h1 : 1 ≤ n) : (x - (1 : Int32)).toInt = ((n - 1 : Nat) : Int) := by
  have a3 := rng32 x
  have a1 := c_isub x 1
  have a2 := rng32 (x - 1)
  have o : (1 : Int32).toInt = 1 := rfl
  omega
theorem own_p1 {x : Int32} {n : Nat} (h : x.toInt = (n : Int)) (h1 : n ≤ 100000) : (x + (1 : Int32)).toInt = ((n + 1 : Nat) : Int) := by
  have a1 := c_iadd x 1
  have a2 := rng32 (x + 1)
  have o : (1 : Int32).toInt = 1 := rfl
  omega
theorem own_nk {x : Int32} {n k : Nat} (z : Int32) (h : x.toInt = (n : Int)) (hz : z.toInt = (k : Int)) (h1 : n ≠ k) : ¬ x = z := fun e => by rw [e] at h; omega
theorem own_lt {x z : Int32} {n k : Nat} (h : x.toInt = (n : Int)) (hz : z.toInt = (k : Int)) (h1 : n < k) : x < z := by rw [Int32.lt_iff_toInt_lt]; omega
theorem own_ge {x z : Int32} {n k : Nat} (h : x.toInt = (n : Int)) (hz : z.toInt = (k : Int)) (h1 : k ≤ n) : ¬ x < z := by rw [Int32.lt_iff_toInt_lt]; omega

theorem d13_0 : decode jdk_29_method_65_code 0 = .ok (.iload_n 0, 1) := by decide +kernel
theorem d13_1 : decode jdk_29_method_65_code 1 = .ok (.iload_n 1, 1) := by decide +kernel
theorem d13_2 : decode jdk_29_method_65_code 2 = .ok (.if_icmp .lt 7, 3) := by decide +kernel
theorem d13_5 : decode jdk_29_method_65_code 5 = .ok (.iload_n 0, 1) := by decide +kernel
theorem d13_6 : decode jdk_29_method_65_code 6 = .ok (.goto 4, 3) := by decide +kernel
theorem d13_9 : decode jdk_29_method_65_code 9 = .ok (.iload_n 1, 1) := by decide +kernel
theorem d13_10 : decode jdk_29_method_65_code 10 = .ok (.ireturn, 1) := by decide +kernel
theorem ef_13 (m : MethodId) (x0 : Int32) (x1 : Int32) : entryFrame m #[(.int x0), (.int x1)] 2 = mkF m 0 #[.val (.int x0), .val (.int x1)] [] := by first | (simp [entryFrame, mkF, argsToLocals, Value.category]; done) | rfl
def fn13 (p1 : Int32) (p2 : Int32) : Int32 := (if p1 < p2 then p2 else p1)
def Q13 (Z : State) (p1 : Int32) (p2 : Int32) (h0 : Heap) (n0 : Nat) (v : Option Value) (h : Heap) (L : List Loc) : Prop := v = some (.int (fn13 p1 p2)) ∧ Fr n0 L ∧ h = h0
set_option maxRecDepth 65536 in
set_option maxHeartbeats 40000000 in
theorem rm13 (l : Launch) (Z : State) (a0 : Array Value) (hw : ∀ d ∈ tables_1, d.before a0 Z = true) (ws : List Jvm.Cond) (p1 : Int32) (p2 : Int32) (h0 : Heap) (n0 : Nat) (Z0 : n0 ≤ h0.size) :
    MetFree l (⟨"java/lang/Math", "max", "(II)I"⟩ : MethodName) (head1 (Jvm.Cond.code (⟨"java/lang/Math", "max", "(II)I"⟩ : MethodName) jdk_29_method_65_code 2 (some .int) :: ws) ({ frames := 0, cells := 0, slots := 0, locals := 0 } : Room)) (fun a U => a = #[(.int p1), (.int p2)] ∧ Z.Warmed39 U.vm ∧ U.heap = h0) (fun _ _ _ _ _ => True) (fun _ U o U' => ∃ v L, o = .returned v ∧ Q13 Z p1 p2 h0 n0 v U'.heap L ∧ FrameEnd U o U' L ({ frames := 0, cells := 0, slots := 0, locals := 0 } : Room).cells ({ frames := 0, cells := 0, slots := 0, locals := 0 } : Room).slots) := by
  refine MetFree.of_bodySF (Jvm.Free.JP.mathPlain rfl (by decide +kernel)) hisR ?_
  intro p e s m args below meth c s₁ Bd hml0 hP hK
  obtain ⟨rfl, hZ, hh⟩ := hP
  have hx := Bd.exec
  have hby := Bd.bytes
  have hml : c.maxLocals = 2 := hml0
  have hown : s.vm.findClass "java/lang/Math" = some m.cls := findClass_of_methodNamed Bd.named
  have hnm := (name_of_methodNamed Bd.named Bd.method).1
  have X0 : Stand p l e ({ frames := 0, cells := 0, slots := 0, locals := 0 } : Room) s m #[(.int p1), (.int p2)] below meth c s₁ [] 0 0 := Stand.of_body Bd
  have e0 : s₁.heap = h0 := by rw [← hh, Bd.state]; rfl
  have N0 := Fr.nil n0
  have pre0 : ∀ t, Steps p.tables e below (s₁.setTop (mkF m 0 #[.val (.int p1), .val (.int p2)] [])) t → Steps p.tables e below (s₁.setTop (entryFrame m #[(.int p1), (.int p2)] 2)) t := fun t k => castTop (ef_13 m p1 p2) k
  have pre1 : ∀ t, Steps p.tables e below (s₁.setTop (mkF m 2 #[.val (.int p1), .val (.int p2)] [(.int p2), (.int p1)])) t → Steps p.tables e below (s₁.setTop (entryFrame m #[(.int p1), (.int p2)] 2)) t := by
    intro t kt
    refine pre0 _ ?_
    show Steps p.tables e below (s₁.setTop (mkF m 0 #[.val (.int p1), .val (.int p2)] [])) _
    refine XS.iloadN X0.here hx rfl (hb hby d13_0) rfl ?_
    show Steps p.tables e below (s₁.setTop (mkF m 1 #[.val (.int p1), .val (.int p2)] [(.int p1)])) _
    refine XS.iloadN X0.here hx rfl (hb hby d13_1) rfl ?_
    exact kt
  by_cases hc2_2 : p1 < p2
  · skip
    have pre3 : ∀ t, Steps p.tables e below (s₁.setTop (mkF m 10 #[.val (.int p1), .val (.int p2)] [(.int p2)])) t → Steps p.tables e below (s₁.setTop (entryFrame m #[(.int p1), (.int p2)] 2)) t := by
      intro t kt
      refine pre1 _ ?_
      show Steps p.tables e below (s₁.setTop (mkF m 2 #[.val (.int p1), .val (.int p2)] [(.int p2), (.int p1)])) _
      refine XS.icmpYes X0.here hx rfl (pc0 := 2) (pc' := 9) rfl (hb hby d13_2) rfl (XT.ii_lt_t hc2_2) (by decide) (by decide) ?_
      show Steps p.tables e below (s₁.setTop (mkF m 9 #[.val (.int p1), .val (.int p2)] [])) _
      refine XS.iloadN X0.here hx rfl (hb hby d13_9) rfl ?_
      exact kt
    obtain ⟨fs, hr, hrun, hended, hW, hsame⟩ := X0.leave (v := some (.int p2)) (fun h => by rw [Bd.returns] at h; cases h)
    refine ⟨_, _, pre3 _ ?_, hrun, hended, _, _, rfl, ?_, ⟨_, rfl⟩, hW, hsame.mono (by decide) (by decide)⟩
    · show Steps p.tables e below (s₁.setTop (mkF m 10 #[.val (.int p1), .val (.int p2)] [(.int p2)])) _
      exact owRetI X0 hx Bd.returns (hb hby d13_10) hr
    · show Q13 Z p1 p2 h0 n0 _ s₁.heap _
      rw [e0]
      exact ⟨by unfold fn13; rw [if_pos hc2_2], N0, rfl⟩
  · skip
    have pre4 : ∀ t, Steps p.tables e below (s₁.setTop (mkF m 10 #[.val (.int p1), .val (.int p2)] [(.int p1)])) t → Steps p.tables e below (s₁.setTop (entryFrame m #[(.int p1), (.int p2)] 2)) t := by
      intro t kt
      refine pre1 _ ?_
      show Steps p.tables e below (s₁.setTop (mkF m 2 #[.val (.int p1), .val (.int p2)] [(.int p2), (.int p1)])) _
      refine XS.icmpNo X0.here hx rfl (hb hby d13_2) rfl (XT.ii_lt_f hc2_2) ?_
      show Steps p.tables e below (s₁.setTop (mkF m 5 #[.val (.int p1), .val (.int p2)] [])) _
      refine XS.iloadN X0.here hx rfl (hb hby d13_5) rfl ?_
      show Steps p.tables e below (s₁.setTop (mkF m 6 #[.val (.int p1), .val (.int p2)] [(.int p1)])) _
      refine XS.goto X0.here hx rfl (pc0 := 6) (pc' := 10) rfl (hb hby d13_6) (by decide) (by decide) ?_
      exact kt
    obtain ⟨fs, hr, hrun, hended, hW, hsame⟩ := X0.leave (v := some (.int p1)) (fun h => by rw [Bd.returns] at h; cases h)
    refine ⟨_, _, pre4 _ ?_, hrun, hended, _, _, rfl, ?_, ⟨_, rfl⟩, hW, hsame.mono (by decide) (by decide)⟩
    · show Steps p.tables e below (s₁.setTop (mkF m 10 #[.val (.int p1), .val (.int p2)] [(.int p1)])) _
      exact owRetI X0 hx Bd.returns (hb hby d13_10) hr
    · show Q13 Z p1 p2 h0 n0 _ s₁.heap _
      rw [e0]
      exact ⟨by unfold fn13; rw [if_neg hc2_2], N0, rfl⟩
theorem d14_0 : decode jdk_29_method_69_code 0 = .ok (.iload_n 0, 1) := by decide +kernel
theorem d14_1 : decode jdk_29_method_69_code 1 = .ok (.iload_n 1, 1) := by decide +kernel
theorem d14_2 : decode jdk_29_method_69_code 2 = .ok (.if_icmp .gt 7, 3) := by decide +kernel
theorem d14_5 : decode jdk_29_method_69_code 5 = .ok (.iload_n 0, 1) := by decide +kernel
theorem d14_6 : decode jdk_29_method_69_code 6 = .ok (.goto 4, 3) := by decide +kernel
theorem d14_9 : decode jdk_29_method_69_code 9 = .ok (.iload_n 1, 1) := by decide +kernel
theorem d14_10 : decode jdk_29_method_69_code 10 = .ok (.ireturn, 1) := by decide +kernel
theorem ef_14 (m : MethodId) (x0 : Int32) (x1 : Int32) : entryFrame m #[(.int x0), (.int x1)] 2 = mkF m 0 #[.val (.int x0), .val (.int x1)] [] := by first | (simp [entryFrame, mkF, argsToLocals, Value.category]; done) | rfl
def fn14 (p1 : Int32) (p2 : Int32) : Int32 := (if p2 < p1 then p2 else p1)
def Q14 (Z : State) (p1 : Int32) (p2 : Int32) (h0 : Heap) (n0 : Nat) (v : Option Value) (h : Heap) (L : List Loc) : Prop := v = some (.int (fn14 p1 p2)) ∧ Fr n0 L ∧ h = h0
set_option maxRecDepth 65536 in
set_option maxHeartbeats 40000000 in
theorem rm14 (l : Launch) (Z : State) (a0 : Array Value) (hw : ∀ d ∈ tables_1, d.before a0 Z = true) (ws : List Jvm.Cond) (p1 : Int32) (p2 : Int32) (h0 : Heap) (n0 : Nat) (Z0 : n0 ≤ h0.size) :
    MetFree l (⟨"java/lang/Math", "min", "(II)I"⟩ : MethodName) (head1 (Jvm.Cond.code (⟨"java/lang/Math", "min", "(II)I"⟩ : MethodName) jdk_29_method_69_code 2 (some .int) :: ws) ({ frames := 0, cells := 0, slots := 0, locals := 0 } : Room)) (fun a U => a = #[(.int p1), (.int p2)] ∧ Z.Warmed39 U.vm ∧ U.heap = h0) (fun _ _ _ _ _ => True) (fun _ U o U' => ∃ v L, o = .returned v ∧ Q14 Z p1 p2 h0 n0 v U'.heap L ∧ FrameEnd U o U' L ({ frames := 0, cells := 0, slots := 0, locals := 0 } : Room).cells ({ frames := 0, cells := 0, slots := 0, locals := 0 } : Room).slots) := by
  refine MetFree.of_bodySF (Jvm.Free.JP.mathPlain rfl (by decide +kernel)) hisR ?_
  intro p e s m args below meth c s₁ Bd hml0 hP hK
  obtain ⟨rfl, hZ, hh⟩ := hP
  have hx := Bd.exec
  have hby := Bd.bytes
  have hml : c.maxLocals = 2 := hml0
  have hown : s.vm.findClass "java/lang/Math" = some m.cls := findClass_of_methodNamed Bd.named
  have hnm := (name_of_methodNamed Bd.named Bd.method).1
  have X0 : Stand p l e ({ frames := 0, cells := 0, slots := 0, locals := 0 } : Room) s m #[(.int p1), (.int p2)] below meth c s₁ [] 0 0 := Stand.of_body Bd
  have e0 : s₁.heap = h0 := by rw [← hh, Bd.state]; rfl
  have N0 := Fr.nil n0
  have pre0 : ∀ t, Steps p.tables e below (s₁.setTop (mkF m 0 #[.val (.int p1), .val (.int p2)] [])) t → Steps p.tables e below (s₁.setTop (entryFrame m #[(.int p1), (.int p2)] 2)) t := fun t k => castTop (ef_14 m p1 p2) k
  have pre1 : ∀ t, Steps p.tables e below (s₁.setTop (mkF m 2 #[.val (.int p1), .val (.int p2)] [(.int p2), (.int p1)])) t → Steps p.tables e below (s₁.setTop (entryFrame m #[(.int p1), (.int p2)] 2)) t := by
    intro t kt
    refine pre0 _ ?_
    show Steps p.tables e below (s₁.setTop (mkF m 0 #[.val (.int p1), .val (.int p2)] [])) _
    refine XS.iloadN X0.here hx rfl (hb hby d14_0) rfl ?_
    show Steps p.tables e below (s₁.setTop (mkF m 1 #[.val (.int p1), .val (.int p2)] [(.int p1)])) _
    refine XS.iloadN X0.here hx rfl (hb hby d14_1) rfl ?_
    exact kt
  by_cases hc2_2 : p2 < p1
  · skip
    have pre3 : ∀ t, Steps p.tables e below (s₁.setTop (mkF m 10 #[.val (.int p1), .val (.int p2)] [(.int p2)])) t → Steps p.tables e below (s₁.setTop (entryFrame m #[(.int p1), (.int p2)] 2)) t := by
      intro t kt
      refine pre1 _ ?_
      show Steps p.tables e below (s₁.setTop (mkF m 2 #[.val (.int p1), .val (.int p2)] [(.int p2), (.int p1)])) _
      refine XS.icmpYes X0.here hx rfl (pc0 := 2) (pc' := 9) rfl (hb hby d14_2) rfl (XT.ii_gt_t hc2_2) (by decide) (by decide) ?_
      show Steps p.tables e below (s₁.setTop (mkF m 9 #[.val (.int p1), .val (.int p2)] [])) _
      refine XS.iloadN X0.here hx rfl (hb hby d14_9) rfl ?_
      exact kt
    obtain ⟨fs, hr, hrun, hended, hW, hsame⟩ := X0.leave (v := some (.int p2)) (fun h => by rw [Bd.returns] at h; cases h)
    refine ⟨_, _, pre3 _ ?_, hrun, hended, _, _, rfl, ?_, ⟨_, rfl⟩, hW, hsame.mono (by decide) (by decide)⟩
    · show Steps p.tables e below (s₁.setTop (mkF m 10 #[.val (.int p1), .val (.int p2)] [(.int p2)])) _
      exact owRetI X0 hx Bd.returns (hb hby d14_10) hr
    · show Q14 Z p1 p2 h0 n0 _ s₁.heap _
      rw [e0]
      exact ⟨by unfold fn14; rw [if_pos hc2_2], N0, rfl⟩
  · skip
    have pre4 : ∀ t, Steps p.tables e below (s₁.setTop (mkF m 10 #[.val (.int p1), .val (.int p2)] [(.int p1)])) t → Steps p.tables e below (s₁.setTop (entryFrame m #[(.int p1), (.int p2)] 2)) t := by
      intro t kt
      refine pre1 _ ?_
      show Steps p.tables e below (s₁.setTop (mkF m 2 #[.val (.int p1), .val (.int p2)] [(.int p2), (.int p1)])) _
      refine XS.icmpNo X0.here hx rfl (hb hby d14_2) rfl (XT.ii_gt_f hc2_2) ?_
      show Steps p.tables e below (s₁.setTop (mkF m 5 #[.val (.int p1), .val (.int p2)] [])) _
      refine XS.iloadN X0.here hx rfl (hb hby d14_5) rfl ?_
      show Steps p.tables e below (s₁.setTop (mkF m 6 #[.val (.int p1), .val (.int p2)] [(.int p1)])) _
      refine XS.goto X0.here hx rfl (pc0 := 6) (pc' := 10) rfl (hb hby d14_6) (by decide) (by decide) ?_
      exact kt
    obtain ⟨fs, hr, hrun, hended, hW, hsame⟩ := X0.leave (v := some (.int p1)) (fun h => by rw [Bd.returns] at h; cases h)
    refine ⟨_, _, pre4 _ ?_, hrun, hended, _, _, rfl, ?_, ⟨_, rfl⟩, hW, hsame.mono (by decide) (by decide)⟩
    · show Steps p.tables e below (s₁.setTop (mkF m 10 #[.val (.int p1), .val (.int p2)] [(.int p1)])) _
      exact owRetI X0 hx Bd.returns (hb hby d14_10) hr
    · show Q14 Z p1 p2 h0 n0 _ s₁.heap _
      rw [e0]
      exact ⟨by unfold fn14; rw [if_neg hc2_2], N0, rfl⟩
theorem d12_0 : decode prog_30_method_4_code 0 = .ok (.iload_n 1, 1) := by decide +kernel
theorem d12_1 : decode prog_30_method_4_code 1 = .ok (.aload_n 0, 1) := by decide +kernel
theorem d12_2 : decode prog_30_method_4_code 2 = .ok (.getfield 13, 3) := by decide +kernel
theorem d12_5 : decode prog_30_method_4_code 5 = .ok (.iload_n 1, 1) := by decide +kernel
theorem d12_6 : decode prog_30_method_4_code 6 = .ok (.aload_n 0, 1) := by decide +kernel
theorem d12_7 : decode prog_30_method_4_code 7 = .ok (.getfield 7, 3) := by decide +kernel
theorem d12_10 : decode prog_30_method_4_code 10 = .ok (.ishr, 1) := by decide +kernel
theorem d12_11 : decode prog_30_method_4_code 11 = .ok (.invokestatic 26, 3) := by decide +kernel
theorem d12_14 : decode prog_30_method_4_code 14 = .ok (.iadd, 1) := by decide +kernel
theorem d12_15 : decode prog_30_method_4_code 15 = .ok (.ireturn, 1) := by decide +kernel
theorem pn_12 : plainName "com/example/bitweight/bitweight/chunk/Room" = true := by first | (simp [plainName, overriddenIn]; done) | decide +kernel
theorem ef_12 (m : MethodId) (x0 : Addr) (x1 : Int32) : entryFrame m #[(.ref x0), (.int x1)] 2 = mkF m 0 #[.val (.ref x0), .val (.int x1)] [] := by first | (simp [entryFrame, mkF, argsToLocals, Value.category]; done) | rfl
theorem pd_0 : parseMethodDescriptor "(II)I" = some ⟨[.int, .int], some .int⟩ := by decide +kernel
def fn12 (a1 : Addr) (p2 : Int32) : Int32 := (p2 + (fn13 (4 : Int32) (p2 >>> ((2 : Int32) &&& 31))))
def Q12 (Z : State) (a1 : Addr) (p2 : Int32) (h0 : Heap) (n0 : Nat) (v : Option Value) (h : Heap) (L : List Loc) : Prop := v = some (.int (fn12 a1 p2)) ∧ Fr n0 L ∧ h = h0
set_option maxRecDepth 65536 in
set_option maxHeartbeats 40000000 in
theorem rm12 (l : Launch) (Z : State) (a0 : Array Value) (hw : ∀ d ∈ tables_1, d.before a0 Z = true) (ws : List Jvm.Cond) (a1 : Addr) (p2 : Int32) (h0 : Heap) (n0 : Nat) (Z0 : n0 ≤ h0.size) (F_least : Fld Z h0 a1 "com/example/bitweight/bitweight/chunk/Room" "least" "I" (.int (4 : Int32))) (F_shift : Fld Z h0 a1 "com/example/bitweight/bitweight/chunk/Room" "shift" "I" (.int (2 : Int32))) :
    MetFree l (⟨"com/example/bitweight/bitweight/chunk/Room", "stepped", "(I)I"⟩ : MethodName) (head1 (Jvm.Cond.code (⟨"com/example/bitweight/bitweight/chunk/Room", "stepped", "(I)I"⟩ : MethodName) prog_30_method_4_code 2 (some .int) :: ws) ({ frames := 1, cells := 0, slots := 0, locals := 14 } : Room)) (fun a U => a = #[(.ref a1), (.int p2)] ∧ Z.Warmed39 U.vm ∧ U.heap = h0) (fun _ _ _ _ _ => True) (fun _ U o U' => ∃ v L, o = .returned v ∧ Q12 Z a1 p2 h0 n0 v U'.heap L ∧ FrameEnd U o U' L ({ frames := 1, cells := 0, slots := 0, locals := 14 } : Room).cells ({ frames := 1, cells := 0, slots := 0, locals := 14 } : Room).slots) := by
  refine MetFree.of_bodySF (plainFor_of_name pn_12) hisR ?_
  intro p e s m args below meth c s₁ Bd hml0 hP hK
  obtain ⟨rfl, hZ, hh⟩ := hP
  have hx := Bd.exec
  have hby := Bd.bytes
  have hml : c.maxLocals = 2 := hml0
  have hown : s.vm.findClass "com/example/bitweight/bitweight/chunk/Room" = some m.cls := findClass_of_methodNamed Bd.named
  have hnm := (name_of_methodNamed Bd.named Bd.method).1
  have X0 : Stand p l e ({ frames := 1, cells := 0, slots := 0, locals := 14 } : Room) s m #[(.ref a1), (.int p2)] below meth c s₁ [] 0 0 := Stand.of_body Bd
  have e0 : s₁.heap = h0 := by rw [← hh, Bd.state]; rfl
  have N0 := Fr.nil n0
  have pre0 : ∀ t, Steps p.tables e below (s₁.setTop (mkF m 0 #[.val (.ref a1), .val (.int p2)] [])) t → Steps p.tables e below (s₁.setTop (entryFrame m #[(.ref a1), (.int p2)] 2)) t := fun t k => castTop (ef_12 m a1 p2) k
  obtain ⟨T1, X1, hE1, st1⟩ := getF X0 hx hZ hown (host := "") (Or.inl (hw _ (List.mem_of_getElem? (i := 63) rfl))) Via.refl e0 F_least (g := (mkF m 2 #[.val (.ref a1), .val (.int p2)] [(.ref a1), (.int p2)])) rfl rfl (hb hby d12_2)
  obtain ⟨T2, X2, hE2, st2⟩ := getF X1 hx hZ hown (host := "") (Or.inl (hw _ (List.mem_of_getElem? (i := 65) rfl))) Via.refl hE1 F_shift (g := (mkF m 7 #[.val (.ref a1), .val (.int p2)] [(.ref a1), (.int p2), (.int (4 : Int32)), (.int p2)])) rfl rfl (hb hby d12_7)
  obtain ⟨_, _, ⟨T3, L3, k3, n3⟩, -, X3, ⟨Lc3, hQ3, l3, y3, z3⟩, st3⟩ := Jvm.LawKit.callS X2 hx (y := (⟨"java/lang/Math", "max", "(II)I"⟩ : MethodName)) hown (mvT hZ (hw _ (List.mem_of_getElem? (i := 67) rfl))) (mvT hZ (hw _ (List.mem_of_getElem? (i := 68) rfl))) (mvT hZ (hw _ (List.mem_of_getElem? (i := 69) rfl))) (mvT hZ (hw _ (List.mem_of_getElem? (i := 70) rfl))) (by decide) (backOf (W := 1) (rm13 l Z a0 hw [] (4 : Int32) (p2 >>> ((2 : Int32) &&& 31)) h0 n0 Z0) hZ (hw _ (List.mem_of_getElem? (i := 70) rfl)) (hw _ (List.mem_of_getElem? (i := 69) rfl)) (by decide) (by decide)) (g := (mkF m 11 #[.val (.ref a1), .val (.int p2)] [(.int (p2 >>> ((2 : Int32) &&& 31))), (.int (4 : Int32)), (.int p2)])) rfl (by rw [hml]; rfl) (argsL := [(.int (4 : Int32)), (.int (p2 >>> ((2 : Int32) &&& 31)))]) (rest := [(.int p2)]) (lenOf pd_0 rfl) rfl (by show 2 * 0 + _ ≤ _; exact Nat.le_of_eq rfl) (hb hby d12_11) (fun _ _ => ⟨rfl, hE2, (by decide : 0 + 0 ≤ _), (by decide : 0 + 0 ≤ _)⟩)
  dsimp only [Pt.U, Pt.locs, Pt.cells, Pt.slots] at X3 l3 y3 z3 st3 hQ3
  subst l3 y3 z3
  obtain ⟨rfl, N3q, hE3⟩ := hQ3
  have N3 := Fr.app N0 N3q
  have pre4 : ∀ t, Steps p.tables e below (T3.setTop (mkF m 15 #[.val (.ref a1), .val (.int p2)] [(.int (p2 + (fn13 (4 : Int32) (p2 >>> ((2 : Int32) &&& 31)))))])) t → Steps p.tables e below (s₁.setTop (entryFrame m #[(.ref a1), (.int p2)] 2)) t := by
    intro t kt
    refine pre0 _ ?_
    show Steps p.tables e below (s₁.setTop (mkF m 0 #[.val (.ref a1), .val (.int p2)] [])) _
    refine XS.iloadN X0.here hx rfl (hb hby d12_0) rfl ?_
    show Steps p.tables e below (s₁.setTop (mkF m 1 #[.val (.ref a1), .val (.int p2)] [(.int p2)])) _
    refine XS.aloadN X0.here hx rfl (hb hby d12_1) rfl rfl ?_
    show Steps p.tables e below (s₁.setTop (mkF m 2 #[.val (.ref a1), .val (.int p2)] [(.ref a1), (.int p2)])) _
    refine st1 _ ?_
    show Steps p.tables e below (T1.setTop (mkF m 5 #[.val (.ref a1), .val (.int p2)] [(.int (4 : Int32)), (.int p2)])) _
    refine XS.iloadN X1.here hx rfl (hb hby d12_5) rfl ?_
    show Steps p.tables e below (T1.setTop (mkF m 6 #[.val (.ref a1), .val (.int p2)] [(.int p2), (.int (4 : Int32)), (.int p2)])) _
    refine XS.aloadN X1.here hx rfl (hb hby d12_6) rfl rfl ?_
    show Steps p.tables e below (T1.setTop (mkF m 7 #[.val (.ref a1), .val (.int p2)] [(.ref a1), (.int p2), (.int (4 : Int32)), (.int p2)])) _
    refine st2 _ ?_
    show Steps p.tables e below (T2.setTop (mkF m 10 #[.val (.ref a1), .val (.int p2)] [(.int (2 : Int32)), (.int p2), (.int (4 : Int32)), (.int p2)])) _
    refine XS.ishr X2.here hx rfl (hb hby d12_10) rfl ?_
    show Steps p.tables e below (T2.setTop (mkF m 11 #[.val (.ref a1), .val (.int p2)] [(.int (p2 >>> ((2 : Int32) &&& 31))), (.int (4 : Int32)), (.int p2)])) _
    refine st3 _ ?_
    show Steps p.tables e below (T3.setTop (mkF m 14 #[.val (.ref a1), .val (.int p2)] [(.int (fn13 (4 : Int32) (p2 >>> ((2 : Int32) &&& 31)))), (.int p2)])) _
    refine XS.iadd X3.here hx rfl (hb hby d12_14) rfl ?_
    exact kt
  obtain ⟨fs, hr, hrun, hended, hW, hsame⟩ := X3.leave (v := some (.int (p2 + (fn13 (4 : Int32) (p2 >>> ((2 : Int32) &&& 31)))))) (fun h => by rw [Bd.returns] at h; cases h)
  refine ⟨_, _, pre4 _ ?_, hrun, hended, _, _, rfl, ?_, ⟨_, rfl⟩, hW, hsame.mono (by decide) (by decide)⟩
  · show Steps p.tables e below (T3.setTop (mkF m 15 #[.val (.ref a1), .val (.int p2)] [(.int (p2 + (fn13 (4 : Int32) (p2 >>> ((2 : Int32) &&& 31)))))])) _
    exact owRetI X3 hx Bd.returns (hb hby d12_15) hr
  · show Q12 Z a1 p2 h0 n0 _ T3.heap _
    rw [hE3]
    exact ⟨by rfl, N3, rfl⟩
theorem d11_0 : decode prog_30_method_2_code 0 = .ok (.iload_n 2, 1) := by decide +kernel
theorem d11_1 : decode prog_30_method_2_code 1 = .ok (.aload_n 0, 1) := by decide +kernel
theorem d11_2 : decode prog_30_method_2_code 2 = .ok (.iload_n 1, 1) := by decide +kernel
theorem d11_3 : decode prog_30_method_2_code 3 = .ok (.invokevirtual 22, 3) := by decide +kernel
theorem d11_6 : decode prog_30_method_2_code 6 = .ok (.invokestatic 26, 3) := by decide +kernel
theorem d11_9 : decode prog_30_method_2_code 9 = .ok (.aload_n 0, 1) := by decide +kernel
theorem d11_10 : decode prog_30_method_2_code 10 = .ok (.getfield 19, 3) := by decide +kernel
theorem d11_13 : decode prog_30_method_2_code 13 = .ok (.invokestatic 32, 3) := by decide +kernel
theorem d11_16 : decode prog_30_method_2_code 16 = .ok (.ireturn, 1) := by decide +kernel
theorem pn_11 : plainName "com/example/bitweight/bitweight/chunk/Room" = true := by first | (simp [plainName, overriddenIn]; done) | decide +kernel
theorem ef_11 (m : MethodId) (x0 : Addr) (x1 : Int32) (x2 : Int32) : entryFrame m #[(.ref x0), (.int x1), (.int x2)] 3 = mkF m 0 #[.val (.ref x0), .val (.int x1), .val (.int x2)] [] := by first | (simp [entryFrame, mkF, argsToLocals, Value.category]; done) | rfl
theorem pd_1 : parseMethodDescriptor "(I)I" = some ⟨[.int], some .int⟩ := by decide +kernel
def fn11 (a1 : Addr) (p2 : Int32) (p3 : Int32) : Int32 := (fn14 (fn13 p3 (fn12 a1 p2)) (4096 : Int32))
def Q11 (Z : State) (a1 : Addr) (p2 : Int32) (p3 : Int32) (h0 : Heap) (n0 : Nat) (v : Option Value) (h : Heap) (L : List Loc) : Prop := v = some (.int (fn11 a1 p2 p3)) ∧ Fr n0 L ∧ h = h0
set_option maxRecDepth 65536 in
set_option maxHeartbeats 40000000 in
theorem rm11 (l : Launch) (Z : State) (a0 : Array Value) (hw : ∀ d ∈ tables_1, d.before a0 Z = true) (ws : List Jvm.Cond) (a1 : Addr) (p2 : Int32) (p3 : Int32) (h0 : Heap) (n0 : Nat) (Z0 : n0 ≤ h0.size) (E_a1 : Exa Z h0 a1 "com/example/bitweight/bitweight/chunk/Room") (F_least : Fld Z h0 a1 "com/example/bitweight/bitweight/chunk/Room" "least" "I" (.int (4 : Int32))) (F_shift : Fld Z h0 a1 "com/example/bitweight/bitweight/chunk/Room" "shift" "I" (.int (2 : Int32))) (F_most : Fld Z h0 a1 "com/example/bitweight/bitweight/chunk/Room" "most" "I" (.int (4096 : Int32))) :
    MetFree l (⟨"com/example/bitweight/bitweight/chunk/Room", "grown", "(II)I"⟩ : MethodName) (head1 (Jvm.Cond.code (⟨"com/example/bitweight/bitweight/chunk/Room", "grown", "(II)I"⟩ : MethodName) prog_30_method_2_code 3 (some .int) :: ws) ({ frames := 2, cells := 0, slots := 0, locals := 28 } : Room)) (fun a U => a = #[(.ref a1), (.int p2), (.int p3)] ∧ Z.Warmed39 U.vm ∧ U.heap = h0) (fun _ _ _ _ _ => True) (fun _ U o U' => ∃ v L, o = .returned v ∧ Q11 Z a1 p2 p3 h0 n0 v U'.heap L ∧ FrameEnd U o U' L ({ frames := 2, cells := 0, slots := 0, locals := 28 } : Room).cells ({ frames := 2, cells := 0, slots := 0, locals := 28 } : Room).slots) := by
  refine MetFree.of_bodySF (plainFor_of_name pn_11) hisR ?_
  intro p e s m args below meth c s₁ Bd hml0 hP hK
  obtain ⟨rfl, hZ, hh⟩ := hP
  have hx := Bd.exec
  have hby := Bd.bytes
  have hml : c.maxLocals = 3 := hml0
  have hown : s.vm.findClass "com/example/bitweight/bitweight/chunk/Room" = some m.cls := findClass_of_methodNamed Bd.named
  have hnm := (name_of_methodNamed Bd.named Bd.method).1
  have X0 : Stand p l e ({ frames := 2, cells := 0, slots := 0, locals := 28 } : Room) s m #[(.ref a1), (.int p2), (.int p3)] below meth c s₁ [] 0 0 := Stand.of_body Bd
  have e0 : s₁.heap = h0 := by rw [← hh, Bd.state]; rfl
  have N0 := Fr.nil n0
  have pre0 : ∀ t, Steps p.tables e below (s₁.setTop (mkF m 0 #[.val (.ref a1), .val (.int p2), .val (.int p3)] [])) t → Steps p.tables e below (s₁.setTop (entryFrame m #[(.ref a1), (.int p2), (.int p3)] 3)) t := fun t k => castTop (ef_11 m a1 p2 p3) k
  obtain ⟨cq1, q1, q1'⟩ := E_a1.cell
  obtain ⟨_, _, ⟨T1, L1, k1, n1⟩, -, X1, ⟨Lc1, hQ1, l1, y1, z1⟩, st1⟩ := X0.privateBack hx (y := (⟨"com/example/bitweight/bitweight/chunk/Room", "stepped", "(I)I"⟩ : MethodName)) hown (mvT hZ (hw _ (List.mem_of_getElem? (i := 59) rfl))) (mvT hZ (hw _ (List.mem_of_getElem? (i := 60) rfl))) (owSel2 (mvT hZ (hw _ (List.mem_of_getElem? (i := 56) rfl))) rfl (Cond.privateMethod_at (mvP hZ (hw _ (List.mem_of_getElem? (i := 61) rfl)) (args := #[]))) (mvT hZ (hw _ (List.mem_of_getElem? (i := 60) rfl))) (by decide)) (Cond.privateMethod_at (mvP hZ (hw _ (List.mem_of_getElem? (i := 61) rfl)) (args := #[]))) (mvT hZ (hw _ (List.mem_of_getElem? (i := 62) rfl))) (by decide) (backOf (W := 1) (rm12 l Z a0 hw [] a1 p2 h0 n0 Z0 F_least F_shift) hZ (hw _ (List.mem_of_getElem? (i := 62) rfl)) (hw _ (List.mem_of_getElem? (i := 57) rfl)) (by decide) (by decide)) (g := (mkF m 3 #[.val (.ref a1), .val (.int p2), .val (.int p3)] [(.int p2), (.ref a1), (.int p3)])) rfl (by rw [hml]; rfl) (Steps.refl _) (a := a1) (by rw [e0]; exact q1) q1' (argsL := [(.int p2)]) (rest := [(.int p3)]) (lenOf pd_1 rfl) rfl (by show 2 * 0 + _ ≤ _; exact Nat.le_of_eq rfl) (hb hby d11_3) (fun _ _ => ⟨rfl, e0, (by decide : 0 + 0 ≤ _), (by decide : 0 + 0 ≤ _)⟩)
  dsimp only [Pt.U, Pt.locs, Pt.cells, Pt.slots] at X1 l1 y1 z1 st1 hQ1
  subst l1 y1 z1
  obtain ⟨rfl, N1q, hE1⟩ := hQ1
  have N1 := Fr.app N0 N1q
  obtain ⟨_, _, ⟨T2, L2, k2, n2⟩, -, X2, ⟨Lc2, hQ2, l2, y2, z2⟩, st2⟩ := Jvm.LawKit.callS X1 hx (y := (⟨"java/lang/Math", "max", "(II)I"⟩ : MethodName)) hown (mvT hZ (hw _ (List.mem_of_getElem? (i := 67) rfl))) (mvT hZ (hw _ (List.mem_of_getElem? (i := 68) rfl))) (mvT hZ (hw _ (List.mem_of_getElem? (i := 69) rfl))) (mvT hZ (hw _ (List.mem_of_getElem? (i := 70) rfl))) (by decide) (backOf (W := 0) (rm13 l Z a0 hw [] p3 (fn12 a1 p2) h0 n0 Z0) hZ (hw _ (List.mem_of_getElem? (i := 70) rfl)) (hw _ (List.mem_of_getElem? (i := 69) rfl)) (by decide) (by decide)) (g := (mkF m 6 #[.val (.ref a1), .val (.int p2), .val (.int p3)] [(.int (fn12 a1 p2)), (.int p3)])) rfl (by rw [hml]; rfl) (argsL := [(.int p3), (.int (fn12 a1 p2))]) (rest := []) (lenOf pd_0 rfl) rfl (by show 2 * 0 + _ ≤ _; exact Nat.le_of_eq rfl) (hb hby d11_6) (fun _ _ => ⟨rfl, hE1, (by decide : 0 + 0 ≤ _), (by decide : 0 + 0 ≤ _)⟩)
  dsimp only [Pt.U, Pt.locs, Pt.cells, Pt.slots] at X2 l2 y2 z2 st2 hQ2
  subst l2 y2 z2
  obtain ⟨rfl, N2q, hE2⟩ := hQ2
  have N2 := Fr.app N1 N2q
  obtain ⟨T3, X3, hE3, st3⟩ := getF X2 hx hZ hown (host := "") (Or.inl (hw _ (List.mem_of_getElem? (i := 71) rfl))) Via.refl hE2 F_most (g := (mkF m 10 #[.val (.ref a1), .val (.int p2), .val (.int p3)] [(.ref a1), (.int (fn13 p3 (fn12 a1 p2)))])) rfl rfl (hb hby d11_10)
  obtain ⟨_, _, ⟨T4, L4, k4, n4⟩, -, X4, ⟨Lc4, hQ4, l4, y4, z4⟩, st4⟩ := Jvm.LawKit.callS X3 hx (y := (⟨"java/lang/Math", "min", "(II)I"⟩ : MethodName)) hown (mvT hZ (hw _ (List.mem_of_getElem? (i := 73) rfl))) (mvT hZ (hw _ (List.mem_of_getElem? (i := 74) rfl))) (mvT hZ (hw _ (List.mem_of_getElem? (i := 69) rfl))) (mvT hZ (hw _ (List.mem_of_getElem? (i := 75) rfl))) (by decide) (backOf (W := 0) (rm14 l Z a0 hw [] (fn13 p3 (fn12 a1 p2)) (4096 : Int32) h0 n0 Z0) hZ (hw _ (List.mem_of_getElem? (i := 75) rfl)) (hw _ (List.mem_of_getElem? (i := 69) rfl)) (by decide) (by decide)) (g := (mkF m 13 #[.val (.ref a1), .val (.int p2), .val (.int p3)] [(.int (4096 : Int32)), (.int (fn13 p3 (fn12 a1 p2)))])) rfl (by rw [hml]; rfl) (argsL := [(.int (fn13 p3 (fn12 a1 p2))), (.int (4096 : Int32))]) (rest := []) (lenOf pd_0 rfl) rfl (by show 2 * 0 + _ ≤ _; exact Nat.le_of_eq rfl) (hb hby d11_13) (fun _ _ => ⟨rfl, hE3, (by decide : 0 + 0 ≤ _), (by decide : 0 + 0 ≤ _)⟩)
  dsimp only [Pt.U, Pt.locs, Pt.cells, Pt.slots] at X4 l4 y4 z4 st4 hQ4
  subst l4 y4 z4
  obtain ⟨rfl, N4q, hE4⟩ := hQ4
  have N4 := Fr.app N2 N4q
  have pre5 : ∀ t, Steps p.tables e below (T4.setTop (mkF m 16 #[.val (.ref a1), .val (.int p2), .val (.int p3)] [(.int (fn14 (fn13 p3 (fn12 a1 p2)) (4096 : Int32)))])) t → Steps p.tables e below (s₁.setTop (entryFrame m #[(.ref a1), (.int p2), (.int p3)] 3)) t := by
    intro t kt
    refine pre0 _ ?_
    show Steps p.tables e below (s₁.setTop (mkF m 0 #[.val (.ref a1), .val (.int p2), .val (.int p3)] [])) _
    refine XS.iloadN X0.here hx rfl (hb hby d11_0) rfl ?_
    show Steps p.tables e below (s₁.setTop (mkF m 1 #[.val (.ref a1), .val (.int p2), .val (.int p3)] [(.int p3)])) _
    refine XS.aloadN X0.here hx rfl (hb hby d11_1) rfl rfl ?_
    show Steps p.tables e below (s₁.setTop (mkF m 2 #[.val (.ref a1), .val (.int p2), .val (.int p3)] [(.ref a1), (.int p3)])) _
    refine XS.iloadN X0.here hx rfl (hb hby d11_2) rfl ?_
    show Steps p.tables e below (s₁.setTop (mkF m 3 #[.val (.ref a1), .val (.int p2), .val (.int p3)] [(.int p2), (.ref a1), (.int p3)])) _
    refine st1.trans ?_
    show Steps p.tables e below (T1.setTop (mkF m 6 #[.val (.ref a1), .val (.int p2), .val (.int p3)] [(.int (fn12 a1 p2)), (.int p3)])) _
    refine st2 _ ?_
    show Steps p.tables e below (T2.setTop (mkF m 9 #[.val (.ref a1), .val (.int p2), .val (.int p3)] [(.int (fn13 p3 (fn12 a1 p2)))])) _
    refine XS.aloadN X2.here hx rfl (hb hby d11_9) rfl rfl ?_
    show Steps p.tables e below (T2.setTop (mkF m 10 #[.val (.ref a1), .val (.int p2), .val (.int p3)] [(.ref a1), (.int (fn13 p3 (fn12 a1 p2)))])) _
    refine st3 _ ?_
    show Steps p.tables e below (T3.setTop (mkF m 13 #[.val (.ref a1), .val (.int p2), .val (.int p3)] [(.int (4096 : Int32)), (.int (fn13 p3 (fn12 a1 p2)))])) _
    refine st4 _ ?_
    exact kt
  obtain ⟨fs, hr, hrun, hended, hW, hsame⟩ := X4.leave (v := some (.int (fn14 (fn13 p3 (fn12 a1 p2)) (4096 : Int32)))) (fun h => by rw [Bd.returns] at h; cases h)
  refine ⟨_, _, pre5 _ ?_, hrun, hended, _, _, rfl, ?_, ⟨_, rfl⟩, hW, hsame.mono (by decide) (by decide)⟩
  · show Steps p.tables e below (T4.setTop (mkF m 16 #[.val (.ref a1), .val (.int p2), .val (.int p3)] [(.int (fn14 (fn13 p3 (fn12 a1 p2)) (4096 : Int32)))])) _
    exact owRetI X4 hx Bd.returns (hb hby d11_16) hr
  · show Q11 Z a1 p2 p3 h0 n0 _ T4.heap _
    rw [hE4]
    exact ⟨by rfl, N4, rfl⟩
theorem d21_0 : decode prog_30_method_3_code 0 = .ok (.iload_n 2, 1) := by decide +kernel
theorem d21_1 : decode prog_30_method_3_code 1 = .ok (.iload_n 1, 1) := by decide +kernel
theorem d21_2 : decode prog_30_method_3_code 2 = .ok (.if_icmp .le 10, 3) := by decide +kernel
theorem d21_5 : decode prog_30_method_3_code 5 = .ok (.aload_n 0, 1) := by decide +kernel
theorem d21_6 : decode prog_30_method_3_code 6 = .ok (.iload_n 1, 1) := by decide +kernel
theorem d21_7 : decode prog_30_method_3_code 7 = .ok (.iload_n 2, 1) := by decide +kernel
theorem d21_8 : decode prog_30_method_3_code 8 = .ok (.invokevirtual 35, 3) := by decide +kernel
theorem d21_11 : decode prog_30_method_3_code 11 = .ok (.ireturn, 1) := by decide +kernel
theorem d21_12 : decode prog_30_method_3_code 12 = .ok (.iload_n 2, 1) := by decide +kernel
theorem d21_13 : decode prog_30_method_3_code 13 = .ok (.iload_n 1, 1) := by decide +kernel
theorem d21_14 : decode prog_30_method_3_code 14 = .ok (.iconst 4, 1) := by decide +kernel
theorem d21_15 : decode prog_30_method_3_code 15 = .ok (.idiv, 1) := by decide +kernel
theorem d21_16 : decode prog_30_method_3_code 16 = .ok (.if_icmp .le 5, 3) := by decide +kernel
theorem d21_19 : decode prog_30_method_3_code 19 = .ok (.iload_n 1, 1) := by decide +kernel
theorem d21_20 : decode prog_30_method_3_code 20 = .ok (.ireturn, 1) := by decide +kernel
theorem d21_21 : decode prog_30_method_3_code 21 = .ok (.iload_n 1, 1) := by decide +kernel
theorem d21_22 : decode prog_30_method_3_code 22 = .ok (.aload_n 0, 1) := by decide +kernel
theorem d21_23 : decode prog_30_method_3_code 23 = .ok (.getfield 16, 3) := by decide +kernel
theorem d21_26 : decode prog_30_method_3_code 26 = .ok (.aload_n 0, 1) := by decide +kernel
theorem d21_27 : decode prog_30_method_3_code 27 = .ok (.iload_n 2, 1) := by decide +kernel
theorem d21_28 : decode prog_30_method_3_code 28 = .ok (.invokevirtual 22, 3) := by decide +kernel
theorem d21_31 : decode prog_30_method_3_code 31 = .ok (.invokestatic 26, 3) := by decide +kernel
theorem d21_34 : decode prog_30_method_3_code 34 = .ok (.invokestatic 32, 3) := by decide +kernel
theorem d21_37 : decode prog_30_method_3_code 37 = .ok (.ireturn, 1) := by decide +kernel
theorem pn_21 : plainName "com/example/bitweight/bitweight/chunk/Room" = true := by first | (simp [plainName, overriddenIn]; done) | decide +kernel
theorem ef_21 (m : MethodId) (x0 : Addr) (x1 : Int32) (x2 : Int32) : entryFrame m #[(.ref x0), (.int x1), (.int x2)] 3 = mkF m 0 #[.val (.ref x0), .val (.int x1), .val (.int x2)] [] := by first | (simp [entryFrame, mkF, argsToLocals, Value.category]; done) | rfl
def Q21 (Z : State) (a1 : Addr) (p2 : Int32) (p3 : Int32) (h0 : Heap) (n0 : Nat) (v : Option Value) (h : Heap) (L : List Loc) : Prop := v = some (.int p2) ∧ Fr n0 L ∧ h = h0
set_option maxRecDepth 65536 in
set_option maxHeartbeats 40000000 in
theorem rm21 (l : Launch) (Z : State) (a0 : Array Value) (hw : ∀ d ∈ tables_1, d.before a0 Z = true) (ws : List Jvm.Cond) (a1 : Addr) (p2 : Int32) (p3 : Int32) (h0 : Heap) (n0 : Nat) (Z0 : n0 ≤ h0.size) (hz1 : ¬ (p2 < p3)) (hz2 : (p2 / (4 : Int32)) < p3) :
    MetFree l (⟨"com/example/bitweight/bitweight/chunk/Room", "resized", "(II)I"⟩ : MethodName) (head1 (Jvm.Cond.code (⟨"com/example/bitweight/bitweight/chunk/Room", "resized", "(II)I"⟩ : MethodName) prog_30_method_3_code 3 (some .int) :: ws) ({ frames := 0, cells := 0, slots := 0, locals := 0 } : Room)) (fun a U => a = #[(.ref a1), (.int p2), (.int p3)] ∧ Z.Warmed39 U.vm ∧ U.heap = h0) (fun _ _ _ _ _ => True) (fun _ U o U' => ∃ v L, o = .returned v ∧ Q21 Z a1 p2 p3 h0 n0 v U'.heap L ∧ FrameEnd U o U' L ({ frames := 0, cells := 0, slots := 0, locals := 0 } : Room).cells ({ frames := 0, cells := 0, slots := 0, locals := 0 } : Room).slots) := by
  refine MetFree.of_bodySF (plainFor_of_name pn_21) hisR ?_
  intro p e s m args below meth c s₁ Bd hml0 hP hK
  obtain ⟨rfl, hZ, hh⟩ := hP
  have hx := Bd.exec
  have hby := Bd.bytes
  have hml : c.maxLocals = 3 := hml0
  have hown : s.vm.findClass "com/example/bitweight/bitweight/chunk/Room" = some m.cls := findClass_of_methodNamed Bd.named
  have hnm := (name_of_methodNamed Bd.named Bd.method).1
  have X0 : Stand p l e ({ frames := 0, cells := 0, slots := 0, locals := 0 } : Room) s m #[(.ref a1), (.int p2), (.int p3)] below meth c s₁ [] 0 0 := Stand.of_body Bd
  have e0 : s₁.heap = h0 := by rw [← hh, Bd.state]; rfl
  have N0 := Fr.nil n0
  have pre0 : ∀ t, Steps p.tables e below (s₁.setTop (mkF m 0 #[.val (.ref a1), .val (.int p2), .val (.int p3)] [])) t → Steps p.tables e below (s₁.setTop (entryFrame m #[(.ref a1), (.int p2), (.int p3)] 3)) t := fun t k => castTop (ef_21 m a1 p2 p3) k
  have pre1 : ∀ t, Steps p.tables e below (s₁.setTop (mkF m 20 #[.val (.ref a1), .val (.int p2), .val (.int p3)] [(.int p2)])) t → Steps p.tables e below (s₁.setTop (entryFrame m #[(.ref a1), (.int p2), (.int p3)] 3)) t := by
    intro t kt
    refine pre0 _ ?_
    show Steps p.tables e below (s₁.setTop (mkF m 0 #[.val (.ref a1), .val (.int p2), .val (.int p3)] [])) _
    refine XS.iloadN X0.here hx rfl (hb hby d21_0) rfl ?_
    show Steps p.tables e below (s₁.setTop (mkF m 1 #[.val (.ref a1), .val (.int p2), .val (.int p3)] [(.int p3)])) _
    refine XS.iloadN X0.here hx rfl (hb hby d21_1) rfl ?_
    show Steps p.tables e below (s₁.setTop (mkF m 2 #[.val (.ref a1), .val (.int p2), .val (.int p3)] [(.int p2), (.int p3)])) _
    refine XS.icmpYes X0.here hx rfl (pc0 := 2) (pc' := 12) rfl (hb hby d21_2) rfl (XT.ii_le_t hz1) (by decide) (by decide) ?_
    show Steps p.tables e below (s₁.setTop (mkF m 12 #[.val (.ref a1), .val (.int p2), .val (.int p3)] [])) _
    refine XS.iloadN X0.here hx rfl (hb hby d21_12) rfl ?_
    show Steps p.tables e below (s₁.setTop (mkF m 13 #[.val (.ref a1), .val (.int p2), .val (.int p3)] [(.int p3)])) _
    refine XS.iloadN X0.here hx rfl (hb hby d21_13) rfl ?_
    show Steps p.tables e below (s₁.setTop (mkF m 14 #[.val (.ref a1), .val (.int p2), .val (.int p3)] [(.int p2), (.int p3)])) _
    refine XS.iconst X0.here hx rfl (hb hby d21_14) ?_
    show Steps p.tables e below (s₁.setTop (mkF m 15 #[.val (.ref a1), .val (.int p2), .val (.int p3)] [(.int (4 : Int32)), (.int p2), (.int p3)])) _
    refine XS.idiv X0.here hx rfl (hb hby d21_15) rfl (by decide) ?_
    show Steps p.tables e below (s₁.setTop (mkF m 16 #[.val (.ref a1), .val (.int p2), .val (.int p3)] [(.int (p2 / (4 : Int32))), (.int p3)])) _
    refine XS.icmpNo X0.here hx rfl (hb hby d21_16) rfl (XT.ii_le_f hz2) ?_
    show Steps p.tables e below (s₁.setTop (mkF m 19 #[.val (.ref a1), .val (.int p2), .val (.int p3)] [])) _
    refine XS.iloadN X0.here hx rfl (hb hby d21_19) rfl ?_
    exact kt
  obtain ⟨fs, hr, hrun, hended, hW, hsame⟩ := X0.leave (v := some (.int p2)) (fun h => by rw [Bd.returns] at h; cases h)
  refine ⟨_, _, pre1 _ ?_, hrun, hended, _, _, rfl, ?_, ⟨_, rfl⟩, hW, hsame.mono (by decide) (by decide)⟩
  · show Steps p.tables e below (s₁.setTop (mkF m 20 #[.val (.ref a1), .val (.int p2), .val (.int p3)] [(.int p2)])) _
    exact owRetI X0 hx Bd.returns (hb hby d21_20) hr
  · show Q21 Z a1 p2 p3 h0 n0 _ s₁.heap _
    rw [e0]
    exact ⟨rfl, N0, rfl⟩
theorem d3_0 : decode prog_24_method_3_code 0 = .ok (.aload_n 0, 1) := by decide +kernel
theorem d3_1 : decode prog_24_method_3_code 1 = .ok (.invokespecial 5, 3) := by decide +kernel
theorem d3_4 : decode prog_24_method_3_code 4 = .ok (.return_, 1) := by decide +kernel
theorem pn_3 : plainName "com/example/bitweight/bitweight/chunk/Chunk" = true := by first | (simp [plainName, overriddenIn]; done) | decide +kernel
theorem ef_3 (m : MethodId) (x0 : Addr) : entryFrame m #[(.ref x0)] 1 = mkF m 0 #[.val (.ref x0)] [] := by first | (simp [entryFrame, mkF, argsToLocals, Value.category]; done) | rfl
def Q3 (Z : State) (a1 : Addr) (h0 : Heap) (n0 : Nat) (v : Option Value) (h : Heap) (L : List Loc) : Prop := v = none ∧ Fr n0 L ∧ h = h0
set_option maxRecDepth 65536 in
set_option maxHeartbeats 40000000 in
theorem rm3 (l : Launch) (Z : State) (a0 : Array Value) (hw : ∀ d ∈ tables_1, d.before a0 Z = true) (ws : List Jvm.Cond) (a1 : Addr) (h0 : Heap) (n0 : Nat) (Z0 : n0 ≤ h0.size) :
    MetFree l (⟨"com/example/bitweight/bitweight/chunk/Chunk", "<init>", "()V"⟩ : MethodName) (head1 (Jvm.Cond.code (⟨"com/example/bitweight/bitweight/chunk/Chunk", "<init>", "()V"⟩ : MethodName) prog_24_method_3_code 1 none :: ws) ({ frames := 1, cells := 0, slots := 0, locals := 12 } : Room)) (fun a U => a = #[(.ref a1)] ∧ Z.Warmed39 U.vm ∧ U.heap = h0) (fun _ _ _ _ _ => True) (fun _ U o U' => ∃ v L, o = .returned v ∧ Q3 Z a1 h0 n0 v U'.heap L ∧ FrameEnd U o U' L ({ frames := 1, cells := 0, slots := 0, locals := 12 } : Room).cells ({ frames := 1, cells := 0, slots := 0, locals := 12 } : Room).slots) := by
  refine MetFree.of_bodySF (plainFor_of_name pn_3) hisR ?_
  intro p e s m args below meth c s₁ Bd hml0 hP hK
  obtain ⟨rfl, hZ, hh⟩ := hP
  have hx := Bd.exec
  have hby := Bd.bytes
  have hml : c.maxLocals = 1 := hml0
  have hown : s.vm.findClass "com/example/bitweight/bitweight/chunk/Chunk" = some m.cls := findClass_of_methodNamed Bd.named
  have hnm := (name_of_methodNamed Bd.named Bd.method).1
  have X0 : Stand p l e ({ frames := 1, cells := 0, slots := 0, locals := 12 } : Room) s m #[(.ref a1)] below meth c s₁ [] 0 0 := Stand.of_body Bd
  have e0 : s₁.heap = h0 := by rw [← hh, Bd.state]; rfl
  have N0 := Fr.nil n0
  have pre0 : ∀ t, Steps p.tables e below (s₁.setTop (mkF m 0 #[.val (.ref a1)] [])) t → Steps p.tables e below (s₁.setTop (entryFrame m #[(.ref a1)] 1)) t := fun t k => castTop (ef_3 m a1) k
  obtain ⟨T1, X1, hE1, st1⟩ := initO X0 hx hZ hown (hw _ (List.mem_of_getElem? (i := 18) rfl)) (hw _ (List.mem_of_getElem? (i := 19) rfl)) (hw _ (List.mem_of_getElem? (i := 20) rfl)) e0 (g := (mkF m 1 #[.val (.ref a1)] [(.ref a1)])) rfl (by rw [hml]; rfl) rfl (hb hby d3_1) (by decide) (W := 0) (by show 2 * 0 + _ ≤ _; exact Nat.le_of_eq rfl) (by decide)
  have pre2 : ∀ t, Steps p.tables e below (T1.setTop (mkF m 4 #[.val (.ref a1)] [])) t → Steps p.tables e below (s₁.setTop (entryFrame m #[(.ref a1)] 1)) t := by
    intro t kt
    refine pre0 _ ?_
    show Steps p.tables e below (s₁.setTop (mkF m 0 #[.val (.ref a1)] [])) _
    refine XS.aloadN X0.here hx rfl (hb hby d3_0) rfl rfl ?_
    show Steps p.tables e below (s₁.setTop (mkF m 1 #[.val (.ref a1)] [(.ref a1)])) _
    refine st1 _ ?_
    exact kt
  obtain ⟨fs, hr, hrun, hended, hW, hsame⟩ := X1.leave (v := none) (fun _ => rfl)
  refine ⟨_, _, pre2 _ ?_, hrun, hended, _, _, rfl, ?_, ⟨_, rfl⟩, hW, hsame.mono (by decide) (by decide)⟩
  · show Steps p.tables e below (T1.setTop (mkF m 4 #[.val (.ref a1)] [])) _
    exact X1.returnOut hx Bd.returns (hb hby d3_4) hr
  · show Q3 Z a1 h0 n0 _ T1.heap _
    rw [hE1]
    exact ⟨rfl, N0, rfl⟩
theorem d2_0 : decode prog_22_method_2_code 0 = .ok (.aload_n 0, 1) := by decide +kernel
theorem d2_1 : decode prog_22_method_2_code 1 = .ok (.invokespecial 11, 3) := by decide +kernel
theorem d2_4 : decode prog_22_method_2_code 4 = .ok (.aload_n 0, 1) := by decide +kernel
theorem d2_5 : decode prog_22_method_2_code 5 = .ok (.aload_n 1, 1) := by decide +kernel
theorem d2_6 : decode prog_22_method_2_code 6 = .ok (.putfield 16, 3) := by decide +kernel
theorem d2_9 : decode prog_22_method_2_code 9 = .ok (.aload_n 0, 1) := by decide +kernel
theorem d2_10 : decode prog_22_method_2_code 10 = .ok (.iload_n 2, 1) := by decide +kernel
theorem d2_11 : decode prog_22_method_2_code 11 = .ok (.putfield 19, 3) := by decide +kernel
theorem d2_14 : decode prog_22_method_2_code 14 = .ok (.aload_n 0, 1) := by decide +kernel
theorem d2_15 : decode prog_22_method_2_code 15 = .ok (.iload_n 3, 1) := by decide +kernel
theorem d2_16 : decode prog_22_method_2_code 16 = .ok (.putfield 23, 3) := by decide +kernel
theorem d2_19 : decode prog_22_method_2_code 19 = .ok (.return_, 1) := by decide +kernel
theorem pn_2 : plainName "com/example/bitweight/bitweight/chunk/ArrayChunk" = true := by first | (simp [plainName, overriddenIn]; done) | decide +kernel
theorem ef_2 (m : MethodId) (x0 : Addr) (x1 : Addr) (x2 : Int32) (x3 : Int32) : entryFrame m #[(.ref x0), (.ref x1), (.int x2), (.int x3)] 4 = mkF m 0 #[.val (.ref x0), .val (.ref x1), .val (.int x2), .val (.int x3)] [] := by first | (simp [entryFrame, mkF, argsToLocals, Value.category]; done) | rfl
theorem pd_2 : parseMethodDescriptor "()V" = some ⟨[], none⟩ := by decide +kernel
def Q2 (Z : State) (a1 : Addr) (a2 : Addr) (p3 : Int32) (p4 : Int32) (h0 : Heap) (n0 : Nat) (v : Option Value) (h : Heap) (L : List Loc) : Prop := v = none ∧ Fr n0 L ∧ Keep h0 h [a1] ∧ Exa Z h a1 "com/example/bitweight/bitweight/chunk/ArrayChunk" ∧ Fld Z h a1 "com/example/bitweight/bitweight/chunk/ArrayChunk" "values" "[C" (.ref a2) ∧ Fld Z h a1 "com/example/bitweight/bitweight/chunk/ArrayChunk" "cardinality" "I" (.int p3) ∧ Fld Z h a1 "com/example/bitweight/bitweight/chunk/ArrayChunk" "runs" "I" (.int p4)
set_option maxRecDepth 65536 in
set_option maxHeartbeats 40000000 in
theorem rm2 (l : Launch) (Z : State) (a0 : Array Value) (hw : ∀ d ∈ tables_1, d.before a0 Z = true) (ws : List Jvm.Cond) (a1 : Addr) (a2 : Addr) (p3 : Int32) (p4 : Int32) (h0 : Heap) (n0 : Nat) (Z0 : n0 ≤ h0.size) (E_a1 : Exa Z h0 a1 "com/example/bitweight/bitweight/chunk/ArrayChunk") (F_values : Fld Z h0 a1 "com/example/bitweight/bitweight/chunk/ArrayChunk" "values" "[C" .null) (F_cardinality : Fld Z h0 a1 "com/example/bitweight/bitweight/chunk/ArrayChunk" "cardinality" "I" (.int (0 : Int32))) (F_runs : Fld Z h0 a1 "com/example/bitweight/bitweight/chunk/ArrayChunk" "runs" "I" (.int (0 : Int32))) (g_a1 : n0 ≤ a1) :
    MetFree l (⟨"com/example/bitweight/bitweight/chunk/ArrayChunk", "<init>", "([CII)V"⟩ : MethodName) (head1 (Jvm.Cond.code (⟨"com/example/bitweight/bitweight/chunk/ArrayChunk", "<init>", "([CII)V"⟩ : MethodName) prog_22_method_2_code 4 none :: ws) ({ frames := 2, cells := 0, slots := 0, locals := 24 } : Room)) (fun a U => a = #[(.ref a1), (.ref a2), (.int p3), (.int p4)] ∧ Z.Warmed39 U.vm ∧ U.heap = h0) (fun _ _ _ _ _ => True) (fun _ U o U' => ∃ v L, o = .returned v ∧ Q2 Z a1 a2 p3 p4 h0 n0 v U'.heap L ∧ FrameEnd U o U' L ({ frames := 2, cells := 0, slots := 0, locals := 24 } : Room).cells ({ frames := 2, cells := 0, slots := 0, locals := 24 } : Room).slots) := by
  refine MetFree.of_bodySF (plainFor_of_name pn_2) hisR ?_
  intro p e s m args below meth c s₁ Bd hml0 hP hK
  obtain ⟨rfl, hZ, hh⟩ := hP
  have hx := Bd.exec
  have hby := Bd.bytes
  have hml : c.maxLocals = 4 := hml0
  have hown : s.vm.findClass "com/example/bitweight/bitweight/chunk/ArrayChunk" = some m.cls := findClass_of_methodNamed Bd.named
  have hnm := (name_of_methodNamed Bd.named Bd.method).1
  have X0 : Stand p l e ({ frames := 2, cells := 0, slots := 0, locals := 24 } : Room) s m #[(.ref a1), (.ref a2), (.int p3), (.int p4)] below meth c s₁ [] 0 0 := Stand.of_body Bd
  have e0 : s₁.heap = h0 := by rw [← hh, Bd.state]; rfl
  have N0 := Fr.nil n0
  have pre0 : ∀ t, Steps p.tables e below (s₁.setTop (mkF m 0 #[.val (.ref a1), .val (.ref a2), .val (.int p3), .val (.int p4)] [])) t → Steps p.tables e below (s₁.setTop (entryFrame m #[(.ref a1), (.ref a2), (.int p3), (.int p4)] 4)) t := fun t k => castTop (ef_2 m a1 a2 p3 p4) k
  obtain ⟨_, _, ⟨T1, L1, k1, n1⟩, -, X1, ⟨Lc1, hQ1, l1, y1, z1⟩, st1⟩ := X0.specialBack hx (y := (⟨"com/example/bitweight/bitweight/chunk/Chunk", "<init>", "()V"⟩ : MethodName)) rfl hown (mvT hZ (hw _ (List.mem_of_getElem? (i := 13) rfl))) (mvT hZ (hw _ (List.mem_of_getElem? (i := 14) rfl))) (mvT hZ (hw _ (List.mem_of_getElem? (i := 17) rfl))) (by decide) (backOf (W := 0) (rm3 l Z a0 hw [] a1 h0 n0 Z0) hZ (hw _ (List.mem_of_getElem? (i := 17) rfl)) (hw _ (List.mem_of_getElem? (i := 16) rfl)) (by decide) (by decide)) (g := (mkF m 1 #[.val (.ref a1), .val (.ref a2), .val (.int p3), .val (.int p4)] [(.ref a1)])) rfl (by rw [hml]; rfl) (Steps.refl _) (a := a1) (argsL := []) (rest := []) (lenOf pd_2 rfl) rfl (by show 2 * 0 + _ ≤ _; exact Nat.le_of_eq rfl) (hb hby d2_1) (fun _ _ => ⟨rfl, e0, (by decide : 0 + 0 ≤ _), (by decide : 0 + 0 ≤ _)⟩)
  dsimp only [Pt.U, Pt.locs, Pt.cells, Pt.slots] at X1 l1 y1 z1 st1 hQ1
  subst l1 y1 z1
  obtain ⟨rfl, N1q, hE1⟩ := hQ1
  have N1 := Fr.app N0 N1q
  obtain ⟨T2, gh2, X2, hE2, W2, st2⟩ := putF X1 hx hZ hown (host := "") (Or.inl (hw _ (List.mem_of_getElem? (i := 21) rfl))) Via.refl hE1 F_values E_a1 (Or.inl (hw _ (List.mem_of_getElem? (i := 22) rfl))) (hw _ (List.mem_of_getElem? (i := 3) rfl)) (ty := (.array .char)) (by decide) rfl rfl (g := (mkF m 6 #[.val (.ref a1), .val (.ref a2), .val (.int p3), .val (.int p4)] [(.ref a2), (.ref a1)])) rfl rfl (hb hby d2_6)
  have Fw2 := F_values.same W2
  have f3 := E_a1.wr W2
  have f5 := F_cardinality.other W2 (Or.inr (slot_ne (Or.inl (hw _ (List.mem_of_getElem? (i := 24) rfl))) (Or.inl (hw _ (List.mem_of_getElem? (i := 22) rfl))) (by decide) (t := .int) (t' := (.array .char)) (by decide) (by decide)))
  have f6 := F_runs.other W2 (Or.inr (slot_ne (Or.inl (hw _ (List.mem_of_getElem? (i := 26) rfl))) (Or.inl (hw _ (List.mem_of_getElem? (i := 22) rfl))) (by decide) (t := .int) (t' := (.array .char)) (by decide) (by decide)))
  have Z7 := Nat.le_trans Z0 (Keep.of_wr W2).1
  have N8 := Fr.snoc X2 N1 g_a1
  have K9 := (Keep.refl h0 [a1]).wr W2 (Or.inl (List.mem_of_getElem? (i := 0) rfl))
  obtain ⟨T10, gh10, X10, hE10, W10, st10⟩ := putF X2 hx hZ hown (host := "") (Or.inl (hw _ (List.mem_of_getElem? (i := 23) rfl))) Via.refl hE2 f5 f3 (Or.inl (hw _ (List.mem_of_getElem? (i := 24) rfl))) (hw _ (List.mem_of_getElem? (i := 3) rfl)) (ty := .int) (by decide) rfl rfl (g := (mkF m 11 #[.val (.ref a1), .val (.ref a2), .val (.int p3), .val (.int p4)] [(.int p3), (.ref a1)])) rfl rfl (hb hby d2_11)
  have Fw10 := f5.same W10
  have f11 := f3.wr W10
  have f12 := Fw2.other W10 (Or.inr (slot_ne (Or.inl (hw _ (List.mem_of_getElem? (i := 22) rfl))) (Or.inl (hw _ (List.mem_of_getElem? (i := 24) rfl))) (by decide) (t := (.array .char)) (t' := .int) (by decide) (by decide)))
  have f14 := f6.other W10 (Or.inr (slot_ne (Or.inl (hw _ (List.mem_of_getElem? (i := 26) rfl))) (Or.inl (hw _ (List.mem_of_getElem? (i := 24) rfl))) (by decide) (t := .int) (t' := .int) (by decide) (by decide)))
  have Z15 := Nat.le_trans Z7 (Keep.of_wr W10).1
  have N16 := Fr.snoc X10 N8 g_a1
  have K17 := K9.wr W10 (Or.inl (List.mem_of_getElem? (i := 0) rfl))
  obtain ⟨T18, gh18, X18, hE18, W18, st18⟩ := putF X10 hx hZ hown (host := "") (Or.inl (hw _ (List.mem_of_getElem? (i := 25) rfl))) Via.refl hE10 f14 f11 (Or.inl (hw _ (List.mem_of_getElem? (i := 26) rfl))) (hw _ (List.mem_of_getElem? (i := 3) rfl)) (ty := .int) (by decide) rfl rfl (g := (mkF m 16 #[.val (.ref a1), .val (.ref a2), .val (.int p3), .val (.int p4)] [(.int p4), (.ref a1)])) rfl rfl (hb hby d2_16)
  have Fw18 := f14.same W18
  have f19 := f11.wr W18
  have f20 := f12.other W18 (Or.inr (slot_ne (Or.inl (hw _ (List.mem_of_getElem? (i := 22) rfl))) (Or.inl (hw _ (List.mem_of_getElem? (i := 26) rfl))) (by decide) (t := (.array .char)) (t' := .int) (by decide) (by decide)))
  have f21 := Fw10.other W18 (Or.inr (slot_ne (Or.inl (hw _ (List.mem_of_getElem? (i := 24) rfl))) (Or.inl (hw _ (List.mem_of_getElem? (i := 26) rfl))) (by decide) (t := .int) (t' := .int) (by decide) (by decide)))
  have Z23 := Nat.le_trans Z15 (Keep.of_wr W18).1
  have N24 := Fr.snoc X18 N16 g_a1
  have K25 := K17.wr W18 (Or.inl (List.mem_of_getElem? (i := 0) rfl))
  have pre26 : ∀ t, Steps p.tables e below (T18.setTop (mkF m 19 #[.val (.ref a1), .val (.ref a2), .val (.int p3), .val (.int p4)] [])) t → Steps p.tables e below (s₁.setTop (entryFrame m #[(.ref a1), (.ref a2), (.int p3), (.int p4)] 4)) t := by
    intro t kt
    refine pre0 _ ?_
    show Steps p.tables e below (s₁.setTop (mkF m 0 #[.val (.ref a1), .val (.ref a2), .val (.int p3), .val (.int p4)] [])) _
    refine XS.aloadN X0.here hx rfl (hb hby d2_0) rfl rfl ?_
    show Steps p.tables e below (s₁.setTop (mkF m 1 #[.val (.ref a1), .val (.ref a2), .val (.int p3), .val (.int p4)] [(.ref a1)])) _
    refine st1.trans ?_
    show Steps p.tables e below (T1.setTop (mkF m 4 #[.val (.ref a1), .val (.ref a2), .val (.int p3), .val (.int p4)] [])) _
    refine XS.aloadN X1.here hx rfl (hb hby d2_4) rfl rfl ?_
    show Steps p.tables e below (T1.setTop (mkF m 5 #[.val (.ref a1), .val (.ref a2), .val (.int p3), .val (.int p4)] [(.ref a1)])) _
    refine XS.aloadN X1.here hx rfl (hb hby d2_5) rfl rfl ?_
    show Steps p.tables e below (T1.setTop (mkF m 6 #[.val (.ref a1), .val (.ref a2), .val (.int p3), .val (.int p4)] [(.ref a2), (.ref a1)])) _
    refine st2 _ ?_
    show Steps p.tables e below (T2.setTop (mkF m 9 #[.val (.ref a1), .val (.ref a2), .val (.int p3), .val (.int p4)] [])) _
    refine XS.aloadN X2.here hx rfl (hb hby d2_9) rfl rfl ?_
    show Steps p.tables e below (T2.setTop (mkF m 10 #[.val (.ref a1), .val (.ref a2), .val (.int p3), .val (.int p4)] [(.ref a1)])) _
    refine XS.iloadN X2.here hx rfl (hb hby d2_10) rfl ?_
    show Steps p.tables e below (T2.setTop (mkF m 11 #[.val (.ref a1), .val (.ref a2), .val (.int p3), .val (.int p4)] [(.int p3), (.ref a1)])) _
    refine st10 _ ?_
    show Steps p.tables e below (T10.setTop (mkF m 14 #[.val (.ref a1), .val (.ref a2), .val (.int p3), .val (.int p4)] [])) _
    refine XS.aloadN X10.here hx rfl (hb hby d2_14) rfl rfl ?_
    show Steps p.tables e below (T10.setTop (mkF m 15 #[.val (.ref a1), .val (.ref a2), .val (.int p3), .val (.int p4)] [(.ref a1)])) _
    refine XS.iloadN X10.here hx rfl (hb hby d2_15) rfl ?_
    show Steps p.tables e below (T10.setTop (mkF m 16 #[.val (.ref a1), .val (.ref a2), .val (.int p3), .val (.int p4)] [(.int p4), (.ref a1)])) _
    refine st18 _ ?_
    exact kt
  obtain ⟨fs, hr, hrun, hended, hW, hsame⟩ := X18.leave (v := none) (fun _ => rfl)
  refine ⟨_, _, pre26 _ ?_, hrun, hended, _, _, rfl, ?_, ⟨_, rfl⟩, hW, hsame.mono (by decide) (by decide)⟩
  · show Steps p.tables e below (T18.setTop (mkF m 19 #[.val (.ref a1), .val (.ref a2), .val (.int p3), .val (.int p4)] [])) _
    exact X18.returnOut hx Bd.returns (hb hby d2_19) hr
  · show Q2 Z a1 a2 p3 p4 h0 n0 _ T18.heap _
    rw [hE18]
    exact ⟨rfl, N24, K25, f19, f20, f21, Fw18⟩
theorem d1_0 : decode prog_22_method_1_code 0 = .ok (.aload_n 0, 1) := by decide +kernel
theorem d1_1 : decode prog_22_method_1_code 1 = .ok (.getstatic 1, 3) := by decide +kernel
theorem d1_4 : decode prog_22_method_1_code 4 = .ok (.iconst 0, 1) := by decide +kernel
theorem d1_5 : decode prog_22_method_1_code 5 = .ok (.iconst 0, 1) := by decide +kernel
theorem d1_6 : decode prog_22_method_1_code 6 = .ok (.invokespecial 7, 3) := by decide +kernel
theorem d1_9 : decode prog_22_method_1_code 9 = .ok (.return_, 1) := by decide +kernel
theorem pn_1 : plainName "com/example/bitweight/bitweight/chunk/ArrayChunk" = true := by first | (simp [plainName, overriddenIn]; done) | decide +kernel
theorem ef_1 (m : MethodId) (x0 : Addr) : entryFrame m #[(.ref x0)] 1 = mkF m 0 #[.val (.ref x0)] [] := by first | (simp [entryFrame, mkF, argsToLocals, Value.category]; done) | rfl
theorem pd_3 : parseMethodDescriptor "([CII)V" = some ⟨[(.array .char), .int, .int], none⟩ := by decide +kernel
def Q1 (Z : State) (a1 : Addr) (an : Addr) (h0 : Heap) (n0 : Nat) (v : Option Value) (h : Heap) (L : List Loc) : Prop := v = none ∧ Fr n0 L ∧ Keep h0 h [a1] ∧ Exa Z h a1 "com/example/bitweight/bitweight/chunk/ArrayChunk" ∧ Fld Z h a1 "com/example/bitweight/bitweight/chunk/ArrayChunk" "values" "[C" (.ref an) ∧ Fld Z h a1 "com/example/bitweight/bitweight/chunk/ArrayChunk" "cardinality" "I" (.int (0 : Int32)) ∧ Fld Z h a1 "com/example/bitweight/bitweight/chunk/ArrayChunk" "runs" "I" (.int (0 : Int32))
set_option maxRecDepth 65536 in
set_option maxHeartbeats 40000000 in
theorem rm1 (l : Launch) (Z : State) (a0 : Array Value) (hw : ∀ d ∈ tables_1, d.before a0 Z = true) (ws : List Jvm.Cond) (a1 : Addr) (an : Addr) (h0 : Heap) (n0 : Nat) (Z0 : n0 ≤ h0.size) (E_a1 : Exa Z h0 a1 "com/example/bitweight/bitweight/chunk/ArrayChunk") (F_values : Fld Z h0 a1 "com/example/bitweight/bitweight/chunk/ArrayChunk" "values" "[C" .null) (F_cardinality : Fld Z h0 a1 "com/example/bitweight/bitweight/chunk/ArrayChunk" "cardinality" "I" (.int (0 : Int32))) (F_runs : Fld Z h0 a1 "com/example/bitweight/bitweight/chunk/ArrayChunk" "runs" "I" (.int (0 : Int32))) (g_a1 : n0 ≤ a1) (S_none : Sta Z h0 "com/example/bitweight/bitweight/chunk/ArrayChunk" "NONE" "[C" (.ref an)) :
    MetFree l (⟨"com/example/bitweight/bitweight/chunk/ArrayChunk", "<init>", "()V"⟩ : MethodName) (head1 (Jvm.Cond.code (⟨"com/example/bitweight/bitweight/chunk/ArrayChunk", "<init>", "()V"⟩ : MethodName) prog_22_method_1_code 1 none :: ws) ({ frames := 3, cells := 0, slots := 0, locals := 39 } : Room)) (fun a U => a = #[(.ref a1)] ∧ Z.Warmed39 U.vm ∧ U.heap = h0) (fun _ _ _ _ _ => True) (fun _ U o U' => ∃ v L, o = .returned v ∧ Q1 Z a1 an h0 n0 v U'.heap L ∧ FrameEnd U o U' L ({ frames := 3, cells := 0, slots := 0, locals := 39 } : Room).cells ({ frames := 3, cells := 0, slots := 0, locals := 39 } : Room).slots) := by
  refine MetFree.of_bodySF (plainFor_of_name pn_1) hisR ?_
  intro p e s m args below meth c s₁ Bd hml0 hP hK
  obtain ⟨rfl, hZ, hh⟩ := hP
  have hx := Bd.exec
  have hby := Bd.bytes
  have hml : c.maxLocals = 1 := hml0
  have hown : s.vm.findClass "com/example/bitweight/bitweight/chunk/ArrayChunk" = some m.cls := findClass_of_methodNamed Bd.named
  have hnm := (name_of_methodNamed Bd.named Bd.method).1
  have X0 : Stand p l e ({ frames := 3, cells := 0, slots := 0, locals := 39 } : Room) s m #[(.ref a1)] below meth c s₁ [] 0 0 := Stand.of_body Bd
  have e0 : s₁.heap = h0 := by rw [← hh, Bd.state]; rfl
  have N0 := Fr.nil n0
  have pre0 : ∀ t, Steps p.tables e below (s₁.setTop (mkF m 0 #[.val (.ref a1)] [])) t → Steps p.tables e below (s₁.setTop (entryFrame m #[(.ref a1)] 1)) t := fun t k => castTop (ef_1 m a1) k
  obtain ⟨T1, X1, hE1, st1⟩ := getS2 X0 hx hZ hown (host := "") (Or.inl (hw _ (List.mem_of_getElem? (i := 8) rfl))) Via.refl e0 S_none (g := (mkF m 1 #[.val (.ref a1)] [(.ref a1)])) rfl (hb hby d1_1)
  obtain ⟨_, _, ⟨T2, L2, k2, n2⟩, -, X2, ⟨Lc2, hQ2, l2, y2, z2⟩, st2⟩ := X1.specialBack hx (y := (⟨"com/example/bitweight/bitweight/chunk/ArrayChunk", "<init>", "([CII)V"⟩ : MethodName)) rfl hown (mvT hZ (hw _ (List.mem_of_getElem? (i := 10) rfl))) (mvT hZ (hw _ (List.mem_of_getElem? (i := 11) rfl))) (mvT hZ (hw _ (List.mem_of_getElem? (i := 12) rfl))) (by decide) (backOf (W := 0) (rm2 l Z a0 hw [] a1 an (0 : Int32) (0 : Int32) h0 n0 Z0 E_a1 F_values F_cardinality F_runs g_a1) hZ (hw _ (List.mem_of_getElem? (i := 12) rfl)) (hw _ (List.mem_of_getElem? (i := 4) rfl)) (by decide) (by decide)) (g := (mkF m 6 #[.val (.ref a1)] [(.int (0 : Int32)), (.int (0 : Int32)), (.ref an), (.ref a1)])) rfl (by rw [hml]; rfl) (Steps.refl _) (a := a1) (argsL := [(.ref an), (.int (0 : Int32)), (.int (0 : Int32))]) (rest := []) (lenOf pd_3 rfl) rfl (by show 2 * 0 + _ ≤ _; exact Nat.le_of_eq rfl) (hb hby d1_6) (fun _ _ => ⟨rfl, hE1, (by decide : 0 + 0 ≤ _), (by decide : 0 + 0 ≤ _)⟩)
  dsimp only [Pt.U, Pt.locs, Pt.cells, Pt.slots] at X2 l2 y2 z2 st2 hQ2
  subst l2 y2 z2
  obtain ⟨rfl, N2q, K2, p2_0, p2_1, p2_2, p2_3⟩ := hQ2
  have N2 := Fr.app N0 N2q
  have f3 := E_a1.keep K2
  have Z8 := Nat.le_trans Z0 K2.1
  have K9 := (Keep.refl h0 [a1]).trans K2 (allS (Or.inl (List.mem_of_getElem? (i := 0) rfl)) all0)
  have pre10 : ∀ t, Steps p.tables e below (T2.setTop (mkF m 9 #[.val (.ref a1)] [])) t → Steps p.tables e below (s₁.setTop (entryFrame m #[(.ref a1)] 1)) t := by
    intro t kt
    refine pre0 _ ?_
    show Steps p.tables e below (s₁.setTop (mkF m 0 #[.val (.ref a1)] [])) _
    refine XS.aloadN X0.here hx rfl (hb hby d1_0) rfl rfl ?_
    show Steps p.tables e below (s₁.setTop (mkF m 1 #[.val (.ref a1)] [(.ref a1)])) _
    refine st1 _ ?_
    show Steps p.tables e below (T1.setTop (mkF m 4 #[.val (.ref a1)] [(.ref an), (.ref a1)])) _
    refine XS.iconst X1.here hx rfl (hb hby d1_4) ?_
    show Steps p.tables e below (T1.setTop (mkF m 5 #[.val (.ref a1)] [(.int (0 : Int32)), (.ref an), (.ref a1)])) _
    refine XS.iconst X1.here hx rfl (hb hby d1_5) ?_
    show Steps p.tables e below (T1.setTop (mkF m 6 #[.val (.ref a1)] [(.int (0 : Int32)), (.int (0 : Int32)), (.ref an), (.ref a1)])) _
    refine st2.trans ?_
    exact kt
  obtain ⟨fs, hr, hrun, hended, hW, hsame⟩ := X2.leave (v := none) (fun _ => rfl)
  refine ⟨_, _, pre10 _ ?_, hrun, hended, _, _, rfl, ?_, ⟨_, rfl⟩, hW, hsame.mono (by decide) (by decide)⟩
  · show Steps p.tables e below (T2.setTop (mkF m 9 #[.val (.ref a1)] [])) _
    exact X2.returnOut hx Bd.returns (hb hby d1_9) hr
  · show Q1 Z a1 an h0 n0 _ T2.heap _
    exact ⟨rfl, N2, K9, p2_0, p2_1, p2_2, p2_3⟩
theorem d15_0 : decode jdk_65_method_125_code 0 = .ok (.iload_n 1, 1) := by decide +kernel
theorem d15_1 : decode jdk_65_method_125_code 1 = .ok (.aload_n 0, 1) := by decide +kernel
theorem d15_2 : decode jdk_65_method_125_code 2 = .ok (.arraylength, 1) := by decide +kernel
theorem d15_3 : decode jdk_65_method_125_code 3 = .ok (.if_icmp .ne 11, 3) := by decide +kernel
theorem d15_6 : decode jdk_65_method_125_code 6 = .ok (.aload_n 0, 1) := by decide +kernel
theorem d15_7 : decode jdk_65_method_125_code 7 = .ok (.invokevirtual 322, 3) := by decide +kernel
theorem d15_10 : decode jdk_65_method_125_code 10 = .ok (.checkcast 323, 3) := by decide +kernel
theorem d15_13 : decode jdk_65_method_125_code 13 = .ok (.areturn, 1) := by decide +kernel
theorem d15_14 : decode jdk_65_method_125_code 14 = .ok (.iload_n 1, 1) := by decide +kernel
theorem d15_15 : decode jdk_65_method_125_code 15 = .ok (.newarray .char, 2) := by decide +kernel
theorem d15_17 : decode jdk_65_method_125_code 17 = .ok (.astore_n 2, 1) := by decide +kernel
theorem d15_18 : decode jdk_65_method_125_code 18 = .ok (.aload_n 0, 1) := by decide +kernel
theorem d15_19 : decode jdk_65_method_125_code 19 = .ok (.iconst 0, 1) := by decide +kernel
theorem d15_20 : decode jdk_65_method_125_code 20 = .ok (.aload_n 2, 1) := by decide +kernel
theorem d15_21 : decode jdk_65_method_125_code 21 = .ok (.iconst 0, 1) := by decide +kernel
theorem d15_22 : decode jdk_65_method_125_code 22 = .ok (.aload_n 0, 1) := by decide +kernel
theorem d15_23 : decode jdk_65_method_125_code 23 = .ok (.arraylength, 1) := by decide +kernel
theorem d15_24 : decode jdk_65_method_125_code 24 = .ok (.iload_n 1, 1) := by decide +kernel
theorem d15_25 : decode jdk_65_method_125_code 25 = .ok (.invokestatic 304, 3) := by decide +kernel
theorem d15_28 : decode jdk_65_method_125_code 28 = .ok (.invokestatic 150, 3) := by decide +kernel
theorem d15_31 : decode jdk_65_method_125_code 31 = .ok (.aload_n 2, 1) := by decide +kernel
theorem d15_32 : decode jdk_65_method_125_code 32 = .ok (.areturn, 1) := by decide +kernel
theorem pn_15 : plainName "java/util/Arrays" = true := by first | (simp [plainName, overriddenIn]; done) | decide +kernel
theorem ef_15 (m : MethodId) (x0 : Addr) (x1 : Int32) : entryFrame m #[(.ref x0), (.int x1)] 3 = mkF m 0 #[.val (.ref x0), .val (.int x1), .unset] [] := by first | (simp [entryFrame, mkF, argsToLocals, Value.category]; done) | rfl
def Q15 (Z : State) (a1 : Addr) (h0 : Heap) (n0 : Nat) (v : Option Value) (h : Heap) (L : List Loc) : Prop := ∃ b : Addr, v = some (.ref b) ∧ Fr n0 L ∧ Keep h0 h [] ∧ h0.size ≤ b ∧ owAI Z h b .char 4 (fun _ => 0)
set_option maxRecDepth 65536 in
set_option maxHeartbeats 40000000 in
theorem rm15 (l : Launch) (Z : State) (a0 : Array Value) (hw : ∀ d ∈ tables_1, d.before a0 Z = true) (ws : List Jvm.Cond) (a1 : Addr) (h0 : Heap) (n0 : Nat) (Z0 : n0 ≤ h0.size) (A_a1 : owAI Z h0 a1 .char 0 (fun _ => 0)) :
    MetFree l (⟨"java/util/Arrays", "copyOf", "([CI)[C"⟩ : MethodName) (head1 (Jvm.Cond.code (⟨"java/util/Arrays", "copyOf", "([CI)[C"⟩ : MethodName) jdk_65_method_125_code 3 (some (.array .char)) :: ws) ({ frames := 1, cells := 1, slots := 4, locals := 18 } : Room)) (fun a U => a = #[(.ref a1), (.int (4 : Int32))] ∧ Z.Warmed39 U.vm ∧ U.heap = h0) (fun _ _ _ _ _ => True) (fun _ U o U' => ∃ v L, o = .returned v ∧ Q15 Z a1 h0 n0 v U'.heap L ∧ FrameEnd U o U' L ({ frames := 1, cells := 1, slots := 4, locals := 18 } : Room).cells ({ frames := 1, cells := 1, slots := 4, locals := 18 } : Room).slots) := by
  refine MetFree.of_bodySF (plainFor_of_name pn_15) hisR ?_
  intro p e s m args below meth c s₁ Bd hml0 hP hK
  obtain ⟨rfl, hZ, hh⟩ := hP
  have hx := Bd.exec
  have hby := Bd.bytes
  have hml : c.maxLocals = 3 := hml0
  have hown : s.vm.findClass "java/util/Arrays" = some m.cls := findClass_of_methodNamed Bd.named
  have hnm := (name_of_methodNamed Bd.named Bd.method).1
  have X0 : Stand p l e ({ frames := 1, cells := 1, slots := 4, locals := 18 } : Room) s m #[(.ref a1), (.int (4 : Int32))] below meth c s₁ [] 0 0 := Stand.of_body Bd
  have e0 : s₁.heap = h0 := by rw [← hh, Bd.state]; rfl
  have N0 := Fr.nil n0
  have pre0 : ∀ t, Steps p.tables e below (s₁.setTop (mkF m 0 #[.val (.ref a1), .val (.int (4 : Int32)), .unset] [])) t → Steps p.tables e below (s₁.setTop (entryFrame m #[(.ref a1), (.int (4 : Int32))] 3)) t := fun t k => castTop (ef_15 m a1 (4 : Int32)) k
  obtain ⟨T1, gh1, k1, X1, hE1, E1, A1, st1⟩ := newP X0 hx hZ (hw _ (List.mem_of_getElem? (i := 80) rfl)) e0 (g := (mkF m 15 #[.val (.ref a1), .val (.int (4 : Int32)), .unset] [(.int (4 : Int32))])) rfl (hb hby d15_15) rfl (by decide) (cap := 4) (by decide) (by decide) (by decide) (by decide)
  obtain ⟨bn, g1⟩ : ∃ z, z = h0.size := ⟨_, rfl⟩
  rw [← g1] at A1 st1
  have ne_a1_bn : a1 ≠ bn := Nat.ne_of_lt (Nat.lt_of_lt_of_le A_a1.lt (Nat.le_of_eq g1.symm))
  have g_bn : n0 ≤ bn := Nat.le_trans Z0 (Nat.le_of_eq g1.symm)
  have sz_bn : h0.size ≤ bn := Nat.le_trans (Keep.refl h0 []).1 (Nat.le_of_eq g1.symm)
  have f2 := A_a1.ext E1
  have Z3 := Nat.le_trans Z0 E1.1
  have K4 := (Keep.refl h0 []).ext E1
  have V1 : owAI Z gh1 bn .char 4 (fun _ => 0) := owAI.new A1 rfl rfl
  obtain ⟨_, _, ⟨T5, L5, k5, n5⟩, -, X5, ⟨Lc5, hQ5, l5, y5, z5⟩, st5⟩ := Jvm.LawKit.callS X1 hx (y := (⟨"java/lang/Math", "min", "(II)I"⟩ : MethodName)) hown (mvT hZ (hw _ (List.mem_of_getElem? (i := 81) rfl))) (mvT hZ (hw _ (List.mem_of_getElem? (i := 74) rfl))) (mvT hZ (hw _ (List.mem_of_getElem? (i := 69) rfl))) (mvT hZ (hw _ (List.mem_of_getElem? (i := 75) rfl))) (by decide) (backOf (W := 4) (rm14 l Z a0 hw [] (0 : Int32) (4 : Int32) gh1 n0 Z3) hZ (hw _ (List.mem_of_getElem? (i := 75) rfl)) (hw _ (List.mem_of_getElem? (i := 69) rfl)) (by decide) (by decide)) (g := (mkF m 25 #[.val (.ref a1), .val (.int (4 : Int32)), .val (.ref bn)] [(.int (4 : Int32)), (.int (0 : Int32)), (.int (0 : Int32)), (.ref bn), (.int (0 : Int32)), (.ref a1)])) rfl (by rw [hml]; rfl) (argsL := [(.int (0 : Int32)), (.int (4 : Int32))]) (rest := [(.int (0 : Int32)), (.ref bn), (.int (0 : Int32)), (.ref a1)]) (lenOf pd_0 rfl) rfl (by show 2 * 0 + _ ≤ _; exact Nat.le_of_eq rfl) (hb hby d15_25) (fun _ _ => ⟨rfl, hE1, (by decide : 1 + 0 ≤ _), (by decide : 4 + 0 ≤ _)⟩)
  dsimp only [Pt.U, Pt.locs, Pt.cells, Pt.slots] at X5 l5 y5 z5 st5 hQ5
  subst l5 y5 z5
  obtain ⟨rfl, N5q, hE5⟩ := hQ5
  have N5 := Fr.app N0 N5q
  obtain ⟨T6, gh6, L6, X6, hE6, N6, K6, V6, st6⟩ := owCp X5 hx hZ hown (hw _ (List.mem_of_getElem? (i := 82) rfl)) (hw _ (List.mem_of_getElem? (i := 85) rfl)) (hw _ (List.mem_of_getElem? (i := 83) rfl)) (hw _ (List.mem_of_getElem? (i := 84) rfl)) hE5 rfl f2 V1 (own_fit fun i => by decide) (own_fit fun i => by decide) (sp := (0 : Int32)) (dp := (0 : Int32)) (nn := (fn14 (0 : Int32) (4 : Int32))) (ks := 0) (kd := 0) (kn := 0) rfl rfl (by decide) (by decide) (by decide) (by decide) (by decide) N5 g_bn (g := (mkF m 28 #[.val (.ref a1), .val (.int (4 : Int32)), .val (.ref bn)] [(.int (fn14 (0 : Int32) (4 : Int32))), (.int (0 : Int32)), (.ref bn), (.int (0 : Int32)), (.ref a1)])) rfl (by rw [hml]; rfl) rfl (hb hby d15_28) (by decide) (W := 0) (by show 2 * 0 + _ ≤ _; exact Nat.le_of_eq rfl) (by decide)
  have f7 := f2.keep K6 (ninS ne_a1_bn nin0)
  have VV6 := V6.to (g := fun _ => 0) (fun i hi => by simp)
  have Z9 := Nat.le_trans Z3 K6.1
  have K10 := K4.trans K6 (allS (Or.inr sz_bn) all0)
  have pre11 : ∀ t, Steps p.tables e below (T6.setTop (mkF m 32 #[.val (.ref a1), .val (.int (4 : Int32)), .val (.ref bn)] [(.ref bn)])) t → Steps p.tables e below (s₁.setTop (entryFrame m #[(.ref a1), (.int (4 : Int32))] 3)) t := by
    intro t kt
    refine pre0 _ ?_
    show Steps p.tables e below (s₁.setTop (mkF m 0 #[.val (.ref a1), .val (.int (4 : Int32)), .unset] [])) _
    refine XS.iloadN X0.here hx rfl (hb hby d15_0) rfl ?_
    show Steps p.tables e below (s₁.setTop (mkF m 1 #[.val (.ref a1), .val (.int (4 : Int32)), .unset] [(.int (4 : Int32))])) _
    refine XS.aloadN X0.here hx rfl (hb hby d15_1) rfl rfl ?_
    show Steps p.tables e below (s₁.setTop (mkF m 2 #[.val (.ref a1), .val (.int (4 : Int32)), .unset] [(.ref a1), (.int (4 : Int32))])) _
    refine owLenI X0 hx hZ e0 A_a1 (z := (0 : Int32)) rfl (g := (mkF m 2 #[.val (.ref a1), .val (.int (4 : Int32)), .unset] [(.ref a1), (.int (4 : Int32))])) rfl rfl (hb hby d15_2) _ ?_
    show Steps p.tables e below (s₁.setTop (mkF m 3 #[.val (.ref a1), .val (.int (4 : Int32)), .unset] [(.int (0 : Int32)), (.int (4 : Int32))])) _
    refine XS.icmpYes X0.here hx rfl (pc0 := 3) (pc' := 14) rfl (hb hby d15_3) rfl (XT.ii_ne_t (by decide)) (by decide) (by decide) ?_
    show Steps p.tables e below (s₁.setTop (mkF m 14 #[.val (.ref a1), .val (.int (4 : Int32)), .unset] [])) _
    refine XS.iloadN X0.here hx rfl (hb hby d15_14) rfl ?_
    show Steps p.tables e below (s₁.setTop (mkF m 15 #[.val (.ref a1), .val (.int (4 : Int32)), .unset] [(.int (4 : Int32))])) _
    refine st1 _ ?_
    show Steps p.tables e below (T1.setTop (mkF m 17 #[.val (.ref a1), .val (.int (4 : Int32)), .unset] [(.ref bn)])) _
    refine XS.astoreN X1.here hx rfl (hb hby d15_17) rfl rfl (l' := #[.val (.ref a1), .val (.int (4 : Int32)), .val (.ref bn)]) rfl ?_
    show Steps p.tables e below (T1.setTop (mkF m 18 #[.val (.ref a1), .val (.int (4 : Int32)), .val (.ref bn)] [])) _
    refine XS.aloadN X1.here hx rfl (hb hby d15_18) rfl rfl ?_
    show Steps p.tables e below (T1.setTop (mkF m 19 #[.val (.ref a1), .val (.int (4 : Int32)), .val (.ref bn)] [(.ref a1)])) _
    refine XS.iconst X1.here hx rfl (hb hby d15_19) ?_
    show Steps p.tables e below (T1.setTop (mkF m 20 #[.val (.ref a1), .val (.int (4 : Int32)), .val (.ref bn)] [(.int (0 : Int32)), (.ref a1)])) _
    refine XS.aloadN X1.here hx rfl (hb hby d15_20) rfl rfl ?_
    show Steps p.tables e below (T1.setTop (mkF m 21 #[.val (.ref a1), .val (.int (4 : Int32)), .val (.ref bn)] [(.ref bn), (.int (0 : Int32)), (.ref a1)])) _
    refine XS.iconst X1.here hx rfl (hb hby d15_21) ?_
    show Steps p.tables e below (T1.setTop (mkF m 22 #[.val (.ref a1), .val (.int (4 : Int32)), .val (.ref bn)] [(.int (0 : Int32)), (.ref bn), (.int (0 : Int32)), (.ref a1)])) _
    refine XS.aloadN X1.here hx rfl (hb hby d15_22) rfl rfl ?_
    show Steps p.tables e below (T1.setTop (mkF m 23 #[.val (.ref a1), .val (.int (4 : Int32)), .val (.ref bn)] [(.ref a1), (.int (0 : Int32)), (.ref bn), (.int (0 : Int32)), (.ref a1)])) _
    refine owLenI X1 hx hZ hE1 f2 (z := (0 : Int32)) rfl (g := (mkF m 23 #[.val (.ref a1), .val (.int (4 : Int32)), .val (.ref bn)] [(.ref a1), (.int (0 : Int32)), (.ref bn), (.int (0 : Int32)), (.ref a1)])) rfl rfl (hb hby d15_23) _ ?_
    show Steps p.tables e below (T1.setTop (mkF m 24 #[.val (.ref a1), .val (.int (4 : Int32)), .val (.ref bn)] [(.int (0 : Int32)), (.int (0 : Int32)), (.ref bn), (.int (0 : Int32)), (.ref a1)])) _
    refine XS.iloadN X1.here hx rfl (hb hby d15_24) rfl ?_
    show Steps p.tables e below (T1.setTop (mkF m 25 #[.val (.ref a1), .val (.int (4 : Int32)), .val (.ref bn)] [(.int (4 : Int32)), (.int (0 : Int32)), (.int (0 : Int32)), (.ref bn), (.int (0 : Int32)), (.ref a1)])) _
    refine st5 _ ?_
    show Steps p.tables e below (T5.setTop (mkF m 28 #[.val (.ref a1), .val (.int (4 : Int32)), .val (.ref bn)] [(.int (fn14 (0 : Int32) (4 : Int32))), (.int (0 : Int32)), (.ref bn), (.int (0 : Int32)), (.ref a1)])) _
    refine st6 _ ?_
    show Steps p.tables e below (T6.setTop (mkF m 31 #[.val (.ref a1), .val (.int (4 : Int32)), .val (.ref bn)] [])) _
    refine XS.aloadN X6.here hx rfl (hb hby d15_31) rfl rfl ?_
    exact kt
  obtain ⟨fs, hr, hrun, hended, hW, hsame⟩ := X6.leave (v := some (.ref bn)) (fun h => by rw [Bd.returns] at h; cases h)
  refine ⟨_, _, pre11 _ ?_, hrun, hended, _, _, rfl, ?_, ⟨_, rfl⟩, hW, hsame.mono (by decide) (by decide)⟩
  · show Steps p.tables e below (T6.setTop (mkF m 32 #[.val (.ref a1), .val (.int (4 : Int32)), .val (.ref bn)] [(.ref bn)])) _
    exact X6.areturnOut hx rfl Bd.returns rfl (hb hby d15_32) hr
  · show Q15 Z a1 h0 n0 _ T6.heap _
    rw [hE6]
    exact ⟨bn, rfl, N6, K10, sz_bn, VV6⟩
theorem d17_0 : decode jdk_65_method_30_code 0 = .ok (.iload_n 1, 1) := by decide +kernel
theorem d17_1 : decode jdk_65_method_30_code 1 = .ok (.iload_n 2, 1) := by decide +kernel
theorem d17_2 : decode jdk_65_method_30_code 2 = .ok (.if_icmp .le 44, 3) := by decide +kernel
theorem d17_5 : decode jdk_65_method_30_code 5 = .ok (.new 43, 3) := by decide +kernel
theorem d17_8 : decode jdk_65_method_30_code 8 = .ok (.dup, 1) := by decide +kernel
theorem d17_9 : decode jdk_65_method_30_code 9 = .ok (.new 45, 3) := by decide +kernel
theorem d17_12 : decode jdk_65_method_30_code 12 = .ok (.dup, 1) := by decide +kernel
theorem d17_13 : decode jdk_65_method_30_code 13 = .ok (.invokespecial 47, 3) := by decide +kernel
theorem d17_16 : decode jdk_65_method_30_code 16 = .ok (.ldc 48, 2) := by decide +kernel
theorem d17_18 : decode jdk_65_method_30_code 18 = .ok (.invokevirtual 50, 3) := by decide +kernel
theorem d17_21 : decode jdk_65_method_30_code 21 = .ok (.iload_n 1, 1) := by decide +kernel
theorem d17_22 : decode jdk_65_method_30_code 22 = .ok (.invokevirtual 54, 3) := by decide +kernel
theorem d17_25 : decode jdk_65_method_30_code 25 = .ok (.ldc 57, 2) := by decide +kernel
theorem d17_27 : decode jdk_65_method_30_code 27 = .ok (.invokevirtual 50, 3) := by decide +kernel
theorem d17_30 : decode jdk_65_method_30_code 30 = .ok (.iload_n 2, 1) := by decide +kernel
theorem d17_31 : decode jdk_65_method_30_code 31 = .ok (.invokevirtual 54, 3) := by decide +kernel
theorem d17_34 : decode jdk_65_method_30_code 34 = .ok (.ldc 59, 2) := by decide +kernel
theorem d17_36 : decode jdk_65_method_30_code 36 = .ok (.invokevirtual 50, 3) := by decide +kernel
theorem d17_39 : decode jdk_65_method_30_code 39 = .ok (.invokevirtual 61, 3) := by decide +kernel
theorem d17_42 : decode jdk_65_method_30_code 42 = .ok (.invokespecial 65, 3) := by decide +kernel
theorem d17_45 : decode jdk_65_method_30_code 45 = .ok (.athrow, 1) := by decide +kernel
theorem d17_46 : decode jdk_65_method_30_code 46 = .ok (.iload_n 1, 1) := by decide +kernel
theorem d17_47 : decode jdk_65_method_30_code 47 = .ok (.ifCond .ge 12, 3) := by decide +kernel
theorem d17_50 : decode jdk_65_method_30_code 50 = .ok (.new 68, 3) := by decide +kernel
theorem d17_53 : decode jdk_65_method_30_code 53 = .ok (.dup, 1) := by decide +kernel
theorem d17_54 : decode jdk_65_method_30_code 54 = .ok (.iload_n 1, 1) := by decide +kernel
theorem d17_55 : decode jdk_65_method_30_code 55 = .ok (.invokespecial 70, 3) := by decide +kernel
theorem d17_58 : decode jdk_65_method_30_code 58 = .ok (.athrow, 1) := by decide +kernel
theorem d17_59 : decode jdk_65_method_30_code 59 = .ok (.iload_n 2, 1) := by decide +kernel
theorem d17_60 : decode jdk_65_method_30_code 60 = .ok (.iload_n 0, 1) := by decide +kernel
theorem d17_61 : decode jdk_65_method_30_code 61 = .ok (.if_icmp .le 12, 3) := by decide +kernel
theorem d17_64 : decode jdk_65_method_30_code 64 = .ok (.new 68, 3) := by decide +kernel
theorem d17_67 : decode jdk_65_method_30_code 67 = .ok (.dup, 1) := by decide +kernel
theorem d17_68 : decode jdk_65_method_30_code 68 = .ok (.iload_n 2, 1) := by decide +kernel
theorem d17_69 : decode jdk_65_method_30_code 69 = .ok (.invokespecial 70, 3) := by decide +kernel
theorem d17_72 : decode jdk_65_method_30_code 72 = .ok (.athrow, 1) := by decide +kernel
theorem d17_73 : decode jdk_65_method_30_code 73 = .ok (.return_, 1) := by decide +kernel
theorem pn_17 : plainName "java/util/Arrays" = true := by first | (simp [plainName, overriddenIn]; done) | decide +kernel
theorem ef_17 (m : MethodId) (x0 : Int32) (x1 : Int32) (x2 : Int32) : entryFrame m #[(.int x0), (.int x1), (.int x2)] 3 = mkF m 0 #[.val (.int x0), .val (.int x1), .val (.int x2)] [] := by first | (simp [entryFrame, mkF, argsToLocals, Value.category]; done) | rfl
def Q17 (Z : State) (p1 : Int32) (p2 : Int32) (p3 : Int32) (h0 : Heap) (n0 : Nat) (v : Option Value) (h : Heap) (L : List Loc) : Prop := v = none ∧ Fr n0 L ∧ h = h0
set_option maxRecDepth 65536 in
set_option maxHeartbeats 40000000 in
theorem rm17 (l : Launch) (Z : State) (a0 : Array Value) (hw : ∀ d ∈ tables_1, d.before a0 Z = true) (ws : List Jvm.Cond) (p1 : Int32) (p2 : Int32) (p3 : Int32) (h0 : Heap) (n0 : Nat) (Z0 : n0 ≤ h0.size) (hr1 : ¬ (p3 < p2)) (hr2 : ¬ (p2 < (0 : Int32))) (hr3 : ¬ (p1 < p3)) :
    MetFree l (⟨"java/util/Arrays", "rangeCheck", "(III)V"⟩ : MethodName) (head1 (Jvm.Cond.code (⟨"java/util/Arrays", "rangeCheck", "(III)V"⟩ : MethodName) jdk_65_method_30_code 3 none :: ws) ({ frames := 0, cells := 0, slots := 0, locals := 0 } : Room)) (fun a U => a = #[(.int p1), (.int p2), (.int p3)] ∧ Z.Warmed39 U.vm ∧ U.heap = h0) (fun _ _ _ _ _ => True) (fun _ U o U' => ∃ v L, o = .returned v ∧ Q17 Z p1 p2 p3 h0 n0 v U'.heap L ∧ FrameEnd U o U' L ({ frames := 0, cells := 0, slots := 0, locals := 0 } : Room).cells ({ frames := 0, cells := 0, slots := 0, locals := 0 } : Room).slots) := by
  refine MetFree.of_bodySF (plainFor_of_name pn_17) hisR ?_
  intro p e s m args below meth c s₁ Bd hml0 hP hK
  obtain ⟨rfl, hZ, hh⟩ := hP
  have hx := Bd.exec
  have hby := Bd.bytes
  have hml : c.maxLocals = 3 := hml0
  have hown : s.vm.findClass "java/util/Arrays" = some m.cls := findClass_of_methodNamed Bd.named
  have hnm := (name_of_methodNamed Bd.named Bd.method).1
  have X0 : Stand p l e ({ frames := 0, cells := 0, slots := 0, locals := 0 } : Room) s m #[(.int p1), (.int p2), (.int p3)] below meth c s₁ [] 0 0 := Stand.of_body Bd
  have e0 : s₁.heap = h0 := by rw [← hh, Bd.state]; rfl
  have N0 := Fr.nil n0
  have pre0 : ∀ t, Steps p.tables e below (s₁.setTop (mkF m 0 #[.val (.int p1), .val (.int p2), .val (.int p3)] [])) t → Steps p.tables e below (s₁.setTop (entryFrame m #[(.int p1), (.int p2), (.int p3)] 3)) t := fun t k => castTop (ef_17 m p1 p2 p3) k
  have pre1 : ∀ t, Steps p.tables e below (s₁.setTop (mkF m 73 #[.val (.int p1), .val (.int p2), .val (.int p3)] [])) t → Steps p.tables e below (s₁.setTop (entryFrame m #[(.int p1), (.int p2), (.int p3)] 3)) t := by
    intro t kt
    refine pre0 _ ?_
    show Steps p.tables e below (s₁.setTop (mkF m 0 #[.val (.int p1), .val (.int p2), .val (.int p3)] [])) _
    refine XS.iloadN X0.here hx rfl (hb hby d17_0) rfl ?_
    show Steps p.tables e below (s₁.setTop (mkF m 1 #[.val (.int p1), .val (.int p2), .val (.int p3)] [(.int p2)])) _
    refine XS.iloadN X0.here hx rfl (hb hby d17_1) rfl ?_
    show Steps p.tables e below (s₁.setTop (mkF m 2 #[.val (.int p1), .val (.int p2), .val (.int p3)] [(.int p3), (.int p2)])) _
    refine XS.icmpYes X0.here hx rfl (pc0 := 2) (pc' := 46) rfl (hb hby d17_2) rfl (XT.ii_le_t hr1) (by decide) (by decide) ?_
    show Steps p.tables e below (s₁.setTop (mkF m 46 #[.val (.int p1), .val (.int p2), .val (.int p3)] [])) _
    refine XS.iloadN X0.here hx rfl (hb hby d17_46) rfl ?_
    show Steps p.tables e below (s₁.setTop (mkF m 47 #[.val (.int p1), .val (.int p2), .val (.int p3)] [(.int p2)])) _
    refine XS.ifYes X0.here hx rfl (pc0 := 47) (pc' := 59) rfl (hb hby d17_47) rfl (XT.i0_ge_t hr2) (by decide) (by decide) ?_
    show Steps p.tables e below (s₁.setTop (mkF m 59 #[.val (.int p1), .val (.int p2), .val (.int p3)] [])) _
    refine XS.iloadN X0.here hx rfl (hb hby d17_59) rfl ?_
    show Steps p.tables e below (s₁.setTop (mkF m 60 #[.val (.int p1), .val (.int p2), .val (.int p3)] [(.int p3)])) _
    refine XS.iloadN X0.here hx rfl (hb hby d17_60) rfl ?_
    show Steps p.tables e below (s₁.setTop (mkF m 61 #[.val (.int p1), .val (.int p2), .val (.int p3)] [(.int p1), (.int p3)])) _
    refine XS.icmpYes X0.here hx rfl (pc0 := 61) (pc' := 73) rfl (hb hby d17_61) rfl (XT.ii_le_t hr3) (by decide) (by decide) ?_
    exact kt
  obtain ⟨fs, hr, hrun, hended, hW, hsame⟩ := X0.leave (v := none) (fun _ => rfl)
  refine ⟨_, _, pre1 _ ?_, hrun, hended, _, _, rfl, ?_, ⟨_, rfl⟩, hW, hsame.mono (by decide) (by decide)⟩
  · show Steps p.tables e below (s₁.setTop (mkF m 73 #[.val (.int p1), .val (.int p2), .val (.int p3)] [])) _
    exact X0.returnOut hx Bd.returns (hb hby d17_73) hr
  · show Q17 Z p1 p2 p3 h0 n0 _ s₁.heap _
    rw [e0]
    exact ⟨rfl, N0, rfl⟩
theorem d18_0 : decode jdk_65_method_65_code 0 = .ok (.iload_n 1, 1) := by decide +kernel
theorem d18_1 : decode jdk_65_method_65_code 1 = .ok (.istore 4, 2) := by decide +kernel
theorem d18_3 : decode jdk_65_method_65_code 3 = .ok (.iload_n 2, 1) := by decide +kernel
theorem d18_4 : decode jdk_65_method_65_code 4 = .ok (.iconst 1, 1) := by decide +kernel
theorem d18_5 : decode jdk_65_method_65_code 5 = .ok (.isub, 1) := by decide +kernel
theorem d18_6 : decode jdk_65_method_65_code 6 = .ok (.istore 5, 2) := by decide +kernel
theorem d18_8 : decode jdk_65_method_65_code 8 = .ok (.iload 4, 2) := by decide +kernel
theorem d18_10 : decode jdk_65_method_65_code 10 = .ok (.iload 5, 2) := by decide +kernel
theorem d18_12 : decode jdk_65_method_65_code 12 = .ok (.if_icmp .gt 54, 3) := by decide +kernel
theorem d18_15 : decode jdk_65_method_65_code 15 = .ok (.iload 4, 2) := by decide +kernel
theorem d18_17 : decode jdk_65_method_65_code 17 = .ok (.iload 5, 2) := by decide +kernel
theorem d18_19 : decode jdk_65_method_65_code 19 = .ok (.iadd, 1) := by decide +kernel
theorem d18_20 : decode jdk_65_method_65_code 20 = .ok (.iconst 1, 1) := by decide +kernel
theorem d18_21 : decode jdk_65_method_65_code 21 = .ok (.iushr, 1) := by decide +kernel
theorem d18_22 : decode jdk_65_method_65_code 22 = .ok (.istore 6, 2) := by decide +kernel
theorem d18_24 : decode jdk_65_method_65_code 24 = .ok (.aload_n 0, 1) := by decide +kernel
theorem d18_25 : decode jdk_65_method_65_code 25 = .ok (.iload 6, 2) := by decide +kernel
theorem d18_27 : decode jdk_65_method_65_code 27 = .ok (.caload, 1) := by decide +kernel
theorem d18_28 : decode jdk_65_method_65_code 28 = .ok (.istore 7, 2) := by decide +kernel
theorem d18_30 : decode jdk_65_method_65_code 30 = .ok (.iload 7, 2) := by decide +kernel
theorem d18_32 : decode jdk_65_method_65_code 32 = .ok (.iload_n 3, 1) := by decide +kernel
theorem d18_33 : decode jdk_65_method_65_code 33 = .ok (.if_icmp .ge 12, 3) := by decide +kernel
theorem d18_36 : decode jdk_65_method_65_code 36 = .ok (.iload 6, 2) := by decide +kernel
theorem d18_38 : decode jdk_65_method_65_code 38 = .ok (.iconst 1, 1) := by decide +kernel
theorem d18_39 : decode jdk_65_method_65_code 39 = .ok (.iadd, 1) := by decide +kernel
theorem d18_40 : decode jdk_65_method_65_code 40 = .ok (.istore 4, 2) := by decide +kernel
theorem d18_42 : decode jdk_65_method_65_code 42 = .ok (.goto 21, 3) := by decide +kernel
theorem d18_45 : decode jdk_65_method_65_code 45 = .ok (.iload 7, 2) := by decide +kernel
theorem d18_47 : decode jdk_65_method_65_code 47 = .ok (.iload_n 3, 1) := by decide +kernel
theorem d18_48 : decode jdk_65_method_65_code 48 = .ok (.if_icmp .le 12, 3) := by decide +kernel
theorem d18_51 : decode jdk_65_method_65_code 51 = .ok (.iload 6, 2) := by decide +kernel
theorem d18_53 : decode jdk_65_method_65_code 53 = .ok (.iconst 1, 1) := by decide +kernel
theorem d18_54 : decode jdk_65_method_65_code 54 = .ok (.isub, 1) := by decide +kernel
theorem d18_55 : decode jdk_65_method_65_code 55 = .ok (.istore 5, 2) := by decide +kernel
theorem d18_57 : decode jdk_65_method_65_code 57 = .ok (.goto 6, 3) := by decide +kernel
theorem d18_60 : decode jdk_65_method_65_code 60 = .ok (.iload 6, 2) := by decide +kernel
theorem d18_62 : decode jdk_65_method_65_code 62 = .ok (.ireturn, 1) := by decide +kernel
theorem d18_63 : decode jdk_65_method_65_code 63 = .ok (.goto (-55), 3) := by decide +kernel
theorem d18_66 : decode jdk_65_method_65_code 66 = .ok (.iload 4, 2) := by decide +kernel
theorem d18_68 : decode jdk_65_method_65_code 68 = .ok (.iconst 1, 1) := by decide +kernel
theorem d18_69 : decode jdk_65_method_65_code 69 = .ok (.iadd, 1) := by decide +kernel
theorem d18_70 : decode jdk_65_method_65_code 70 = .ok (.ineg, 1) := by decide +kernel
theorem d18_71 : decode jdk_65_method_65_code 71 = .ok (.ireturn, 1) := by decide +kernel
theorem pn_18 : plainName "java/util/Arrays" = true := by first | (simp [plainName, overriddenIn]; done) | decide +kernel
theorem ef_18 (m : MethodId) (x0 : Addr) (x1 : Int32) (x2 : Int32) (x3 : Int32) : entryFrame m #[(.ref x0), (.int x1), (.int x2), (.int x3)] 8 = mkF m 0 #[.val (.ref x0), .val (.int x1), .val (.int x2), .val (.int x3), .unset, .unset, .unset, .unset] [] := by first | (simp [entryFrame, mkF, argsToLocals, Value.category]; done) | rfl
def Q18 (Z : State) (a1 : Addr) (p3 : Int32) (p4 : Int32) (fv : Nat → Int32) (cn : Nat) (h0 : Heap) (n0 : Nat) (v : Option Value) (h : Heap) (L : List Loc) : Prop := ∃ r : Int32, v = some (.int r) ∧ Fr n0 L ∧ h = h0 ∧ own_bs fv cn p4 r
set_option maxRecDepth 65536 in
set_option maxHeartbeats 40000000 in
theorem rm18 (l : Launch) (Z : State) (a0 : Array Value) (hw : ∀ d ∈ tables_1, d.before a0 Z = true) (ws : List Jvm.Cond) (a1 : Addr) (p3 : Int32) (p4 : Int32) (fv : Nat → Int32) (cn : Nat) (h0 : Heap) (n0 : Nat) (Z0 : n0 ≤ h0.size) (A_a1 : owAI Z h0 a1 .char 4 fv) (hcn : p3.toInt = (cn : Int)) (hc4 : cn ≤ 4) (ok : own_ok fv cn) :
    MetFree l (⟨"java/util/Arrays", "binarySearch0", "([CIIC)I"⟩ : MethodName) (head1 (Jvm.Cond.code (⟨"java/util/Arrays", "binarySearch0", "([CIIC)I"⟩ : MethodName) jdk_65_method_65_code 8 (some .int) :: ws) ({ frames := 0, cells := 0, slots := 0, locals := 0 } : Room)) (fun a U => a = #[(.ref a1), (.int (0 : Int32)), (.int p3), (.int p4)] ∧ Z.Warmed39 U.vm ∧ U.heap = h0) (fun _ _ _ _ _ => True) (fun _ U o U' => ∃ v L, o = .returned v ∧ Q18 Z a1 p3 p4 fv cn h0 n0 v U'.heap L ∧ FrameEnd U o U' L ({ frames := 0, cells := 0, slots := 0, locals := 0 } : Room).cells ({ frames := 0, cells := 0, slots := 0, locals := 0 } : Room).slots) := by
  refine MetFree.of_bodySF (plainFor_of_name pn_18) hisR ?_
  intro p e s m args below meth c s₁ Bd hml0 hP hK
  obtain ⟨rfl, hZ, hh⟩ := hP
  have hx := Bd.exec
  have hby := Bd.bytes
  have hml : c.maxLocals = 8 := hml0
  have hown : s.vm.findClass "java/util/Arrays" = some m.cls := findClass_of_methodNamed Bd.named
  have hnm := (name_of_methodNamed Bd.named Bd.method).1
  have X0 : Stand p l e ({ frames := 0, cells := 0, slots := 0, locals := 0 } : Room) s m #[(.ref a1), (.int (0 : Int32)), (.int p3), (.int p4)] below meth c s₁ [] 0 0 := Stand.of_body Bd
  have e0 : s₁.heap = h0 := by rw [← hh, Bd.state]; rfl
  have N0 := Fr.nil n0
  have pre0 : ∀ t, Steps p.tables e below (s₁.setTop (mkF m 0 #[.val (.ref a1), .val (.int (0 : Int32)), .val (.int p3), .val (.int p4), .unset, .unset, .unset, .unset] [])) t → Steps p.tables e below (s₁.setTop (entryFrame m #[(.ref a1), (.int (0 : Int32)), (.int p3), (.int p4)] 8)) t := fun t k => castTop (ef_18 m a1 (0 : Int32) p3 p4) k
  have pre1 : ∀ t, Steps p.tables e below (s₁.setTop (mkF m 8 #[.val (.ref a1), .val (.int (0 : Int32)), .val (.int p3), .val (.int p4), .val (.int (0 : Int32)), .val (.int (p3 - (1 : Int32))), .unset, .unset] [])) t → Steps p.tables e below (s₁.setTop (entryFrame m #[(.ref a1), (.int (0 : Int32)), (.int p3), (.int p4)] 8)) t := by
    intro t kt
    refine pre0 _ ?_
    show Steps p.tables e below (s₁.setTop (mkF m 0 #[.val (.ref a1), .val (.int (0 : Int32)), .val (.int p3), .val (.int p4), .unset, .unset, .unset, .unset] [])) _
    refine XS.iloadN X0.here hx rfl (hb hby d18_0) rfl ?_
    show Steps p.tables e below (s₁.setTop (mkF m 1 #[.val (.ref a1), .val (.int (0 : Int32)), .val (.int p3), .val (.int p4), .unset, .unset, .unset, .unset] [(.int (0 : Int32))])) _
    refine XS.istore X0.here hx rfl (hb hby d18_1) rfl (l' := #[.val (.ref a1), .val (.int (0 : Int32)), .val (.int p3), .val (.int p4), .val (.int (0 : Int32)), .unset, .unset, .unset]) rfl ?_
    show Steps p.tables e below (s₁.setTop (mkF m 3 #[.val (.ref a1), .val (.int (0 : Int32)), .val (.int p3), .val (.int p4), .val (.int (0 : Int32)), .unset, .unset, .unset] [])) _
    refine XS.iloadN X0.here hx rfl (hb hby d18_3) rfl ?_
    show Steps p.tables e below (s₁.setTop (mkF m 4 #[.val (.ref a1), .val (.int (0 : Int32)), .val (.int p3), .val (.int p4), .val (.int (0 : Int32)), .unset, .unset, .unset] [(.int p3)])) _
    refine XS.iconst X0.here hx rfl (hb hby d18_4) ?_
    show Steps p.tables e below (s₁.setTop (mkF m 5 #[.val (.ref a1), .val (.int (0 : Int32)), .val (.int p3), .val (.int p4), .val (.int (0 : Int32)), .unset, .unset, .unset] [(.int (1 : Int32)), (.int p3)])) _
    refine XS.isub X0.here hx rfl (hb hby d18_5) rfl ?_
    show Steps p.tables e below (s₁.setTop (mkF m 6 #[.val (.ref a1), .val (.int (0 : Int32)), .val (.int p3), .val (.int p4), .val (.int (0 : Int32)), .unset, .unset, .unset] [(.int (p3 - (1 : Int32)))])) _
    refine XS.istore X0.here hx rfl (hb hby d18_6) rfl (l' := #[.val (.ref a1), .val (.int (0 : Int32)), .val (.int p3), .val (.int p4), .val (.int (0 : Int32)), .val (.int (p3 - (1 : Int32))), .unset, .unset]) rfl ?_
    exact kt
  have loop : ∀ (d : Nat) (lo hi : Int32) (s6 s7 : Slot), One s6 → One s7 → own_inv fv p4 cn lo hi → hi.toInt + 1 - lo.toInt ≤ (d : Int) → (∃ (lo' hi' mi' : Int32) (s7' : Slot), own_bs fv cn p4 mi' ∧ ∀ t, Steps p.tables e below (s₁.setTop (mkF m 60 #[.val (.ref a1), .val (.int (0 : Int32)), .val (.int p3), .val (.int p4), .val (.int lo'), .val (.int hi'), .val (.int mi'), s7'] [])) t → Steps p.tables e below (s₁.setTop (mkF m 8 #[.val (.ref a1), .val (.int (0 : Int32)), .val (.int p3), .val (.int p4), .val (.int lo), .val (.int hi), s6, s7] [])) t) ∨ (∃ (lo' hi' : Int32) (s6' s7' : Slot), own_bs fv cn p4 (-(lo' + (1 : Int32))) ∧ ∀ t, Steps p.tables e below (s₁.setTop (mkF m 66 #[.val (.ref a1), .val (.int (0 : Int32)), .val (.int p3), .val (.int p4), .val (.int lo'), .val (.int hi'), s6', s7'] [])) t → Steps p.tables e below (s₁.setTop (mkF m 8 #[.val (.ref a1), .val (.int (0 : Int32)), .val (.int p3), .val (.int p4), .val (.int lo), .val (.int hi), s6, s7] [])) t) := by
    intro d
    induction d with
    | zero =>
      intro lo hi s6 s7 h6 h7 hv hd
      have pre2 : ∀ t, Steps p.tables e below (s₁.setTop (mkF m 8 #[.val (.ref a1), .val (.int (0 : Int32)), .val (.int p3), .val (.int p4), .val (.int lo), .val (.int hi), s6, s7] [])) t → Steps p.tables e below (s₁.setTop (mkF m 8 #[.val (.ref a1), .val (.int (0 : Int32)), .val (.int p3), .val (.int p4), .val (.int lo), .val (.int hi), s6, s7] [])) t := fun _ k => k
      have pre3 : ∀ t, Steps p.tables e below (s₁.setTop (mkF m 66 #[.val (.ref a1), .val (.int (0 : Int32)), .val (.int p3), .val (.int p4), .val (.int lo), .val (.int hi), s6, s7] [])) t → Steps p.tables e below (s₁.setTop (mkF m 8 #[.val (.ref a1), .val (.int (0 : Int32)), .val (.int p3), .val (.int p4), .val (.int lo), .val (.int hi), s6, s7] [])) t := by
        intro t kt
        refine pre2 _ ?_
        show Steps p.tables e below (s₁.setTop (mkF m 8 #[.val (.ref a1), .val (.int (0 : Int32)), .val (.int p3), .val (.int p4), .val (.int lo), .val (.int hi), s6, s7] [])) _
        refine XS.iload X0.here hx rfl (hb hby d18_8) rfl ?_
        show Steps p.tables e below (s₁.setTop (mkF m 10 #[.val (.ref a1), .val (.int (0 : Int32)), .val (.int p3), .val (.int p4), .val (.int lo), .val (.int hi), s6, s7] [(.int lo)])) _
        refine XS.iload X0.here hx rfl (hb hby d18_10) rfl ?_
        show Steps p.tables e below (s₁.setTop (mkF m 12 #[.val (.ref a1), .val (.int (0 : Int32)), .val (.int p3), .val (.int p4), .val (.int lo), .val (.int hi), s6, s7] [(.int hi), (.int lo)])) _
        refine XS.icmpYes X0.here hx rfl (pc0 := 12) (pc' := 66) rfl (hb hby d18_12) rfl (XT.ii_gt_t (own_z hd)) (by decide) (by decide) ?_
        exact kt
      exact Or.inr ⟨lo, hi, s6, s7, own_out hv (own_z hd), fun t kt => pre3 _ kt⟩
    | succ d ih =>
      intro lo hi s6 s7 h6 h7 hv hd
      by_cases hq : hi < lo
      · skip
        have pre4 : ∀ t, Steps p.tables e below (s₁.setTop (mkF m 8 #[.val (.ref a1), .val (.int (0 : Int32)), .val (.int p3), .val (.int p4), .val (.int lo), .val (.int hi), s6, s7] [])) t → Steps p.tables e below (s₁.setTop (mkF m 8 #[.val (.ref a1), .val (.int (0 : Int32)), .val (.int p3), .val (.int p4), .val (.int lo), .val (.int hi), s6, s7] [])) t := fun _ k => k
        have pre5 : ∀ t, Steps p.tables e below (s₁.setTop (mkF m 66 #[.val (.ref a1), .val (.int (0 : Int32)), .val (.int p3), .val (.int p4), .val (.int lo), .val (.int hi), s6, s7] [])) t → Steps p.tables e below (s₁.setTop (mkF m 8 #[.val (.ref a1), .val (.int (0 : Int32)), .val (.int p3), .val (.int p4), .val (.int lo), .val (.int hi), s6, s7] [])) t := by
          intro t kt
          refine pre4 _ ?_
          show Steps p.tables e below (s₁.setTop (mkF m 8 #[.val (.ref a1), .val (.int (0 : Int32)), .val (.int p3), .val (.int p4), .val (.int lo), .val (.int hi), s6, s7] [])) _
          refine XS.iload X0.here hx rfl (hb hby d18_8) rfl ?_
          show Steps p.tables e below (s₁.setTop (mkF m 10 #[.val (.ref a1), .val (.int (0 : Int32)), .val (.int p3), .val (.int p4), .val (.int lo), .val (.int hi), s6, s7] [(.int lo)])) _
          refine XS.iload X0.here hx rfl (hb hby d18_10) rfl ?_
          show Steps p.tables e below (s₁.setTop (mkF m 12 #[.val (.ref a1), .val (.int (0 : Int32)), .val (.int p3), .val (.int p4), .val (.int lo), .val (.int hi), s6, s7] [(.int hi), (.int lo)])) _
          refine XS.icmpYes X0.here hx rfl (pc0 := 12) (pc' := 66) rfl (hb hby d18_12) rfl (XT.ii_gt_t hq) (by decide) (by decide) ?_
          exact kt
        exact Or.inr ⟨lo, hi, s6, s7, own_out hv hq, fun t kt => pre5 _ kt⟩
      · skip
        have pre6 : ∀ t, Steps p.tables e below (s₁.setTop (mkF m 8 #[.val (.ref a1), .val (.int (0 : Int32)), .val (.int p3), .val (.int p4), .val (.int lo), .val (.int hi), s6, s7] [])) t → Steps p.tables e below (s₁.setTop (mkF m 8 #[.val (.ref a1), .val (.int (0 : Int32)), .val (.int p3), .val (.int p4), .val (.int lo), .val (.int hi), s6, s7] [])) t := fun _ k => k
        have pre7 : ∀ t, Steps p.tables e below (s₁.setTop (mkF m 22 #[.val (.ref a1), .val (.int (0 : Int32)), .val (.int p3), .val (.int p4), .val (.int lo), .val (.int hi), s6, s7] [(.int (((lo + hi).toUInt32 >>> ((1 : Int32) &&& 31).toUInt32).toInt32))])) t → Steps p.tables e below (s₁.setTop (mkF m 8 #[.val (.ref a1), .val (.int (0 : Int32)), .val (.int p3), .val (.int p4), .val (.int lo), .val (.int hi), s6, s7] [])) t := by
          intro t kt
          refine pre6 _ ?_
          show Steps p.tables e below (s₁.setTop (mkF m 8 #[.val (.ref a1), .val (.int (0 : Int32)), .val (.int p3), .val (.int p4), .val (.int lo), .val (.int hi), s6, s7] [])) _
          refine XS.iload X0.here hx rfl (hb hby d18_8) rfl ?_
          show Steps p.tables e below (s₁.setTop (mkF m 10 #[.val (.ref a1), .val (.int (0 : Int32)), .val (.int p3), .val (.int p4), .val (.int lo), .val (.int hi), s6, s7] [(.int lo)])) _
          refine XS.iload X0.here hx rfl (hb hby d18_10) rfl ?_
          show Steps p.tables e below (s₁.setTop (mkF m 12 #[.val (.ref a1), .val (.int (0 : Int32)), .val (.int p3), .val (.int p4), .val (.int lo), .val (.int hi), s6, s7] [(.int hi), (.int lo)])) _
          refine XS.icmpNo X0.here hx rfl (hb hby d18_12) rfl (XT.ii_gt_f hq) ?_
          show Steps p.tables e below (s₁.setTop (mkF m 15 #[.val (.ref a1), .val (.int (0 : Int32)), .val (.int p3), .val (.int p4), .val (.int lo), .val (.int hi), s6, s7] [])) _
          refine XS.iload X0.here hx rfl (hb hby d18_15) rfl ?_
          show Steps p.tables e below (s₁.setTop (mkF m 17 #[.val (.ref a1), .val (.int (0 : Int32)), .val (.int p3), .val (.int p4), .val (.int lo), .val (.int hi), s6, s7] [(.int lo)])) _
          refine XS.iload X0.here hx rfl (hb hby d18_17) rfl ?_
          show Steps p.tables e below (s₁.setTop (mkF m 19 #[.val (.ref a1), .val (.int (0 : Int32)), .val (.int p3), .val (.int p4), .val (.int lo), .val (.int hi), s6, s7] [(.int hi), (.int lo)])) _
          refine XS.iadd X0.here hx rfl (hb hby d18_19) rfl ?_
          show Steps p.tables e below (s₁.setTop (mkF m 20 #[.val (.ref a1), .val (.int (0 : Int32)), .val (.int p3), .val (.int p4), .val (.int lo), .val (.int hi), s6, s7] [(.int (lo + hi))])) _
          refine XS.iconst X0.here hx rfl (hb hby d18_20) ?_
          show Steps p.tables e below (s₁.setTop (mkF m 21 #[.val (.ref a1), .val (.int (0 : Int32)), .val (.int p3), .val (.int p4), .val (.int lo), .val (.int hi), s6, s7] [(.int (1 : Int32)), (.int (lo + hi))])) _
          refine XS.iushr X0.here hx rfl (hb hby d18_21) rfl ?_
          exact kt
        obtain ⟨mi, h_mi⟩ : ∃ z : Int32, z = (((lo + hi).toUInt32 >>> ((1 : Int32) &&& 31).toUInt32).toInt32) := ⟨_, rfl⟩
        have pre8 : ∀ t, Steps p.tables e below (s₁.setTop (mkF m 22 #[.val (.ref a1), .val (.int (0 : Int32)), .val (.int p3), .val (.int p4), .val (.int lo), .val (.int hi), s6, s7] [(.int mi)])) t → Steps p.tables e below (s₁.setTop (mkF m 8 #[.val (.ref a1), .val (.int (0 : Int32)), .val (.int p3), .val (.int p4), .val (.int lo), .val (.int hi), s6, s7] [])) t := by
          intro t kt
          rw [h_mi] at kt
          exact pre7 _ kt
        obtain ⟨km, h_km, h_k1, h_k2, h_k3, h_k4⟩ := own_mid lo hi mi h_mi hv hq
        have pre9 : ∀ t, Steps p.tables e below (s₁.setTop (mkF m 33 #[.val (.ref a1), .val (.int (0 : Int32)), .val (.int p3), .val (.int p4), .val (.int lo), .val (.int hi), .val (.int mi), .val (.int (fv km))] [(.int p4), (.int (fv km))])) t → Steps p.tables e below (s₁.setTop (mkF m 8 #[.val (.ref a1), .val (.int (0 : Int32)), .val (.int p3), .val (.int p4), .val (.int lo), .val (.int hi), s6, s7] [])) t := by
          intro t kt
          refine pre8 _ ?_
          show Steps p.tables e below (s₁.setTop (mkF m 22 #[.val (.ref a1), .val (.int (0 : Int32)), .val (.int p3), .val (.int p4), .val (.int lo), .val (.int hi), s6, s7] [(.int mi)])) _
          refine XS.istoreS X0.here hx rfl (hb hby d18_22) rfl  rfl h6 ?_
          show Steps p.tables e below (s₁.setTop (mkF m 24 #[.val (.ref a1), .val (.int (0 : Int32)), .val (.int p3), .val (.int p4), .val (.int lo), .val (.int hi), .val (.int mi), s7] [])) _
          refine XS.aloadN X0.here hx rfl (hb hby d18_24) rfl rfl ?_
          show Steps p.tables e below (s₁.setTop (mkF m 25 #[.val (.ref a1), .val (.int (0 : Int32)), .val (.int p3), .val (.int p4), .val (.int lo), .val (.int hi), .val (.int mi), s7] [(.ref a1)])) _
          refine XS.iload X0.here hx rfl (hb hby d18_25) rfl ?_
          show Steps p.tables e below (s₁.setTop (mkF m 27 #[.val (.ref a1), .val (.int (0 : Int32)), .val (.int p3), .val (.int p4), .val (.int lo), .val (.int hi), .val (.int mi), s7] [(.int mi), (.ref a1)])) _
          refine owLdC (k := km) X0 hx hZ e0 A_a1 (j := mi) h_km h_k3 (g := (mkF m 27 #[.val (.ref a1), .val (.int (0 : Int32)), .val (.int p3), .val (.int p4), .val (.int lo), .val (.int hi), .val (.int mi), s7] [(.int mi), (.ref a1)])) rfl rfl (hb hby d18_27) _ ?_
          show Steps p.tables e below (s₁.setTop (mkF m 28 #[.val (.ref a1), .val (.int (0 : Int32)), .val (.int p3), .val (.int p4), .val (.int lo), .val (.int hi), .val (.int mi), s7] [(.int (fv km))])) _
          refine XS.istoreS X0.here hx rfl (hb hby d18_28) rfl  rfl h7 ?_
          show Steps p.tables e below (s₁.setTop (mkF m 30 #[.val (.ref a1), .val (.int (0 : Int32)), .val (.int p3), .val (.int p4), .val (.int lo), .val (.int hi), .val (.int mi), .val (.int (fv km))] [])) _
          refine XS.iload X0.here hx rfl (hb hby d18_30) rfl ?_
          show Steps p.tables e below (s₁.setTop (mkF m 32 #[.val (.ref a1), .val (.int (0 : Int32)), .val (.int p3), .val (.int p4), .val (.int lo), .val (.int hi), .val (.int mi), .val (.int (fv km))] [(.int (fv km))])) _
          refine XS.iloadN X0.here hx rfl (hb hby d18_32) rfl ?_
          exact kt
        by_cases hc33_10 : (fv km) < p4
        · skip
          have pre11 : ∀ t, Steps p.tables e below (s₁.setTop (mkF m 8 #[.val (.ref a1), .val (.int (0 : Int32)), .val (.int p3), .val (.int p4), .val (.int (mi + (1 : Int32))), .val (.int hi), .val (.int mi), .val (.int (fv km))] [])) t → Steps p.tables e below (s₁.setTop (mkF m 8 #[.val (.ref a1), .val (.int (0 : Int32)), .val (.int p3), .val (.int p4), .val (.int lo), .val (.int hi), s6, s7] [])) t := by
            intro t kt
            refine pre9 _ ?_
            show Steps p.tables e below (s₁.setTop (mkF m 33 #[.val (.ref a1), .val (.int (0 : Int32)), .val (.int p3), .val (.int p4), .val (.int lo), .val (.int hi), .val (.int mi), .val (.int (fv km))] [(.int p4), (.int (fv km))])) _
            refine XS.icmpNo X0.here hx rfl (hb hby d18_33) rfl (XT.ii_ge_f hc33_10) ?_
            show Steps p.tables e below (s₁.setTop (mkF m 36 #[.val (.ref a1), .val (.int (0 : Int32)), .val (.int p3), .val (.int p4), .val (.int lo), .val (.int hi), .val (.int mi), .val (.int (fv km))] [])) _
            refine XS.iload X0.here hx rfl (hb hby d18_36) rfl ?_
            show Steps p.tables e below (s₁.setTop (mkF m 38 #[.val (.ref a1), .val (.int (0 : Int32)), .val (.int p3), .val (.int p4), .val (.int lo), .val (.int hi), .val (.int mi), .val (.int (fv km))] [(.int mi)])) _
            refine XS.iconst X0.here hx rfl (hb hby d18_38) ?_
            show Steps p.tables e below (s₁.setTop (mkF m 39 #[.val (.ref a1), .val (.int (0 : Int32)), .val (.int p3), .val (.int p4), .val (.int lo), .val (.int hi), .val (.int mi), .val (.int (fv km))] [(.int (1 : Int32)), (.int mi)])) _
            refine XS.iadd X0.here hx rfl (hb hby d18_39) rfl ?_
            show Steps p.tables e below (s₁.setTop (mkF m 40 #[.val (.ref a1), .val (.int (0 : Int32)), .val (.int p3), .val (.int p4), .val (.int lo), .val (.int hi), .val (.int mi), .val (.int (fv km))] [(.int (mi + (1 : Int32)))])) _
            refine XS.istore X0.here hx rfl (hb hby d18_40) rfl (l' := #[.val (.ref a1), .val (.int (0 : Int32)), .val (.int p3), .val (.int p4), .val (.int (mi + (1 : Int32))), .val (.int hi), .val (.int mi), .val (.int (fv km))]) rfl ?_
            show Steps p.tables e below (s₁.setTop (mkF m 42 #[.val (.ref a1), .val (.int (0 : Int32)), .val (.int p3), .val (.int p4), .val (.int (mi + (1 : Int32))), .val (.int hi), .val (.int mi), .val (.int (fv km))] [])) _
            refine XS.goto X0.here hx rfl (pc0 := 42) (pc' := 63) rfl (hb hby d18_42) (by decide) (by decide) ?_
            show Steps p.tables e below (s₁.setTop (mkF m 63 #[.val (.ref a1), .val (.int (0 : Int32)), .val (.int p3), .val (.int p4), .val (.int (mi + (1 : Int32))), .val (.int hi), .val (.int mi), .val (.int (fv km))] [])) _
            refine XS.goto X0.here hx rfl (pc0 := 63) (pc' := 8) rfl (hb hby d18_63) (by decide) (by decide) ?_
            exact kt
          rcases ih (mi + (1 : Int32)) hi (.val (.int mi)) (.val (.int (fv km))) (One.val rfl) (One.val rfl) (own_right hv ok h_km h_k1 h_k2 hc33_10) (own_rightd h_km h_k1 h_k3 hd) with ⟨lo', hi', mi', s7', sp, stL⟩ | ⟨lo', hi', s6', s7', sp, stL⟩
          · exact Or.inl ⟨lo', hi', mi', s7', sp, fun t kt => pre11 _ (stL t kt)⟩
          · exact Or.inr ⟨lo', hi', s6', s7', sp, fun t kt => pre11 _ (stL t kt)⟩
        · skip
          have pre12 : ∀ t, Steps p.tables e below (s₁.setTop (mkF m 48 #[.val (.ref a1), .val (.int (0 : Int32)), .val (.int p3), .val (.int p4), .val (.int lo), .val (.int hi), .val (.int mi), .val (.int (fv km))] [(.int p4), (.int (fv km))])) t → Steps p.tables e below (s₁.setTop (mkF m 8 #[.val (.ref a1), .val (.int (0 : Int32)), .val (.int p3), .val (.int p4), .val (.int lo), .val (.int hi), s6, s7] [])) t := by
            intro t kt
            refine pre9 _ ?_
            show Steps p.tables e below (s₁.setTop (mkF m 33 #[.val (.ref a1), .val (.int (0 : Int32)), .val (.int p3), .val (.int p4), .val (.int lo), .val (.int hi), .val (.int mi), .val (.int (fv km))] [(.int p4), (.int (fv km))])) _
            refine XS.icmpYes X0.here hx rfl (pc0 := 33) (pc' := 45) rfl (hb hby d18_33) rfl (XT.ii_ge_t hc33_10) (by decide) (by decide) ?_
            show Steps p.tables e below (s₁.setTop (mkF m 45 #[.val (.ref a1), .val (.int (0 : Int32)), .val (.int p3), .val (.int p4), .val (.int lo), .val (.int hi), .val (.int mi), .val (.int (fv km))] [])) _
            refine XS.iload X0.here hx rfl (hb hby d18_45) rfl ?_
            show Steps p.tables e below (s₁.setTop (mkF m 47 #[.val (.ref a1), .val (.int (0 : Int32)), .val (.int p3), .val (.int p4), .val (.int lo), .val (.int hi), .val (.int mi), .val (.int (fv km))] [(.int (fv km))])) _
            refine XS.iloadN X0.here hx rfl (hb hby d18_47) rfl ?_
            exact kt
          by_cases hc48_13 : p4 < (fv km)
          · skip
            have pre14 : ∀ t, Steps p.tables e below (s₁.setTop (mkF m 8 #[.val (.ref a1), .val (.int (0 : Int32)), .val (.int p3), .val (.int p4), .val (.int lo), .val (.int (mi - (1 : Int32))), .val (.int mi), .val (.int (fv km))] [])) t → Steps p.tables e below (s₁.setTop (mkF m 8 #[.val (.ref a1), .val (.int (0 : Int32)), .val (.int p3), .val (.int p4), .val (.int lo), .val (.int hi), s6, s7] [])) t := by
              intro t kt
              refine pre12 _ ?_
              show Steps p.tables e below (s₁.setTop (mkF m 48 #[.val (.ref a1), .val (.int (0 : Int32)), .val (.int p3), .val (.int p4), .val (.int lo), .val (.int hi), .val (.int mi), .val (.int (fv km))] [(.int p4), (.int (fv km))])) _
              refine XS.icmpNo X0.here hx rfl (hb hby d18_48) rfl (XT.ii_le_f hc48_13) ?_
              show Steps p.tables e below (s₁.setTop (mkF m 51 #[.val (.ref a1), .val (.int (0 : Int32)), .val (.int p3), .val (.int p4), .val (.int lo), .val (.int hi), .val (.int mi), .val (.int (fv km))] [])) _
              refine XS.iload X0.here hx rfl (hb hby d18_51) rfl ?_
              show Steps p.tables e below (s₁.setTop (mkF m 53 #[.val (.ref a1), .val (.int (0 : Int32)), .val (.int p3), .val (.int p4), .val (.int lo), .val (.int hi), .val (.int mi), .val (.int (fv km))] [(.int mi)])) _
              refine XS.iconst X0.here hx rfl (hb hby d18_53) ?_
              show Steps p.tables e below (s₁.setTop (mkF m 54 #[.val (.ref a1), .val (.int (0 : Int32)), .val (.int p3), .val (.int p4), .val (.int lo), .val (.int hi), .val (.int mi), .val (.int (fv km))] [(.int (1 : Int32)), (.int mi)])) _
              refine XS.isub X0.here hx rfl (hb hby d18_54) rfl ?_
              show Steps p.tables e below (s₁.setTop (mkF m 55 #[.val (.ref a1), .val (.int (0 : Int32)), .val (.int p3), .val (.int p4), .val (.int lo), .val (.int hi), .val (.int mi), .val (.int (fv km))] [(.int (mi - (1 : Int32)))])) _
              refine XS.istore X0.here hx rfl (hb hby d18_55) rfl (l' := #[.val (.ref a1), .val (.int (0 : Int32)), .val (.int p3), .val (.int p4), .val (.int lo), .val (.int (mi - (1 : Int32))), .val (.int mi), .val (.int (fv km))]) rfl ?_
              show Steps p.tables e below (s₁.setTop (mkF m 57 #[.val (.ref a1), .val (.int (0 : Int32)), .val (.int p3), .val (.int p4), .val (.int lo), .val (.int (mi - (1 : Int32))), .val (.int mi), .val (.int (fv km))] [])) _
              refine XS.goto X0.here hx rfl (pc0 := 57) (pc' := 63) rfl (hb hby d18_57) (by decide) (by decide) ?_
              show Steps p.tables e below (s₁.setTop (mkF m 63 #[.val (.ref a1), .val (.int (0 : Int32)), .val (.int p3), .val (.int p4), .val (.int lo), .val (.int (mi - (1 : Int32))), .val (.int mi), .val (.int (fv km))] [])) _
              refine XS.goto X0.here hx rfl (pc0 := 63) (pc' := 8) rfl (hb hby d18_63) (by decide) (by decide) ?_
              exact kt
            rcases ih lo (mi - (1 : Int32)) (.val (.int mi)) (.val (.int (fv km))) (One.val rfl) (One.val rfl) (own_left hv ok h_km h_k1 h_k2 hc48_13) (own_leftd h_km h_k2 h_k3 hd) with ⟨lo', hi', mi', s7', sp, stL⟩ | ⟨lo', hi', s6', s7', sp, stL⟩
            · exact Or.inl ⟨lo', hi', mi', s7', sp, fun t kt => pre14 _ (stL t kt)⟩
            · exact Or.inr ⟨lo', hi', s6', s7', sp, fun t kt => pre14 _ (stL t kt)⟩
          · skip
            have pre15 : ∀ t, Steps p.tables e below (s₁.setTop (mkF m 60 #[.val (.ref a1), .val (.int (0 : Int32)), .val (.int p3), .val (.int p4), .val (.int lo), .val (.int hi), .val (.int mi), .val (.int (fv km))] [])) t → Steps p.tables e below (s₁.setTop (mkF m 8 #[.val (.ref a1), .val (.int (0 : Int32)), .val (.int p3), .val (.int p4), .val (.int lo), .val (.int hi), s6, s7] [])) t := by
              intro t kt
              refine pre12 _ ?_
              show Steps p.tables e below (s₁.setTop (mkF m 48 #[.val (.ref a1), .val (.int (0 : Int32)), .val (.int p3), .val (.int p4), .val (.int lo), .val (.int hi), .val (.int mi), .val (.int (fv km))] [(.int p4), (.int (fv km))])) _
              refine XS.icmpYes X0.here hx rfl (pc0 := 48) (pc' := 60) rfl (hb hby d18_48) rfl (XT.ii_le_t hc48_13) (by decide) (by decide) ?_
              exact kt
            exact Or.inl ⟨lo, hi, mi, .val (.int (fv km)), own_found h_km h_k4 hc33_10 hc48_13, fun t kt => pre15 _ kt⟩
  rcases loop 4 (0 : Int32) (p3 - (1 : Int32)) .unset .unset One.u One.u (own_init hcn hc4) (own_initd hcn hc4) with ⟨lo', hi', mi', s7', sp, stL⟩ | ⟨lo', hi', s6', s7', sp, stL⟩
  · skip
    have pre16 : ∀ t, Steps p.tables e below (s₁.setTop (mkF m 60 #[.val (.ref a1), .val (.int (0 : Int32)), .val (.int p3), .val (.int p4), .val (.int lo'), .val (.int hi'), .val (.int mi'), s7'] [])) t → Steps p.tables e below (s₁.setTop (entryFrame m #[(.ref a1), (.int (0 : Int32)), (.int p3), (.int p4)] 8)) t := fun t kt => pre1 _ (stL t kt)
    have pre17 : ∀ t, Steps p.tables e below (s₁.setTop (mkF m 62 #[.val (.ref a1), .val (.int (0 : Int32)), .val (.int p3), .val (.int p4), .val (.int lo'), .val (.int hi'), .val (.int mi'), s7'] [(.int mi')])) t → Steps p.tables e below (s₁.setTop (entryFrame m #[(.ref a1), (.int (0 : Int32)), (.int p3), (.int p4)] 8)) t := by
      intro t kt
      refine pre16 _ ?_
      show Steps p.tables e below (s₁.setTop (mkF m 60 #[.val (.ref a1), .val (.int (0 : Int32)), .val (.int p3), .val (.int p4), .val (.int lo'), .val (.int hi'), .val (.int mi'), s7'] [])) _
      refine XS.iload X0.here hx rfl (hb hby d18_60) rfl ?_
      exact kt
    obtain ⟨fs, hr, hrun, hended, hW, hsame⟩ := X0.leave (v := some (.int mi')) (fun h => by rw [Bd.returns] at h; cases h)
    refine ⟨_, _, pre17 _ ?_, hrun, hended, _, _, rfl, ?_, ⟨_, rfl⟩, hW, hsame.mono (by decide) (by decide)⟩
    · show Steps p.tables e below (s₁.setTop (mkF m 62 #[.val (.ref a1), .val (.int (0 : Int32)), .val (.int p3), .val (.int p4), .val (.int lo'), .val (.int hi'), .val (.int mi'), s7'] [(.int mi')])) _
      exact owRetI X0 hx Bd.returns (hb hby d18_62) hr
    · show Q18 Z a1 p3 p4 fv cn h0 n0 _ s₁.heap _
      rw [e0]
      exact ⟨_, rfl, N0, rfl, sp⟩
  · skip
    have pre18 : ∀ t, Steps p.tables e below (s₁.setTop (mkF m 66 #[.val (.ref a1), .val (.int (0 : Int32)), .val (.int p3), .val (.int p4), .val (.int lo'), .val (.int hi'), s6', s7'] [])) t → Steps p.tables e below (s₁.setTop (entryFrame m #[(.ref a1), (.int (0 : Int32)), (.int p3), (.int p4)] 8)) t := fun t kt => pre1 _ (stL t kt)
    have pre19 : ∀ t, Steps p.tables e below (s₁.setTop (mkF m 71 #[.val (.ref a1), .val (.int (0 : Int32)), .val (.int p3), .val (.int p4), .val (.int lo'), .val (.int hi'), s6', s7'] [(.int (-(lo' + (1 : Int32))))])) t → Steps p.tables e below (s₁.setTop (entryFrame m #[(.ref a1), (.int (0 : Int32)), (.int p3), (.int p4)] 8)) t := by
      intro t kt
      refine pre18 _ ?_
      show Steps p.tables e below (s₁.setTop (mkF m 66 #[.val (.ref a1), .val (.int (0 : Int32)), .val (.int p3), .val (.int p4), .val (.int lo'), .val (.int hi'), s6', s7'] [])) _
      refine XS.iload X0.here hx rfl (hb hby d18_66) rfl ?_
      show Steps p.tables e below (s₁.setTop (mkF m 68 #[.val (.ref a1), .val (.int (0 : Int32)), .val (.int p3), .val (.int p4), .val (.int lo'), .val (.int hi'), s6', s7'] [(.int lo')])) _
      refine XS.iconst X0.here hx rfl (hb hby d18_68) ?_
      show Steps p.tables e below (s₁.setTop (mkF m 69 #[.val (.ref a1), .val (.int (0 : Int32)), .val (.int p3), .val (.int p4), .val (.int lo'), .val (.int hi'), s6', s7'] [(.int (1 : Int32)), (.int lo')])) _
      refine XS.iadd X0.here hx rfl (hb hby d18_69) rfl ?_
      show Steps p.tables e below (s₁.setTop (mkF m 70 #[.val (.ref a1), .val (.int (0 : Int32)), .val (.int p3), .val (.int p4), .val (.int lo'), .val (.int hi'), s6', s7'] [(.int (lo' + (1 : Int32)))])) _
      refine XS.ineg X0.here hx rfl (hb hby d18_70) rfl ?_
      exact kt
    obtain ⟨fs, hr, hrun, hended, hW, hsame⟩ := X0.leave (v := some (.int (-(lo' + (1 : Int32))))) (fun h => by rw [Bd.returns] at h; cases h)
    refine ⟨_, _, pre19 _ ?_, hrun, hended, _, _, rfl, ?_, ⟨_, rfl⟩, hW, hsame.mono (by decide) (by decide)⟩
    · show Steps p.tables e below (s₁.setTop (mkF m 71 #[.val (.ref a1), .val (.int (0 : Int32)), .val (.int p3), .val (.int p4), .val (.int lo'), .val (.int hi'), s6', s7'] [(.int (-(lo' + (1 : Int32))))])) _
      exact owRetI X0 hx Bd.returns (hb hby d18_71) hr
    · show Q18 Z a1 p3 p4 fv cn h0 n0 _ s₁.heap _
      rw [e0]
      exact ⟨_, rfl, N0, rfl, sp⟩
theorem d16_0 : decode jdk_65_method_64_code 0 = .ok (.aload_n 0, 1) := by decide +kernel
theorem d16_1 : decode jdk_65_method_64_code 1 = .ok (.arraylength, 1) := by decide +kernel
theorem d16_2 : decode jdk_65_method_64_code 2 = .ok (.iload_n 1, 1) := by decide +kernel
theorem d16_3 : decode jdk_65_method_64_code 3 = .ok (.iload_n 2, 1) := by decide +kernel
theorem d16_4 : decode jdk_65_method_64_code 4 = .ok (.invokestatic 13, 3) := by decide +kernel
theorem d16_7 : decode jdk_65_method_64_code 7 = .ok (.aload_n 0, 1) := by decide +kernel
theorem d16_8 : decode jdk_65_method_64_code 8 = .ok (.iload_n 1, 1) := by decide +kernel
theorem d16_9 : decode jdk_65_method_64_code 9 = .ok (.iload_n 2, 1) := by decide +kernel
theorem d16_10 : decode jdk_65_method_64_code 10 = .ok (.iload_n 3, 1) := by decide +kernel
theorem d16_11 : decode jdk_65_method_64_code 11 = .ok (.invokestatic 215, 3) := by decide +kernel
theorem d16_14 : decode jdk_65_method_64_code 14 = .ok (.ireturn, 1) := by decide +kernel
theorem pn_16 : plainName "java/util/Arrays" = true := by first | (simp [plainName, overriddenIn]; done) | decide +kernel
theorem ef_16 (m : MethodId) (x0 : Addr) (x1 : Int32) (x2 : Int32) (x3 : Int32) : entryFrame m #[(.ref x0), (.int x1), (.int x2), (.int x3)] 4 = mkF m 0 #[.val (.ref x0), .val (.int x1), .val (.int x2), .val (.int x3)] [] := by first | (simp [entryFrame, mkF, argsToLocals, Value.category]; done) | rfl
theorem pd_4 : parseMethodDescriptor "(III)V" = some ⟨[.int, .int, .int], none⟩ := by decide +kernel
theorem pd_5 : parseMethodDescriptor "([CIIC)I" = some ⟨[(.array .char), .int, .int, .char], some .int⟩ := by decide +kernel
def Q16 (Z : State) (a1 : Addr) (p3 : Int32) (p4 : Int32) (fv : Nat → Int32) (cn : Nat) (h0 : Heap) (n0 : Nat) (v : Option Value) (h : Heap) (L : List Loc) : Prop := ∃ r : Int32, v = some (.int r) ∧ Fr n0 L ∧ h = h0 ∧ own_bs fv cn p4 r
set_option maxRecDepth 65536 in
set_option maxHeartbeats 40000000 in
theorem rm16 (l : Launch) (Z : State) (a0 : Array Value) (hw : ∀ d ∈ tables_1, d.before a0 Z = true) (ws : List Jvm.Cond) (a1 : Addr) (p3 : Int32) (p4 : Int32) (fv : Nat → Int32) (cn : Nat) (h0 : Heap) (n0 : Nat) (Z0 : n0 ≤ h0.size) (A_a1 : owAI Z h0 a1 .char 4 fv) (hcn : p3.toInt = (cn : Int)) (hc4 : cn ≤ 4) (ok : own_ok fv cn) :
    MetFree l (⟨"java/util/Arrays", "binarySearch", "([CIIC)I"⟩ : MethodName) (head1 (Jvm.Cond.code (⟨"java/util/Arrays", "binarySearch", "([CIIC)I"⟩ : MethodName) jdk_65_method_64_code 4 (some .int) :: ws) ({ frames := 1, cells := 0, slots := 0, locals := 19 } : Room)) (fun a U => a = #[(.ref a1), (.int (0 : Int32)), (.int p3), (.int p4)] ∧ Z.Warmed39 U.vm ∧ U.heap = h0) (fun _ _ _ _ _ => True) (fun _ U o U' => ∃ v L, o = .returned v ∧ Q16 Z a1 p3 p4 fv cn h0 n0 v U'.heap L ∧ FrameEnd U o U' L ({ frames := 1, cells := 0, slots := 0, locals := 19 } : Room).cells ({ frames := 1, cells := 0, slots := 0, locals := 19 } : Room).slots) := by
  refine MetFree.of_bodySF (plainFor_of_name pn_16) hisR ?_
  intro p e s m args below meth c s₁ Bd hml0 hP hK
  obtain ⟨rfl, hZ, hh⟩ := hP
  have hx := Bd.exec
  have hby := Bd.bytes
  have hml : c.maxLocals = 4 := hml0
  have hown : s.vm.findClass "java/util/Arrays" = some m.cls := findClass_of_methodNamed Bd.named
  have hnm := (name_of_methodNamed Bd.named Bd.method).1
  have X0 : Stand p l e ({ frames := 1, cells := 0, slots := 0, locals := 19 } : Room) s m #[(.ref a1), (.int (0 : Int32)), (.int p3), (.int p4)] below meth c s₁ [] 0 0 := Stand.of_body Bd
  have e0 : s₁.heap = h0 := by rw [← hh, Bd.state]; rfl
  have N0 := Fr.nil n0
  have pre0 : ∀ t, Steps p.tables e below (s₁.setTop (mkF m 0 #[.val (.ref a1), .val (.int (0 : Int32)), .val (.int p3), .val (.int p4)] [])) t → Steps p.tables e below (s₁.setTop (entryFrame m #[(.ref a1), (.int (0 : Int32)), (.int p3), (.int p4)] 4)) t := fun t k => castTop (ef_16 m a1 (0 : Int32) p3 p4) k
  obtain ⟨_, _, ⟨T1, L1, k1, n1⟩, -, X1, ⟨Lc1, hQ1, l1, y1, z1⟩, st1⟩ := Jvm.LawKit.callS X0 hx (y := (⟨"java/util/Arrays", "rangeCheck", "(III)V"⟩ : MethodName)) hown (mvT hZ (hw _ (List.mem_of_getElem? (i := 89) rfl))) (mvT hZ (hw _ (List.mem_of_getElem? (i := 90) rfl))) (mvT hZ (hw _ (List.mem_of_getElem? (i := 78) rfl))) (mvT hZ (hw _ (List.mem_of_getElem? (i := 91) rfl))) (by decide) (backOf (W := 0) (rm17 l Z a0 hw [] (4 : Int32) (0 : Int32) p3 h0 n0 Z0 (own_ge hcn (k := 0) rfl (by omega)) (by decide) (own_ge (x := (4 : Int32)) (n := 4) rfl hcn (by omega))) hZ (hw _ (List.mem_of_getElem? (i := 91) rfl)) (hw _ (List.mem_of_getElem? (i := 78) rfl)) (by decide) (by decide)) (g := (mkF m 4 #[.val (.ref a1), .val (.int (0 : Int32)), .val (.int p3), .val (.int p4)] [(.int p3), (.int (0 : Int32)), (.int (4 : Int32))])) rfl (by rw [hml]; rfl) (argsL := [(.int (4 : Int32)), (.int (0 : Int32)), (.int p3)]) (rest := []) (lenOf pd_4 rfl) rfl (by show 2 * 0 + _ ≤ _; exact Nat.le_of_eq rfl) (hb hby d16_4) (fun _ _ => ⟨rfl, e0, (by decide : 0 + 0 ≤ _), (by decide : 0 + 0 ≤ _)⟩)
  dsimp only [Pt.U, Pt.locs, Pt.cells, Pt.slots] at X1 l1 y1 z1 st1 hQ1
  subst l1 y1 z1
  obtain ⟨rfl, N1q, hE1⟩ := hQ1
  have N1 := Fr.app N0 N1q
  obtain ⟨_, _, ⟨T2, L2, k2, n2⟩, -, X2, ⟨Lc2, hQ2, l2, y2, z2⟩, st2⟩ := Jvm.LawKit.callS X1 hx (y := (⟨"java/util/Arrays", "binarySearch0", "([CIIC)I"⟩ : MethodName)) hown (mvT hZ (hw _ (List.mem_of_getElem? (i := 92) rfl))) (mvT hZ (hw _ (List.mem_of_getElem? (i := 93) rfl))) (mvT hZ (hw _ (List.mem_of_getElem? (i := 78) rfl))) (mvT hZ (hw _ (List.mem_of_getElem? (i := 94) rfl))) (by decide) (backOf (W := 0) (rm18 l Z a0 hw [] a1 p3 p4 fv cn h0 n0 Z0 A_a1 hcn (by omega) ok) hZ (hw _ (List.mem_of_getElem? (i := 94) rfl)) (hw _ (List.mem_of_getElem? (i := 78) rfl)) (by decide) (by decide)) (g := (mkF m 11 #[.val (.ref a1), .val (.int (0 : Int32)), .val (.int p3), .val (.int p4)] [(.int p4), (.int p3), (.int (0 : Int32)), (.ref a1)])) rfl (by rw [hml]; rfl) (argsL := [(.ref a1), (.int (0 : Int32)), (.int p3), (.int p4)]) (rest := []) (lenOf pd_5 rfl) rfl (by show 2 * 0 + _ ≤ _; exact Nat.le_of_eq rfl) (hb hby d16_11) (fun _ _ => ⟨rfl, hE1, (by decide : 0 + 0 ≤ _), (by decide : 0 + 0 ≤ _)⟩)
  dsimp only [Pt.U, Pt.locs, Pt.cells, Pt.slots] at X2 l2 y2 z2 st2 hQ2
  subst l2 y2 z2
  obtain ⟨rr, rfl, N2q, hE2, sp⟩ := hQ2
  have N2 := Fr.app N1 N2q
  have pre3 : ∀ t, Steps p.tables e below (T2.setTop (mkF m 14 #[.val (.ref a1), .val (.int (0 : Int32)), .val (.int p3), .val (.int p4)] [(.int rr)])) t → Steps p.tables e below (s₁.setTop (entryFrame m #[(.ref a1), (.int (0 : Int32)), (.int p3), (.int p4)] 4)) t := by
    intro t kt
    refine pre0 _ ?_
    show Steps p.tables e below (s₁.setTop (mkF m 0 #[.val (.ref a1), .val (.int (0 : Int32)), .val (.int p3), .val (.int p4)] [])) _
    refine XS.aloadN X0.here hx rfl (hb hby d16_0) rfl rfl ?_
    show Steps p.tables e below (s₁.setTop (mkF m 1 #[.val (.ref a1), .val (.int (0 : Int32)), .val (.int p3), .val (.int p4)] [(.ref a1)])) _
    refine owLenI X0 hx hZ e0 A_a1 (z := (4 : Int32)) rfl (g := (mkF m 1 #[.val (.ref a1), .val (.int (0 : Int32)), .val (.int p3), .val (.int p4)] [(.ref a1)])) rfl rfl (hb hby d16_1) _ ?_
    show Steps p.tables e below (s₁.setTop (mkF m 2 #[.val (.ref a1), .val (.int (0 : Int32)), .val (.int p3), .val (.int p4)] [(.int (4 : Int32))])) _
    refine XS.iloadN X0.here hx rfl (hb hby d16_2) rfl ?_
    show Steps p.tables e below (s₁.setTop (mkF m 3 #[.val (.ref a1), .val (.int (0 : Int32)), .val (.int p3), .val (.int p4)] [(.int (0 : Int32)), (.int (4 : Int32))])) _
    refine XS.iloadN X0.here hx rfl (hb hby d16_3) rfl ?_
    show Steps p.tables e below (s₁.setTop (mkF m 4 #[.val (.ref a1), .val (.int (0 : Int32)), .val (.int p3), .val (.int p4)] [(.int p3), (.int (0 : Int32)), (.int (4 : Int32))])) _
    refine st1 _ ?_
    show Steps p.tables e below (T1.setTop (mkF m 7 #[.val (.ref a1), .val (.int (0 : Int32)), .val (.int p3), .val (.int p4)] [])) _
    refine XS.aloadN X1.here hx rfl (hb hby d16_7) rfl rfl ?_
    show Steps p.tables e below (T1.setTop (mkF m 8 #[.val (.ref a1), .val (.int (0 : Int32)), .val (.int p3), .val (.int p4)] [(.ref a1)])) _
    refine XS.iloadN X1.here hx rfl (hb hby d16_8) rfl ?_
    show Steps p.tables e below (T1.setTop (mkF m 9 #[.val (.ref a1), .val (.int (0 : Int32)), .val (.int p3), .val (.int p4)] [(.int (0 : Int32)), (.ref a1)])) _
    refine XS.iloadN X1.here hx rfl (hb hby d16_9) rfl ?_
    show Steps p.tables e below (T1.setTop (mkF m 10 #[.val (.ref a1), .val (.int (0 : Int32)), .val (.int p3), .val (.int p4)] [(.int p3), (.int (0 : Int32)), (.ref a1)])) _
    refine XS.iloadN X1.here hx rfl (hb hby d16_10) rfl ?_
    show Steps p.tables e below (T1.setTop (mkF m 11 #[.val (.ref a1), .val (.int (0 : Int32)), .val (.int p3), .val (.int p4)] [(.int p4), (.int p3), (.int (0 : Int32)), (.ref a1)])) _
    refine st2 _ ?_
    exact kt
  obtain ⟨fs, hr, hrun, hended, hW, hsame⟩ := X2.leave (v := some (.int rr)) (fun h => by rw [Bd.returns] at h; cases h)
  refine ⟨_, _, pre3 _ ?_, hrun, hended, _, _, rfl, ?_, ⟨_, rfl⟩, hW, hsame.mono (by decide) (by decide)⟩
  · show Steps p.tables e below (T2.setTop (mkF m 14 #[.val (.ref a1), .val (.int (0 : Int32)), .val (.int p3), .val (.int p4)] [(.int rr)])) _
    exact owRetI X2 hx Bd.returns (hb hby d16_14) hr
  · show Q16 Z a1 p3 p4 fv cn h0 n0 _ T2.heap _
    rw [hE2]
    exact ⟨_, rfl, N2, rfl, sp⟩
theorem d20_0 : decode prog_22_method_16_code 0 = .ok (.iconst 0, 1) := by decide +kernel
theorem d20_1 : decode prog_22_method_16_code 1 = .ok (.istore_n 3, 1) := by decide +kernel
theorem d20_2 : decode prog_22_method_16_code 2 = .ok (.iload_n 1, 1) := by decide +kernel
theorem d20_3 : decode prog_22_method_16_code 3 = .ok (.istore 4, 2) := by decide +kernel
theorem d20_5 : decode prog_22_method_16_code 5 = .ok (.iload 4, 2) := by decide +kernel
theorem d20_7 : decode prog_22_method_16_code 7 = .ok (.iload_n 2, 1) := by decide +kernel
theorem d20_8 : decode prog_22_method_16_code 8 = .ok (.if_icmp .ge 38, 3) := by decide +kernel
theorem d20_11 : decode prog_22_method_16_code 11 = .ok (.iload 4, 2) := by decide +kernel
theorem d20_13 : decode prog_22_method_16_code 13 = .ok (.ifCond .eq 24, 3) := by decide +kernel
theorem d20_16 : decode prog_22_method_16_code 16 = .ok (.aload_n 0, 1) := by decide +kernel
theorem d20_17 : decode prog_22_method_16_code 17 = .ok (.getfield 16, 3) := by decide +kernel
theorem d20_20 : decode prog_22_method_16_code 20 = .ok (.iload 4, 2) := by decide +kernel
theorem d20_22 : decode prog_22_method_16_code 22 = .ok (.caload, 1) := by decide +kernel
theorem d20_23 : decode prog_22_method_16_code 23 = .ok (.aload_n 0, 1) := by decide +kernel
theorem d20_24 : decode prog_22_method_16_code 24 = .ok (.getfield 16, 3) := by decide +kernel
theorem d20_27 : decode prog_22_method_16_code 27 = .ok (.iload 4, 2) := by decide +kernel
theorem d20_29 : decode prog_22_method_16_code 29 = .ok (.iconst 1, 1) := by decide +kernel
theorem d20_30 : decode prog_22_method_16_code 30 = .ok (.isub, 1) := by decide +kernel
theorem d20_31 : decode prog_22_method_16_code 31 = .ok (.caload, 1) := by decide +kernel
theorem d20_32 : decode prog_22_method_16_code 32 = .ok (.iconst 1, 1) := by decide +kernel
theorem d20_33 : decode prog_22_method_16_code 33 = .ok (.iadd, 1) := by decide +kernel
theorem d20_34 : decode prog_22_method_16_code 34 = .ok (.if_icmp .eq 6, 3) := by decide +kernel
theorem d20_37 : decode prog_22_method_16_code 37 = .ok (.iinc 3 1, 3) := by decide +kernel
theorem d20_40 : decode prog_22_method_16_code 40 = .ok (.iinc 4 1, 3) := by decide +kernel
theorem d20_43 : decode prog_22_method_16_code 43 = .ok (.goto (-38), 3) := by decide +kernel
theorem d20_46 : decode prog_22_method_16_code 46 = .ok (.iload_n 3, 1) := by decide +kernel
theorem d20_47 : decode prog_22_method_16_code 47 = .ok (.ireturn, 1) := by decide +kernel
theorem pn_20 : plainName "com/example/bitweight/bitweight/chunk/ArrayChunk" = true := by first | (simp [plainName, overriddenIn]; done) | decide +kernel
theorem ef_20 (m : MethodId) (x0 : Addr) (x1 : Int32) (x2 : Int32) : entryFrame m #[(.ref x0), (.int x1), (.int x2)] 5 = mkF m 0 #[.val (.ref x0), .val (.int x1), .val (.int x2), .unset, .unset] [] := by first | (simp [entryFrame, mkF, argsToLocals, Value.category]; done) | rfl
def Q20 (Z : State) (a1 : Addr) (p2 : Int32) (p3 : Int32) (av : Addr) (fv : Nat → Int32) (kp : Nat) (h0 : Heap) (n0 : Nat) (v : Option Value) (h : Heap) (L : List Loc) : Prop := ∃ r : Int32, v = some (.int r) ∧ Fr n0 L ∧ h = h0
set_option maxRecDepth 65536 in
set_option maxHeartbeats 40000000 in
theorem rm20 (l : Launch) (Z : State) (a0 : Array Value) (hw : ∀ d ∈ tables_1, d.before a0 Z = true) (ws : List Jvm.Cond) (a1 : Addr) (p2 : Int32) (p3 : Int32) (av : Addr) (fv : Nat → Int32) (kp : Nat) (h0 : Heap) (n0 : Nat) (Z0 : n0 ≤ h0.size) (F_values : Fld Z h0 a1 "com/example/bitweight/bitweight/chunk/ArrayChunk" "values" "[C" (.ref av)) (A_av : owAI Z h0 av .char 4 fv) (hp2 : p2.toInt = (kp : Int)) (hp3 : p3.toInt ≤ 4) :
    MetFree l (⟨"com/example/bitweight/bitweight/chunk/ArrayChunk", "runStarts", "(II)I"⟩ : MethodName) (head1 (Jvm.Cond.code (⟨"com/example/bitweight/bitweight/chunk/ArrayChunk", "runStarts", "(II)I"⟩ : MethodName) prog_22_method_16_code 5 (some .int) :: ws) ({ frames := 0, cells := 0, slots := 0, locals := 0 } : Room)) (fun a U => a = #[(.ref a1), (.int p2), (.int p3)] ∧ Z.Warmed39 U.vm ∧ U.heap = h0) (fun _ _ _ _ _ => True) (fun _ U o U' => ∃ v L, o = .returned v ∧ Q20 Z a1 p2 p3 av fv kp h0 n0 v U'.heap L ∧ FrameEnd U o U' L ({ frames := 0, cells := 0, slots := 0, locals := 0 } : Room).cells ({ frames := 0, cells := 0, slots := 0, locals := 0 } : Room).slots) := by
  refine MetFree.of_bodySF (plainFor_of_name pn_20) hisR ?_
  intro p e s m args below meth c s₁ Bd hml0 hP hK
  obtain ⟨rfl, hZ, hh⟩ := hP
  have hx := Bd.exec
  have hby := Bd.bytes
  have hml : c.maxLocals = 5 := hml0
  have hown : s.vm.findClass "com/example/bitweight/bitweight/chunk/ArrayChunk" = some m.cls := findClass_of_methodNamed Bd.named
  have hnm := (name_of_methodNamed Bd.named Bd.method).1
  have X0 : Stand p l e ({ frames := 0, cells := 0, slots := 0, locals := 0 } : Room) s m #[(.ref a1), (.int p2), (.int p3)] below meth c s₁ [] 0 0 := Stand.of_body Bd
  have e0 : s₁.heap = h0 := by rw [← hh, Bd.state]; rfl
  have N0 := Fr.nil n0
  have pre0 : ∀ t, Steps p.tables e below (s₁.setTop (mkF m 0 #[.val (.ref a1), .val (.int p2), .val (.int p3), .unset, .unset] [])) t → Steps p.tables e below (s₁.setTop (entryFrame m #[(.ref a1), (.int p2), (.int p3)] 5)) t := fun t k => castTop (ef_20 m a1 p2 p3) k
  have pre1 : ∀ t, Steps p.tables e below (s₁.setTop (mkF m 5 #[.val (.ref a1), .val (.int p2), .val (.int p3), .val (.int (0 : Int32)), .val (.int p2)] [])) t → Steps p.tables e below (s₁.setTop (entryFrame m #[(.ref a1), (.int p2), (.int p3)] 5)) t := by
    intro t kt
    refine pre0 _ ?_
    show Steps p.tables e below (s₁.setTop (mkF m 0 #[.val (.ref a1), .val (.int p2), .val (.int p3), .unset, .unset] [])) _
    refine XS.iconst X0.here hx rfl (hb hby d20_0) ?_
    show Steps p.tables e below (s₁.setTop (mkF m 1 #[.val (.ref a1), .val (.int p2), .val (.int p3), .unset, .unset] [(.int (0 : Int32))])) _
    refine XS.istoreN X0.here hx rfl (hb hby d20_1) rfl (l' := #[.val (.ref a1), .val (.int p2), .val (.int p3), .val (.int (0 : Int32)), .unset]) rfl ?_
    show Steps p.tables e below (s₁.setTop (mkF m 2 #[.val (.ref a1), .val (.int p2), .val (.int p3), .val (.int (0 : Int32)), .unset] [])) _
    refine XS.iloadN X0.here hx rfl (hb hby d20_2) rfl ?_
    show Steps p.tables e below (s₁.setTop (mkF m 3 #[.val (.ref a1), .val (.int p2), .val (.int p3), .val (.int (0 : Int32)), .unset] [(.int p2)])) _
    refine XS.istore X0.here hx rfl (hb hby d20_3) rfl (l' := #[.val (.ref a1), .val (.int p2), .val (.int p3), .val (.int (0 : Int32)), .val (.int p2)]) rfl ?_
    exact kt
  have loop : ∀ (d : Nat) (TL : State) (lr li : Int32) (k : Nat), Stand p l e ({ frames := 0, cells := 0, slots := 0, locals := 0 } : Room) s m #[(.ref a1), (.int p2), (.int p3)] below meth c TL [] 0 0 → TL.heap = h0 → li.toInt = (k : Int) → p3.toInt - (k : Int) ≤ (d : Int) → ∃ (T' : State) (r' i' : Int32), Stand p l e ({ frames := 0, cells := 0, slots := 0, locals := 0 } : Room) s m #[(.ref a1), (.int p2), (.int p3)] below meth c T' [] 0 0 ∧ T'.heap = h0 ∧ ∀ t, Steps p.tables e below (T'.setTop (mkF m 46 #[.val (.ref a1), .val (.int p2), .val (.int p3), .val (.int r'), .val (.int i')] [])) t → Steps p.tables e below (TL.setTop (mkF m 5 #[.val (.ref a1), .val (.int p2), .val (.int p3), .val (.int lr), .val (.int li)] [])) t := by
    intro d
    induction d with
    | zero =>
      intro TL lr li k XL eL h1 hd
      have hq : ¬ li < p3 := by rw [Int32.lt_iff_toInt_lt]; omega
      have pre2 : ∀ t, Steps p.tables e below (TL.setTop (mkF m 5 #[.val (.ref a1), .val (.int p2), .val (.int p3), .val (.int lr), .val (.int li)] [])) t → Steps p.tables e below (TL.setTop (mkF m 5 #[.val (.ref a1), .val (.int p2), .val (.int p3), .val (.int lr), .val (.int li)] [])) t := fun _ k => k
      have pre3 : ∀ t, Steps p.tables e below (TL.setTop (mkF m 46 #[.val (.ref a1), .val (.int p2), .val (.int p3), .val (.int lr), .val (.int li)] [])) t → Steps p.tables e below (TL.setTop (mkF m 5 #[.val (.ref a1), .val (.int p2), .val (.int p3), .val (.int lr), .val (.int li)] [])) t := by
        intro t kt
        refine pre2 _ ?_
        show Steps p.tables e below (TL.setTop (mkF m 5 #[.val (.ref a1), .val (.int p2), .val (.int p3), .val (.int lr), .val (.int li)] [])) _
        refine XS.iload XL.here hx rfl (hb hby d20_5) rfl ?_
        show Steps p.tables e below (TL.setTop (mkF m 7 #[.val (.ref a1), .val (.int p2), .val (.int p3), .val (.int lr), .val (.int li)] [(.int li)])) _
        refine XS.iloadN XL.here hx rfl (hb hby d20_7) rfl ?_
        show Steps p.tables e below (TL.setTop (mkF m 8 #[.val (.ref a1), .val (.int p2), .val (.int p3), .val (.int lr), .val (.int li)] [(.int p3), (.int li)])) _
        refine XS.icmpYes XL.here hx rfl (pc0 := 8) (pc' := 46) rfl (hb hby d20_8) rfl (XT.ii_ge_t hq) (by decide) (by decide) ?_
        exact kt
      exact ⟨TL, lr, li, XL, eL, fun t kt => pre3 _ kt⟩
    | succ d ih =>
      intro TL lr li k XL eL h1 hd
      by_cases hq : li < p3
      · skip
        have hk4 : k < 4 := by rw [Int32.lt_iff_toInt_lt] at hq; omega
        have pre4 : ∀ t, Steps p.tables e below (TL.setTop (mkF m 5 #[.val (.ref a1), .val (.int p2), .val (.int p3), .val (.int lr), .val (.int li)] [])) t → Steps p.tables e below (TL.setTop (mkF m 5 #[.val (.ref a1), .val (.int p2), .val (.int p3), .val (.int lr), .val (.int li)] [])) t := fun _ k => k
        have pre5 : ∀ t, Steps p.tables e below (TL.setTop (mkF m 13 #[.val (.ref a1), .val (.int p2), .val (.int p3), .val (.int lr), .val (.int li)] [(.int li)])) t → Steps p.tables e below (TL.setTop (mkF m 5 #[.val (.ref a1), .val (.int p2), .val (.int p3), .val (.int lr), .val (.int li)] [])) t := by
          intro t kt
          refine pre4 _ ?_
          show Steps p.tables e below (TL.setTop (mkF m 5 #[.val (.ref a1), .val (.int p2), .val (.int p3), .val (.int lr), .val (.int li)] [])) _
          refine XS.iload XL.here hx rfl (hb hby d20_5) rfl ?_
          show Steps p.tables e below (TL.setTop (mkF m 7 #[.val (.ref a1), .val (.int p2), .val (.int p3), .val (.int lr), .val (.int li)] [(.int li)])) _
          refine XS.iloadN XL.here hx rfl (hb hby d20_7) rfl ?_
          show Steps p.tables e below (TL.setTop (mkF m 8 #[.val (.ref a1), .val (.int p2), .val (.int p3), .val (.int lr), .val (.int li)] [(.int p3), (.int li)])) _
          refine XS.icmpNo XL.here hx rfl (hb hby d20_8) rfl (XT.ii_ge_f hq) ?_
          show Steps p.tables e below (TL.setTop (mkF m 11 #[.val (.ref a1), .val (.int p2), .val (.int p3), .val (.int lr), .val (.int li)] [])) _
          refine XS.iload XL.here hx rfl (hb hby d20_11) rfl ?_
          exact kt
        by_cases hc13_6 : li = (0 : Int32)
        · skip
          have pre7 : ∀ t, Steps p.tables e below (TL.setTop (mkF m 5 #[.val (.ref a1), .val (.int p2), .val (.int p3), .val (.int (lr + (1 : Int32))), .val (.int (li + (1 : Int32)))] [])) t → Steps p.tables e below (TL.setTop (mkF m 5 #[.val (.ref a1), .val (.int p2), .val (.int p3), .val (.int lr), .val (.int li)] [])) t := by
            intro t kt
            refine pre5 _ ?_
            show Steps p.tables e below (TL.setTop (mkF m 13 #[.val (.ref a1), .val (.int p2), .val (.int p3), .val (.int lr), .val (.int li)] [(.int li)])) _
            refine XS.ifYes XL.here hx rfl (pc0 := 13) (pc' := 37) rfl (hb hby d20_13) rfl (XT.i0_eq_t hc13_6) (by decide) (by decide) ?_
            show Steps p.tables e below (TL.setTop (mkF m 37 #[.val (.ref a1), .val (.int p2), .val (.int p3), .val (.int lr), .val (.int li)] [])) _
            refine XS.iinc XL.here hx rfl (hb hby d20_37) rfl (l' := #[.val (.ref a1), .val (.int p2), .val (.int p3), .val (.int (lr + (1 : Int32))), .val (.int li)]) rfl ?_
            show Steps p.tables e below (TL.setTop (mkF m 40 #[.val (.ref a1), .val (.int p2), .val (.int p3), .val (.int (lr + (1 : Int32))), .val (.int li)] [])) _
            refine XS.iinc XL.here hx rfl (hb hby d20_40) rfl (l' := #[.val (.ref a1), .val (.int p2), .val (.int p3), .val (.int (lr + (1 : Int32))), .val (.int (li + (1 : Int32)))]) rfl ?_
            show Steps p.tables e below (TL.setTop (mkF m 43 #[.val (.ref a1), .val (.int p2), .val (.int p3), .val (.int (lr + (1 : Int32))), .val (.int (li + (1 : Int32)))] [])) _
            refine XS.goto XL.here hx rfl (pc0 := 43) (pc' := 5) rfl (hb hby d20_43) (by decide) (by decide) ?_
            exact kt
          obtain ⟨T', r', i', X', e', stL⟩ := ih TL (lr + (1 : Int32)) (li + (1 : Int32)) (k + 1) XL eL (own_p1 h1 (by omega)) (by omega)
          exact ⟨T', r', i', X', e', fun t kt => pre7 _ (stL t kt)⟩
        · skip
          have hk1 : 1 ≤ k := by
            rcases Nat.eq_zero_or_pos k with hz | hz
            · exact absurd (Int32.toInt_inj.mp (by rw [h1, hz]; rfl)) hc13_6
            · exact hz
          obtain ⟨T8, X8, hE8, st8⟩ := getF XL hx hZ hown (host := "") (Or.inl (hw _ (List.mem_of_getElem? (i := 21) rfl))) Via.refl eL F_values (g := (mkF m 17 #[.val (.ref a1), .val (.int p2), .val (.int p3), .val (.int lr), .val (.int li)] [(.ref a1)])) rfl rfl (hb hby d20_17)
          obtain ⟨T9, X9, hE9, st9⟩ := getF X8 hx hZ hown (host := "") (Or.inl (hw _ (List.mem_of_getElem? (i := 21) rfl))) Via.refl hE8 F_values (g := (mkF m 24 #[.val (.ref a1), .val (.int p2), .val (.int p3), .val (.int lr), .val (.int li)] [(.ref a1), (.int (fv k))])) rfl rfl (hb hby d20_24)
          have pre10 : ∀ t, Steps p.tables e below (T9.setTop (mkF m 34 #[.val (.ref a1), .val (.int p2), .val (.int p3), .val (.int lr), .val (.int li)] [(.int ((fv (k - 1)) + (1 : Int32))), (.int (fv k))])) t → Steps p.tables e below (TL.setTop (mkF m 5 #[.val (.ref a1), .val (.int p2), .val (.int p3), .val (.int lr), .val (.int li)] [])) t := by
            intro t kt
            refine pre5 _ ?_
            show Steps p.tables e below (TL.setTop (mkF m 13 #[.val (.ref a1), .val (.int p2), .val (.int p3), .val (.int lr), .val (.int li)] [(.int li)])) _
            refine XS.ifNo XL.here hx rfl (hb hby d20_13) rfl (XT.i0_eq_f hc13_6) ?_
            show Steps p.tables e below (TL.setTop (mkF m 16 #[.val (.ref a1), .val (.int p2), .val (.int p3), .val (.int lr), .val (.int li)] [])) _
            refine XS.aloadN XL.here hx rfl (hb hby d20_16) rfl rfl ?_
            show Steps p.tables e below (TL.setTop (mkF m 17 #[.val (.ref a1), .val (.int p2), .val (.int p3), .val (.int lr), .val (.int li)] [(.ref a1)])) _
            refine st8 _ ?_
            show Steps p.tables e below (T8.setTop (mkF m 20 #[.val (.ref a1), .val (.int p2), .val (.int p3), .val (.int lr), .val (.int li)] [(.ref av)])) _
            refine XS.iload X8.here hx rfl (hb hby d20_20) rfl ?_
            show Steps p.tables e below (T8.setTop (mkF m 22 #[.val (.ref a1), .val (.int p2), .val (.int p3), .val (.int lr), .val (.int li)] [(.int li), (.ref av)])) _
            refine owLdC (k := k) X8 hx hZ hE8 A_av (j := li) h1 hk4 (g := (mkF m 22 #[.val (.ref a1), .val (.int p2), .val (.int p3), .val (.int lr), .val (.int li)] [(.int li), (.ref av)])) rfl rfl (hb hby d20_22) _ ?_
            show Steps p.tables e below (T8.setTop (mkF m 23 #[.val (.ref a1), .val (.int p2), .val (.int p3), .val (.int lr), .val (.int li)] [(.int (fv k))])) _
            refine XS.aloadN X8.here hx rfl (hb hby d20_23) rfl rfl ?_
            show Steps p.tables e below (T8.setTop (mkF m 24 #[.val (.ref a1), .val (.int p2), .val (.int p3), .val (.int lr), .val (.int li)] [(.ref a1), (.int (fv k))])) _
            refine st9 _ ?_
            show Steps p.tables e below (T9.setTop (mkF m 27 #[.val (.ref a1), .val (.int p2), .val (.int p3), .val (.int lr), .val (.int li)] [(.ref av), (.int (fv k))])) _
            refine XS.iload X9.here hx rfl (hb hby d20_27) rfl ?_
            show Steps p.tables e below (T9.setTop (mkF m 29 #[.val (.ref a1), .val (.int p2), .val (.int p3), .val (.int lr), .val (.int li)] [(.int li), (.ref av), (.int (fv k))])) _
            refine XS.iconst X9.here hx rfl (hb hby d20_29) ?_
            show Steps p.tables e below (T9.setTop (mkF m 30 #[.val (.ref a1), .val (.int p2), .val (.int p3), .val (.int lr), .val (.int li)] [(.int (1 : Int32)), (.int li), (.ref av), (.int (fv k))])) _
            refine XS.isub X9.here hx rfl (hb hby d20_30) rfl ?_
            show Steps p.tables e below (T9.setTop (mkF m 31 #[.val (.ref a1), .val (.int p2), .val (.int p3), .val (.int lr), .val (.int li)] [(.int (li - (1 : Int32))), (.ref av), (.int (fv k))])) _
            refine owLdC (k := (k - 1)) X9 hx hZ hE9 A_av (j := (li - (1 : Int32))) (own_m1 h1 hk1) (by omega) (g := (mkF m 31 #[.val (.ref a1), .val (.int p2), .val (.int p3), .val (.int lr), .val (.int li)] [(.int (li - (1 : Int32))), (.ref av), (.int (fv k))])) rfl rfl (hb hby d20_31) _ ?_
            show Steps p.tables e below (T9.setTop (mkF m 32 #[.val (.ref a1), .val (.int p2), .val (.int p3), .val (.int lr), .val (.int li)] [(.int (fv (k - 1))), (.int (fv k))])) _
            refine XS.iconst X9.here hx rfl (hb hby d20_32) ?_
            show Steps p.tables e below (T9.setTop (mkF m 33 #[.val (.ref a1), .val (.int p2), .val (.int p3), .val (.int lr), .val (.int li)] [(.int (1 : Int32)), (.int (fv (k - 1))), (.int (fv k))])) _
            refine XS.iadd X9.here hx rfl (hb hby d20_33) rfl ?_
            exact kt
          by_cases hc34_11 : (fv k) = ((fv (k - 1)) + (1 : Int32))
          · skip
            have pre12 : ∀ t, Steps p.tables e below (T9.setTop (mkF m 5 #[.val (.ref a1), .val (.int p2), .val (.int p3), .val (.int lr), .val (.int (li + (1 : Int32)))] [])) t → Steps p.tables e below (TL.setTop (mkF m 5 #[.val (.ref a1), .val (.int p2), .val (.int p3), .val (.int lr), .val (.int li)] [])) t := by
              intro t kt
              refine pre10 _ ?_
              show Steps p.tables e below (T9.setTop (mkF m 34 #[.val (.ref a1), .val (.int p2), .val (.int p3), .val (.int lr), .val (.int li)] [(.int ((fv (k - 1)) + (1 : Int32))), (.int (fv k))])) _
              refine XS.icmpYes X9.here hx rfl (pc0 := 34) (pc' := 40) rfl (hb hby d20_34) rfl (XT.ii_eq_t hc34_11) (by decide) (by decide) ?_
              show Steps p.tables e below (T9.setTop (mkF m 40 #[.val (.ref a1), .val (.int p2), .val (.int p3), .val (.int lr), .val (.int li)] [])) _
              refine XS.iinc X9.here hx rfl (hb hby d20_40) rfl (l' := #[.val (.ref a1), .val (.int p2), .val (.int p3), .val (.int lr), .val (.int (li + (1 : Int32)))]) rfl ?_
              show Steps p.tables e below (T9.setTop (mkF m 43 #[.val (.ref a1), .val (.int p2), .val (.int p3), .val (.int lr), .val (.int (li + (1 : Int32)))] [])) _
              refine XS.goto X9.here hx rfl (pc0 := 43) (pc' := 5) rfl (hb hby d20_43) (by decide) (by decide) ?_
              exact kt
            obtain ⟨T', r', i', X', e', stL⟩ := ih T9 lr (li + (1 : Int32)) (k + 1) X9 hE9 (own_p1 h1 (by omega)) (by omega)
            exact ⟨T', r', i', X', e', fun t kt => pre12 _ (stL t kt)⟩
          · skip
            have pre13 : ∀ t, Steps p.tables e below (T9.setTop (mkF m 5 #[.val (.ref a1), .val (.int p2), .val (.int p3), .val (.int (lr + (1 : Int32))), .val (.int (li + (1 : Int32)))] [])) t → Steps p.tables e below (TL.setTop (mkF m 5 #[.val (.ref a1), .val (.int p2), .val (.int p3), .val (.int lr), .val (.int li)] [])) t := by
              intro t kt
              refine pre10 _ ?_
              show Steps p.tables e below (T9.setTop (mkF m 34 #[.val (.ref a1), .val (.int p2), .val (.int p3), .val (.int lr), .val (.int li)] [(.int ((fv (k - 1)) + (1 : Int32))), (.int (fv k))])) _
              refine XS.icmpNo X9.here hx rfl (hb hby d20_34) rfl (XT.ii_eq_f hc34_11) ?_
              show Steps p.tables e below (T9.setTop (mkF m 37 #[.val (.ref a1), .val (.int p2), .val (.int p3), .val (.int lr), .val (.int li)] [])) _
              refine XS.iinc X9.here hx rfl (hb hby d20_37) rfl (l' := #[.val (.ref a1), .val (.int p2), .val (.int p3), .val (.int (lr + (1 : Int32))), .val (.int li)]) rfl ?_
              show Steps p.tables e below (T9.setTop (mkF m 40 #[.val (.ref a1), .val (.int p2), .val (.int p3), .val (.int (lr + (1 : Int32))), .val (.int li)] [])) _
              refine XS.iinc X9.here hx rfl (hb hby d20_40) rfl (l' := #[.val (.ref a1), .val (.int p2), .val (.int p3), .val (.int (lr + (1 : Int32))), .val (.int (li + (1 : Int32)))]) rfl ?_
              show Steps p.tables e below (T9.setTop (mkF m 43 #[.val (.ref a1), .val (.int p2), .val (.int p3), .val (.int (lr + (1 : Int32))), .val (.int (li + (1 : Int32)))] [])) _
              refine XS.goto X9.here hx rfl (pc0 := 43) (pc' := 5) rfl (hb hby d20_43) (by decide) (by decide) ?_
              exact kt
            obtain ⟨T', r', i', X', e', stL⟩ := ih T9 (lr + (1 : Int32)) (li + (1 : Int32)) (k + 1) X9 hE9 (own_p1 h1 (by omega)) (by omega)
            exact ⟨T', r', i', X', e', fun t kt => pre13 _ (stL t kt)⟩
      · skip
        have pre14 : ∀ t, Steps p.tables e below (TL.setTop (mkF m 5 #[.val (.ref a1), .val (.int p2), .val (.int p3), .val (.int lr), .val (.int li)] [])) t → Steps p.tables e below (TL.setTop (mkF m 5 #[.val (.ref a1), .val (.int p2), .val (.int p3), .val (.int lr), .val (.int li)] [])) t := fun _ k => k
        have pre15 : ∀ t, Steps p.tables e below (TL.setTop (mkF m 46 #[.val (.ref a1), .val (.int p2), .val (.int p3), .val (.int lr), .val (.int li)] [])) t → Steps p.tables e below (TL.setTop (mkF m 5 #[.val (.ref a1), .val (.int p2), .val (.int p3), .val (.int lr), .val (.int li)] [])) t := by
          intro t kt
          refine pre14 _ ?_
          show Steps p.tables e below (TL.setTop (mkF m 5 #[.val (.ref a1), .val (.int p2), .val (.int p3), .val (.int lr), .val (.int li)] [])) _
          refine XS.iload XL.here hx rfl (hb hby d20_5) rfl ?_
          show Steps p.tables e below (TL.setTop (mkF m 7 #[.val (.ref a1), .val (.int p2), .val (.int p3), .val (.int lr), .val (.int li)] [(.int li)])) _
          refine XS.iloadN XL.here hx rfl (hb hby d20_7) rfl ?_
          show Steps p.tables e below (TL.setTop (mkF m 8 #[.val (.ref a1), .val (.int p2), .val (.int p3), .val (.int lr), .val (.int li)] [(.int p3), (.int li)])) _
          refine XS.icmpYes XL.here hx rfl (pc0 := 8) (pc' := 46) rfl (hb hby d20_8) rfl (XT.ii_ge_t hq) (by decide) (by decide) ?_
          exact kt
        exact ⟨TL, lr, li, XL, eL, fun t kt => pre15 _ kt⟩
  obtain ⟨TF, r', i', XF, eF, stF⟩ := loop 4 s₁ (0 : Int32) p2 kp X0 e0 hp2 (by omega)
  have pre16 : ∀ t, Steps p.tables e below (TF.setTop (mkF m 46 #[.val (.ref a1), .val (.int p2), .val (.int p3), .val (.int r'), .val (.int i')] [])) t → Steps p.tables e below (s₁.setTop (entryFrame m #[(.ref a1), (.int p2), (.int p3)] 5)) t := fun t kt => pre1 _ (stF t kt)
  have pre17 : ∀ t, Steps p.tables e below (TF.setTop (mkF m 47 #[.val (.ref a1), .val (.int p2), .val (.int p3), .val (.int r'), .val (.int i')] [(.int r')])) t → Steps p.tables e below (s₁.setTop (entryFrame m #[(.ref a1), (.int p2), (.int p3)] 5)) t := by
    intro t kt
    refine pre16 _ ?_
    show Steps p.tables e below (TF.setTop (mkF m 46 #[.val (.ref a1), .val (.int p2), .val (.int p3), .val (.int r'), .val (.int i')] [])) _
    refine XS.iloadN XF.here hx rfl (hb hby d20_46) rfl ?_
    exact kt
  obtain ⟨fs, hr, hrun, hended, hW, hsame⟩ := XF.leave (v := some (.int r')) (fun h => by rw [Bd.returns] at h; cases h)
  refine ⟨_, _, pre17 _ ?_, hrun, hended, _, _, rfl, ?_, ⟨_, rfl⟩, hW, hsame.mono (by decide) (by decide)⟩
  · show Steps p.tables e below (TF.setTop (mkF m 47 #[.val (.ref a1), .val (.int p2), .val (.int p3), .val (.int r'), .val (.int i')] [(.int r')])) _
    exact owRetI XF hx Bd.returns (hb hby d20_47) hr
  · show Q20 Z a1 p2 p3 av fv kp h0 n0 _ TF.heap _
    rw [eF]
    exact ⟨_, rfl, N0, rfl⟩
theorem own_mn4 (x y : Int32) (h : y.toInt ≤ 4) : (fn14 x y).toInt ≤ 4 := by
  unfold fn14; split
  · exact h
  · rename_i q; rw [Int32.lt_iff_toInt_lt] at q; omega
theorem d10_0 : decode prog_22_method_12_code 0 = .ok (.aload_n 0, 1) := by decide +kernel
theorem d10_1 : decode prog_22_method_12_code 1 = .ok (.getfield 19, 3) := by decide +kernel
theorem d10_4 : decode prog_22_method_12_code 4 = .ok (.aload_n 0, 1) := by decide +kernel
theorem d10_5 : decode prog_22_method_12_code 5 = .ok (.getfield 16, 3) := by decide +kernel
theorem d10_8 : decode prog_22_method_12_code 8 = .ok (.arraylength, 1) := by decide +kernel
theorem d10_9 : decode prog_22_method_12_code 9 = .ok (.if_icmp .ne 50, 3) := by decide +kernel
theorem d10_12 : decode prog_22_method_12_code 12 = .ok (.aload_n 0, 1) := by decide +kernel
theorem d10_13 : decode prog_22_method_12_code 13 = .ok (.getfield 19, 3) := by decide +kernel
theorem d10_16 : decode prog_22_method_12_code 16 = .ok (.sipush 4096, 3) := by decide +kernel
theorem d10_19 : decode prog_22_method_12_code 19 = .ok (.if_icmp .ne 12, 3) := by decide +kernel
theorem d10_22 : decode prog_22_method_12_code 22 = .ok (.aload_n 0, 1) := by decide +kernel
theorem d10_23 : decode prog_22_method_12_code 23 = .ok (.invokestatic 73, 3) := by decide +kernel
theorem d10_26 : decode prog_22_method_12_code 26 = .ok (.iload_n 1, 1) := by decide +kernel
theorem d10_27 : decode prog_22_method_12_code 27 = .ok (.invokevirtual 78, 3) := by decide +kernel
theorem d10_30 : decode prog_22_method_12_code 30 = .ok (.areturn, 1) := by decide +kernel
theorem d10_31 : decode prog_22_method_12_code 31 = .ok (.aload_n 0, 1) := by decide +kernel
theorem d10_32 : decode prog_22_method_12_code 32 = .ok (.aload_n 0, 1) := by decide +kernel
theorem d10_33 : decode prog_22_method_12_code 33 = .ok (.getfield 16, 3) := by decide +kernel
theorem d10_36 : decode prog_22_method_12_code 36 = .ok (.getstatic 96, 3) := by decide +kernel
theorem d10_39 : decode prog_22_method_12_code 39 = .ok (.aload_n 0, 1) := by decide +kernel
theorem d10_40 : decode prog_22_method_12_code 40 = .ok (.getfield 16, 3) := by decide +kernel
theorem d10_43 : decode prog_22_method_12_code 43 = .ok (.arraylength, 1) := by decide +kernel
theorem d10_44 : decode prog_22_method_12_code 44 = .ok (.aload_n 0, 1) := by decide +kernel
theorem d10_45 : decode prog_22_method_12_code 45 = .ok (.getfield 19, 3) := by decide +kernel
theorem d10_48 : decode prog_22_method_12_code 48 = .ok (.iconst 1, 1) := by decide +kernel
theorem d10_49 : decode prog_22_method_12_code 49 = .ok (.iadd, 1) := by decide +kernel
theorem d10_50 : decode prog_22_method_12_code 50 = .ok (.invokevirtual 100, 3) := by decide +kernel
theorem d10_53 : decode prog_22_method_12_code 53 = .ok (.invokestatic 53, 3) := by decide +kernel
theorem d10_56 : decode prog_22_method_12_code 56 = .ok (.putfield 16, 3) := by decide +kernel
theorem d10_59 : decode prog_22_method_12_code 59 = .ok (.iload_n 1, 1) := by decide +kernel
theorem d10_60 : decode prog_22_method_12_code 60 = .ok (.iload_n 2, 1) := by decide +kernel
theorem d10_61 : decode prog_22_method_12_code 61 = .ok (.iconst 1, 1) := by decide +kernel
theorem d10_62 : decode prog_22_method_12_code 62 = .ok (.iadd, 1) := by decide +kernel
theorem d10_63 : decode prog_22_method_12_code 63 = .ok (.if_icmp .eq 13, 3) := by decide +kernel
theorem d10_66 : decode prog_22_method_12_code 66 = .ok (.aload_n 0, 1) := by decide +kernel
theorem d10_67 : decode prog_22_method_12_code 67 = .ok (.dup, 1) := by decide +kernel
theorem d10_68 : decode prog_22_method_12_code 68 = .ok (.getfield 23, 3) := by decide +kernel
theorem d10_71 : decode prog_22_method_12_code 71 = .ok (.iconst 1, 1) := by decide +kernel
theorem d10_72 : decode prog_22_method_12_code 72 = .ok (.iadd, 1) := by decide +kernel
theorem d10_73 : decode prog_22_method_12_code 73 = .ok (.putfield 23, 3) := by decide +kernel
theorem d10_76 : decode prog_22_method_12_code 76 = .ok (.aload_n 0, 1) := by decide +kernel
theorem d10_77 : decode prog_22_method_12_code 77 = .ok (.getfield 16, 3) := by decide +kernel
theorem d10_80 : decode prog_22_method_12_code 80 = .ok (.aload_n 0, 1) := by decide +kernel
theorem d10_81 : decode prog_22_method_12_code 81 = .ok (.dup, 1) := by decide +kernel
theorem d10_82 : decode prog_22_method_12_code 82 = .ok (.getfield 19, 3) := by decide +kernel
theorem d10_85 : decode prog_22_method_12_code 85 = .ok (.dup_x1, 1) := by decide +kernel
theorem d10_86 : decode prog_22_method_12_code 86 = .ok (.iconst 1, 1) := by decide +kernel
theorem d10_87 : decode prog_22_method_12_code 87 = .ok (.iadd, 1) := by decide +kernel
theorem d10_88 : decode prog_22_method_12_code 88 = .ok (.putfield 19, 3) := by decide +kernel
theorem d10_91 : decode prog_22_method_12_code 91 = .ok (.iload_n 1, 1) := by decide +kernel
theorem d10_92 : decode prog_22_method_12_code 92 = .ok (.castore, 1) := by decide +kernel
theorem d10_93 : decode prog_22_method_12_code 93 = .ok (.aload_n 0, 1) := by decide +kernel
theorem d10_94 : decode prog_22_method_12_code 94 = .ok (.areturn, 1) := by decide +kernel
theorem pn_10a : plainName "com/example/bitweight/bitweight/chunk/ArrayChunk" = true := by first | (simp [plainName, overriddenIn]; done) | decide +kernel
theorem ef_10a (m : MethodId) (x0 : Addr) (x1 : Int32) (x2 : Int32) : entryFrame m #[(.ref x0), (.int x1), (.int x2)] 3 = mkF m 0 #[.val (.ref x0), .val (.int x1), .val (.int x2)] [] := by first | (simp [entryFrame, mkF, argsToLocals, Value.category]; done) | rfl
theorem pd_6 : parseMethodDescriptor "([CI)[C" = some ⟨[(.array .char), .int], some (.array .char)⟩ := by decide +kernel
def Q10a (Z : State) (a1 : Addr) (p2 : Int32) (p3 : Int32) (an ar : Addr) (ur : Int32) (h0 : Heap) (n0 : Nat) (v : Option Value) (h : Heap) (L : List Loc) : Prop := ∃ (b : Addr) (r : Int32), v = some (.ref a1) ∧ Fr n0 L ∧ Keep h0 h [a1] ∧ h0.size ≤ b ∧ Exa Z h a1 "com/example/bitweight/bitweight/chunk/ArrayChunk" ∧ Fld Z h a1 "com/example/bitweight/bitweight/chunk/ArrayChunk" "values" "[C" (.ref b) ∧ Fld Z h a1 "com/example/bitweight/bitweight/chunk/ArrayChunk" "cardinality" "I" (.int (1 : Int32)) ∧ Fld Z h a1 "com/example/bitweight/bitweight/chunk/ArrayChunk" "runs" "I" (.int r) ∧ owAI Z h b .char 4 (owUp (fun _ => 0) 0 p2)
set_option maxRecDepth 65536 in
set_option maxHeartbeats 40000000 in
theorem rm10a (l : Launch) (Z : State) (a0 : Array Value) (hw : ∀ d ∈ tables_1, d.before a0 Z = true) (ws : List Jvm.Cond) (a1 : Addr) (p2 : Int32) (p3 : Int32) (an ar : Addr) (ur : Int32) (h0 : Heap) (n0 : Nat) (Z0 : n0 ≤ h0.size) (E_a1 : Exa Z h0 a1 "com/example/bitweight/bitweight/chunk/ArrayChunk") (F_values : Fld Z h0 a1 "com/example/bitweight/bitweight/chunk/ArrayChunk" "values" "[C" (.ref an)) (F_cardinality : Fld Z h0 a1 "com/example/bitweight/bitweight/chunk/ArrayChunk" "cardinality" "I" (.int (0 : Int32))) (F_runs : Fld Z h0 a1 "com/example/bitweight/bitweight/chunk/ArrayChunk" "runs" "I" (.int ur)) (A_an : owAI Z h0 an .char 0 (fun _ => 0)) (S_room : Sta Z h0 "com/example/bitweight/bitweight/chunk/ArrayChunk" "ROOM" "Lcom/example/bitweight/bitweight/chunk/Room;" (.ref ar)) (E_ar : Exa Z h0 ar "com/example/bitweight/bitweight/chunk/Room") (R_least : Fld Z h0 ar "com/example/bitweight/bitweight/chunk/Room" "least" "I" (.int (4 : Int32))) (R_shift : Fld Z h0 ar "com/example/bitweight/bitweight/chunk/Room" "shift" "I" (.int (2 : Int32))) (R_most : Fld Z h0 ar "com/example/bitweight/bitweight/chunk/Room" "most" "I" (.int (4096 : Int32))) (g_a1 : n0 ≤ a1) (hp2 : 0 ≤ p2.toInt ∧ p2.toInt < 65536) (n1r : a1 ≠ ar) (n1n : a1 ≠ an) :
    MetFree l (⟨"com/example/bitweight/bitweight/chunk/ArrayChunk", "addLast", "(CI)Lcom/example/bitweight/bitweight/chunk/Chunk;"⟩ : MethodName) (head1 (Jvm.Cond.code (⟨"com/example/bitweight/bitweight/chunk/ArrayChunk", "addLast", "(CI)Lcom/example/bitweight/bitweight/chunk/Chunk;"⟩ : MethodName) prog_22_method_12_code 3 (some (.object "com/example/bitweight/bitweight/chunk/Chunk")) :: ws) ({ frames := 3, cells := 1, slots := 4, locals := 44 } : Room)) (fun a U => a = #[(.ref a1), (.int p2), (.int p3)] ∧ Z.Warmed39 U.vm ∧ U.heap = h0) (fun _ _ _ _ _ => True) (fun _ U o U' => ∃ v L, o = .returned v ∧ Q10a Z a1 p2 p3 an ar ur h0 n0 v U'.heap L ∧ FrameEnd U o U' L ({ frames := 3, cells := 1, slots := 4, locals := 44 } : Room).cells ({ frames := 3, cells := 1, slots := 4, locals := 44 } : Room).slots) := by
  refine MetFree.of_bodySF (plainFor_of_name pn_10a) hisR ?_
  intro p e s m args below meth c s₁ Bd hml0 hP hK
  obtain ⟨rfl, hZ, hh⟩ := hP
  have hx := Bd.exec
  have hby := Bd.bytes
  have hml : c.maxLocals = 3 := hml0
  have hown : s.vm.findClass "com/example/bitweight/bitweight/chunk/ArrayChunk" = some m.cls := findClass_of_methodNamed Bd.named
  have hnm := (name_of_methodNamed Bd.named Bd.method).1
  have X0 : Stand p l e ({ frames := 3, cells := 1, slots := 4, locals := 44 } : Room) s m #[(.ref a1), (.int p2), (.int p3)] below meth c s₁ [] 0 0 := Stand.of_body Bd
  have e0 : s₁.heap = h0 := by rw [← hh, Bd.state]; rfl
  have N0 := Fr.nil n0
  have pre0 : ∀ t, Steps p.tables e below (s₁.setTop (mkF m 0 #[.val (.ref a1), .val (.int p2), .val (.int p3)] [])) t → Steps p.tables e below (s₁.setTop (entryFrame m #[(.ref a1), (.int p2), (.int p3)] 3)) t := fun t k => castTop (ef_10a m a1 p2 p3) k
  obtain ⟨T1, X1, hE1, st1⟩ := getF X0 hx hZ hown (host := "") (Or.inl (hw _ (List.mem_of_getElem? (i := 23) rfl))) Via.refl e0 F_cardinality (g := (mkF m 1 #[.val (.ref a1), .val (.int p2), .val (.int p3)] [(.ref a1)])) rfl rfl (hb hby d10_1)
  obtain ⟨T2, X2, hE2, st2⟩ := getF X1 hx hZ hown (host := "") (Or.inl (hw _ (List.mem_of_getElem? (i := 21) rfl))) Via.refl hE1 F_values (g := (mkF m 5 #[.val (.ref a1), .val (.int p2), .val (.int p3)] [(.ref a1), (.int (0 : Int32))])) rfl rfl (hb hby d10_5)
  obtain ⟨T3, X3, hE3, st3⟩ := getF X2 hx hZ hown (host := "") (Or.inl (hw _ (List.mem_of_getElem? (i := 23) rfl))) Via.refl hE2 F_cardinality (g := (mkF m 13 #[.val (.ref a1), .val (.int p2), .val (.int p3)] [(.ref a1)])) rfl rfl (hb hby d10_13)
  obtain ⟨T4, X4, hE4, st4⟩ := getF X3 hx hZ hown (host := "") (Or.inl (hw _ (List.mem_of_getElem? (i := 21) rfl))) Via.refl hE3 F_values (g := (mkF m 33 #[.val (.ref a1), .val (.int p2), .val (.int p3)] [(.ref a1), (.ref a1)])) rfl rfl (hb hby d10_33)
  obtain ⟨T5, X5, hE5, st5⟩ := getS2 X4 hx hZ hown (host := "") (Or.inl (hw _ (List.mem_of_getElem? (i := 51) rfl))) Via.refl hE4 S_room (g := (mkF m 36 #[.val (.ref a1), .val (.int p2), .val (.int p3)] [(.ref an), (.ref a1)])) rfl (hb hby d10_36)
  obtain ⟨T6, X6, hE6, st6⟩ := getF X5 hx hZ hown (host := "") (Or.inl (hw _ (List.mem_of_getElem? (i := 21) rfl))) Via.refl hE5 F_values (g := (mkF m 40 #[.val (.ref a1), .val (.int p2), .val (.int p3)] [(.ref a1), (.ref ar), (.ref an), (.ref a1)])) rfl rfl (hb hby d10_40)
  obtain ⟨T7, X7, hE7, st7⟩ := getF X6 hx hZ hown (host := "") (Or.inl (hw _ (List.mem_of_getElem? (i := 23) rfl))) Via.refl hE6 F_cardinality (g := (mkF m 45 #[.val (.ref a1), .val (.int p2), .val (.int p3)] [(.ref a1), (.int (0 : Int32)), (.ref ar), (.ref an), (.ref a1)])) rfl rfl (hb hby d10_45)
  obtain ⟨cq8, kq8, q8a, q8b, q8c⟩ := isOf hZ hE7 E_ar
  obtain ⟨_, _, ⟨T8, L8, k8, n8⟩, -, X8, ⟨Lc8, hQ8, l8, y8, z8⟩, st8⟩ := X7.virtualBack hx (y := (⟨"com/example/bitweight/bitweight/chunk/Room", "grown", "(II)I"⟩ : MethodName)) (z := (⟨"com/example/bitweight/bitweight/chunk/Room", "grown", "(II)I"⟩ : MethodName)) hown (mvT hZ (hw _ (List.mem_of_getElem? (i := 53) rfl))) (mvT hZ (hw _ (List.mem_of_getElem? (i := 54) rfl))) (notFace_of_selects (args := #[]) (mvT hZ (hw _ (List.mem_of_getElem? (i := 56) rfl)))) (mvT hZ (hw _ (List.mem_of_getElem? (i := 56) rfl))) (mvT hZ (hw _ (List.mem_of_getElem? (i := 55) rfl))) (by decide) (backOf (W := 2) (rm11 l Z a0 hw [] ar (0 : Int32) ((0 : Int32) + (1 : Int32)) h0 n0 Z0 E_ar R_least R_shift R_most) hZ (hw _ (List.mem_of_getElem? (i := 58) rfl)) (hw _ (List.mem_of_getElem? (i := 57) rfl)) (by decide) (by decide)) q8a q8c (g := (mkF m 50 #[.val (.ref a1), .val (.int p2), .val (.int p3)] [(.int ((0 : Int32) + (1 : Int32))), (.int (0 : Int32)), (.ref ar), (.ref an), (.ref a1)])) rfl (by rw [hml]; rfl) (Steps.refl _) (argsL := [(.int (0 : Int32)), (.int ((0 : Int32) + (1 : Int32)))]) (rest := [(.ref an), (.ref a1)]) (lenOf pd_0 rfl) rfl (by show 2 * 0 + _ ≤ _; exact Nat.le_of_eq rfl) (hb hby d10_50) (fun _ _ => ⟨rfl, hE7, (by decide : 0 + 0 ≤ _), (by decide : 0 + 0 ≤ _)⟩)
  dsimp only [Pt.U, Pt.locs, Pt.cells, Pt.slots] at X8 l8 y8 z8 st8 hQ8
  subst l8 y8 z8
  obtain ⟨rfl, N8q, hE8⟩ := hQ8
  have N8 := Fr.app N0 N8q
  have pre9 : ∀ t, Steps p.tables e below (T8.setTop (mkF m 53 #[.val (.ref a1), .val (.int p2), .val (.int p3)] [(.int (fn11 ar (0 : Int32) ((0 : Int32) + (1 : Int32)))), (.ref an), (.ref a1)])) t → Steps p.tables e below (s₁.setTop (entryFrame m #[(.ref a1), (.int p2), (.int p3)] 3)) t := by
    intro t kt
    refine pre0 _ ?_
    show Steps p.tables e below (s₁.setTop (mkF m 0 #[.val (.ref a1), .val (.int p2), .val (.int p3)] [])) _
    refine XS.aloadN X0.here hx rfl (hb hby d10_0) rfl rfl ?_
    show Steps p.tables e below (s₁.setTop (mkF m 1 #[.val (.ref a1), .val (.int p2), .val (.int p3)] [(.ref a1)])) _
    refine st1 _ ?_
    show Steps p.tables e below (T1.setTop (mkF m 4 #[.val (.ref a1), .val (.int p2), .val (.int p3)] [(.int (0 : Int32))])) _
    refine XS.aloadN X1.here hx rfl (hb hby d10_4) rfl rfl ?_
    show Steps p.tables e below (T1.setTop (mkF m 5 #[.val (.ref a1), .val (.int p2), .val (.int p3)] [(.ref a1), (.int (0 : Int32))])) _
    refine st2 _ ?_
    show Steps p.tables e below (T2.setTop (mkF m 8 #[.val (.ref a1), .val (.int p2), .val (.int p3)] [(.ref an), (.int (0 : Int32))])) _
    refine owLenI X2 hx hZ hE2 A_an (z := (0 : Int32)) rfl (g := (mkF m 8 #[.val (.ref a1), .val (.int p2), .val (.int p3)] [(.ref an), (.int (0 : Int32))])) rfl rfl (hb hby d10_8) _ ?_
    show Steps p.tables e below (T2.setTop (mkF m 9 #[.val (.ref a1), .val (.int p2), .val (.int p3)] [(.int (0 : Int32)), (.int (0 : Int32))])) _
    refine XS.icmpNo X2.here hx rfl (hb hby d10_9) rfl (XT.ii_ne_f (by decide)) ?_
    show Steps p.tables e below (T2.setTop (mkF m 12 #[.val (.ref a1), .val (.int p2), .val (.int p3)] [])) _
    refine XS.aloadN X2.here hx rfl (hb hby d10_12) rfl rfl ?_
    show Steps p.tables e below (T2.setTop (mkF m 13 #[.val (.ref a1), .val (.int p2), .val (.int p3)] [(.ref a1)])) _
    refine st3 _ ?_
    show Steps p.tables e below (T3.setTop (mkF m 16 #[.val (.ref a1), .val (.int p2), .val (.int p3)] [(.int (0 : Int32))])) _
    refine XS.sipush X3.here hx rfl (hb hby d10_16) ?_
    show Steps p.tables e below (T3.setTop (mkF m 19 #[.val (.ref a1), .val (.int p2), .val (.int p3)] [(.int (4096 : Int32)), (.int (0 : Int32))])) _
    refine XS.icmpYes X3.here hx rfl (pc0 := 19) (pc' := 31) rfl (hb hby d10_19) rfl (XT.ii_ne_t (by decide)) (by decide) (by decide) ?_
    show Steps p.tables e below (T3.setTop (mkF m 31 #[.val (.ref a1), .val (.int p2), .val (.int p3)] [])) _
    refine XS.aloadN X3.here hx rfl (hb hby d10_31) rfl rfl ?_
    show Steps p.tables e below (T3.setTop (mkF m 32 #[.val (.ref a1), .val (.int p2), .val (.int p3)] [(.ref a1)])) _
    refine XS.aloadN X3.here hx rfl (hb hby d10_32) rfl rfl ?_
    show Steps p.tables e below (T3.setTop (mkF m 33 #[.val (.ref a1), .val (.int p2), .val (.int p3)] [(.ref a1), (.ref a1)])) _
    refine st4 _ ?_
    show Steps p.tables e below (T4.setTop (mkF m 36 #[.val (.ref a1), .val (.int p2), .val (.int p3)] [(.ref an), (.ref a1)])) _
    refine st5 _ ?_
    show Steps p.tables e below (T5.setTop (mkF m 39 #[.val (.ref a1), .val (.int p2), .val (.int p3)] [(.ref ar), (.ref an), (.ref a1)])) _
    refine XS.aloadN X5.here hx rfl (hb hby d10_39) rfl rfl ?_
    show Steps p.tables e below (T5.setTop (mkF m 40 #[.val (.ref a1), .val (.int p2), .val (.int p3)] [(.ref a1), (.ref ar), (.ref an), (.ref a1)])) _
    refine st6 _ ?_
    show Steps p.tables e below (T6.setTop (mkF m 43 #[.val (.ref a1), .val (.int p2), .val (.int p3)] [(.ref an), (.ref ar), (.ref an), (.ref a1)])) _
    refine owLenI X6 hx hZ hE6 A_an (z := (0 : Int32)) rfl (g := (mkF m 43 #[.val (.ref a1), .val (.int p2), .val (.int p3)] [(.ref an), (.ref ar), (.ref an), (.ref a1)])) rfl rfl (hb hby d10_43) _ ?_
    show Steps p.tables e below (T6.setTop (mkF m 44 #[.val (.ref a1), .val (.int p2), .val (.int p3)] [(.int (0 : Int32)), (.ref ar), (.ref an), (.ref a1)])) _
    refine XS.aloadN X6.here hx rfl (hb hby d10_44) rfl rfl ?_
    show Steps p.tables e below (T6.setTop (mkF m 45 #[.val (.ref a1), .val (.int p2), .val (.int p3)] [(.ref a1), (.int (0 : Int32)), (.ref ar), (.ref an), (.ref a1)])) _
    refine st7 _ ?_
    show Steps p.tables e below (T7.setTop (mkF m 48 #[.val (.ref a1), .val (.int p2), .val (.int p3)] [(.int (0 : Int32)), (.int (0 : Int32)), (.ref ar), (.ref an), (.ref a1)])) _
    refine XS.iconst X7.here hx rfl (hb hby d10_48) ?_
    show Steps p.tables e below (T7.setTop (mkF m 49 #[.val (.ref a1), .val (.int p2), .val (.int p3)] [(.int (1 : Int32)), (.int (0 : Int32)), (.int (0 : Int32)), (.ref ar), (.ref an), (.ref a1)])) _
    refine XS.iadd X7.here hx rfl (hb hby d10_49) rfl ?_
    show Steps p.tables e below (T7.setTop (mkF m 50 #[.val (.ref a1), .val (.int p2), .val (.int p3)] [(.int ((0 : Int32) + (1 : Int32))), (.int (0 : Int32)), (.ref ar), (.ref an), (.ref a1)])) _
    refine st8.trans ?_
    exact kt
  have ql10 : (fn11 ar (0 : Int32) ((0 : Int32) + (1 : Int32))) = (4 : Int32) := by unfold fn11 fn12 fn13 fn14; decide
  have pre11 : ∀ t, Steps p.tables e below (T8.setTop (mkF m 53 #[.val (.ref a1), .val (.int p2), .val (.int p3)] [(.int (4 : Int32)), (.ref an), (.ref a1)])) t → Steps p.tables e below (s₁.setTop (entryFrame m #[(.ref a1), (.int p2), (.int p3)] 3)) t := by
    intro t kt
    refine pre9 _ ?_
    rw [ql10]
    exact kt
  obtain ⟨_, _, ⟨T12, L12, k12, n12⟩, -, X12, ⟨Lc12, hQ12, l12, y12, z12⟩, st12⟩ := Jvm.LawKit.callS X8 hx (y := (⟨"java/util/Arrays", "copyOf", "([CI)[C"⟩ : MethodName)) hown (mvT hZ (hw _ (List.mem_of_getElem? (i := 76) rfl))) (mvT hZ (hw _ (List.mem_of_getElem? (i := 77) rfl))) (mvT hZ (hw _ (List.mem_of_getElem? (i := 78) rfl))) (mvT hZ (hw _ (List.mem_of_getElem? (i := 79) rfl))) (by decide) (backOf (W := 1) (rm15 l Z a0 hw [] an h0 n0 Z0 A_an) hZ (hw _ (List.mem_of_getElem? (i := 79) rfl)) (hw _ (List.mem_of_getElem? (i := 78) rfl)) (by decide) (by decide)) (g := (mkF m 53 #[.val (.ref a1), .val (.int p2), .val (.int p3)] [(.int (4 : Int32)), (.ref an), (.ref a1)])) rfl (by rw [hml]; rfl) (argsL := [(.ref an), (.int (4 : Int32))]) (rest := [(.ref a1)]) (lenOf pd_6 rfl) rfl (by show 2 * 0 + _ ≤ _; exact Nat.le_of_eq rfl) (hb hby d10_53) (fun _ _ => ⟨rfl, hE8, (by decide : 0 + 1 ≤ _), (by decide : 0 + 4 ≤ _)⟩)
  dsimp only [Pt.U, Pt.locs, Pt.cells, Pt.slots] at X12 l12 y12 z12 st12 hQ12
  subst l12 y12 z12
  obtain ⟨bn, rfl, N12q, K12, h_bn, p12_A⟩ := hQ12
  have N12 := Fr.app N8 N12q
  have ne_a1_bn : a1 ≠ bn := Nat.ne_of_lt (Nat.lt_of_lt_of_le E_a1.lt h_bn)
  have ne_an_bn : an ≠ bn := Nat.ne_of_lt (Nat.lt_of_lt_of_le A_an.lt h_bn)
  have ne_ar_bn : ar ≠ bn := Nat.ne_of_lt (Nat.lt_of_lt_of_le E_ar.lt h_bn)
  have g_bn : n0 ≤ bn := Nat.le_trans Z0 h_bn
  have sz_bn : h0.size ≤ bn := Nat.le_trans (Keep.refl h0 [a1]).1 h_bn
  have f13 := E_a1.keep K12
  have f14 := F_values.keep K12 nin0
  have f15 := F_cardinality.keep K12 nin0
  have f16 := F_runs.keep K12 nin0
  have f17 := A_an.keep K12 nin0
  have f19 := E_ar.keep K12
  have f20 := R_least.keep K12 nin0
  have f21 := R_shift.keep K12 nin0
  have f22 := R_most.keep K12 nin0
  have Z23 := Nat.le_trans Z0 K12.1
  have K24 := (Keep.refl h0 [a1]).trans K12 all0
  obtain ⟨T25, gh25, X25, hE25, W25, st25⟩ := putF X12 hx hZ hown (host := "") (Or.inl (hw _ (List.mem_of_getElem? (i := 21) rfl))) Via.refl rfl f14 f13 (Or.inl (hw _ (List.mem_of_getElem? (i := 22) rfl))) (hw _ (List.mem_of_getElem? (i := 3) rfl)) (ty := (.array .char)) (by decide) rfl rfl (g := (mkF m 56 #[.val (.ref a1), .val (.int p2), .val (.int p3)] [(.ref bn), (.ref a1)])) rfl rfl (hb hby d10_56)
  have Fw25 := f14.same W25
  have f26 := f13.wr W25
  have f28 := f15.other W25 (Or.inr (slot_ne (Or.inl (hw _ (List.mem_of_getElem? (i := 24) rfl))) (Or.inl (hw _ (List.mem_of_getElem? (i := 22) rfl))) (by decide) (t := .int) (t' := (.array .char)) (by decide) (by decide)))
  have f29 := f16.other W25 (Or.inr (slot_ne (Or.inl (hw _ (List.mem_of_getElem? (i := 26) rfl))) (Or.inl (hw _ (List.mem_of_getElem? (i := 22) rfl))) (by decide) (t := .int) (t' := (.array .char)) (by decide) (by decide)))
  have f30 := f17.other W25 (Ne.symm n1n)
  have f31 := f19.wr W25
  have f32 := f20.other W25 (Or.inl (Ne.symm n1r))
  have f33 := f21.other W25 (Or.inl (Ne.symm n1r))
  have f34 := f22.other W25 (Or.inl (Ne.symm n1r))
  have f35 := p12_A.other W25 (Ne.symm ne_a1_bn)
  have Z36 := Nat.le_trans Z23 (Keep.of_wr W25).1
  have N37 := Fr.snoc X25 N12 g_a1
  have K38 := K24.wr W25 (Or.inl (List.mem_of_getElem? (i := 0) rfl))
  have pre39 : ∀ t, Steps p.tables e below (T25.setTop (mkF m 63 #[.val (.ref a1), .val (.int p2), .val (.int p3)] [(.int (p3 + (1 : Int32))), (.int p2)])) t → Steps p.tables e below (s₁.setTop (entryFrame m #[(.ref a1), (.int p2), (.int p3)] 3)) t := by
    intro t kt
    refine pre11 _ ?_
    show Steps p.tables e below (T8.setTop (mkF m 53 #[.val (.ref a1), .val (.int p2), .val (.int p3)] [(.int (4 : Int32)), (.ref an), (.ref a1)])) _
    refine st12 _ ?_
    show Steps p.tables e below (T12.setTop (mkF m 56 #[.val (.ref a1), .val (.int p2), .val (.int p3)] [(.ref bn), (.ref a1)])) _
    refine st25 _ ?_
    show Steps p.tables e below (T25.setTop (mkF m 59 #[.val (.ref a1), .val (.int p2), .val (.int p3)] [])) _
    refine XS.iloadN X25.here hx rfl (hb hby d10_59) rfl ?_
    show Steps p.tables e below (T25.setTop (mkF m 60 #[.val (.ref a1), .val (.int p2), .val (.int p3)] [(.int p2)])) _
    refine XS.iloadN X25.here hx rfl (hb hby d10_60) rfl ?_
    show Steps p.tables e below (T25.setTop (mkF m 61 #[.val (.ref a1), .val (.int p2), .val (.int p3)] [(.int p3), (.int p2)])) _
    refine XS.iconst X25.here hx rfl (hb hby d10_61) ?_
    show Steps p.tables e below (T25.setTop (mkF m 62 #[.val (.ref a1), .val (.int p2), .val (.int p3)] [(.int (1 : Int32)), (.int p3), (.int p2)])) _
    refine XS.iadd X25.here hx rfl (hb hby d10_62) rfl ?_
    exact kt
  by_cases hc63_40 : p2 = (p3 + (1 : Int32))
  · skip
    obtain ⟨T41, X41, hE41, st41⟩ := getF X25 hx hZ hown (host := "") (Or.inl (hw _ (List.mem_of_getElem? (i := 21) rfl))) Via.refl hE25 Fw25 (g := (mkF m 77 #[.val (.ref a1), .val (.int p2), .val (.int p3)] [(.ref a1)])) rfl rfl (hb hby d10_77)
    obtain ⟨T42, X42, hE42, st42⟩ := getF X41 hx hZ hown (host := "") (Or.inl (hw _ (List.mem_of_getElem? (i := 23) rfl))) Via.refl hE41 f28 (g := (mkF m 82 #[.val (.ref a1), .val (.int p2), .val (.int p3)] [(.ref a1), (.ref a1), (.ref bn)])) rfl rfl (hb hby d10_82)
    obtain ⟨T43, gh43, X43, hE43, W43, st43⟩ := putF X42 hx hZ hown (host := "") (Or.inl (hw _ (List.mem_of_getElem? (i := 23) rfl))) Via.refl hE42 f28 f26 (Or.inl (hw _ (List.mem_of_getElem? (i := 24) rfl))) (hw _ (List.mem_of_getElem? (i := 3) rfl)) (ty := .int) (by decide) rfl rfl (g := (mkF m 88 #[.val (.ref a1), .val (.int p2), .val (.int p3)] [(.int ((0 : Int32) + (1 : Int32))), (.ref a1), (.int (0 : Int32)), (.ref bn)])) rfl rfl (hb hby d10_88)
    have Fw43 := f28.same W43
    have f44 := f26.wr W43
    have f45 := Fw25.other W43 (Or.inr (slot_ne (Or.inl (hw _ (List.mem_of_getElem? (i := 22) rfl))) (Or.inl (hw _ (List.mem_of_getElem? (i := 24) rfl))) (by decide) (t := (.array .char)) (t' := .int) (by decide) (by decide)))
    have f47 := f29.other W43 (Or.inr (slot_ne (Or.inl (hw _ (List.mem_of_getElem? (i := 26) rfl))) (Or.inl (hw _ (List.mem_of_getElem? (i := 24) rfl))) (by decide) (t := .int) (t' := .int) (by decide) (by decide)))
    have f48 := f30.other W43 (Ne.symm n1n)
    have f49 := f31.wr W43
    have f50 := f32.other W43 (Or.inl (Ne.symm n1r))
    have f51 := f33.other W43 (Or.inl (Ne.symm n1r))
    have f52 := f34.other W43 (Or.inl (Ne.symm n1r))
    have f53 := f35.other W43 (Ne.symm ne_a1_bn)
    have Z54 := Nat.le_trans Z36 (Keep.of_wr W43).1
    have N55 := Fr.snoc X43 N37 g_a1
    have K56 := K38.wr W43 (Or.inl (List.mem_of_getElem? (i := 0) rfl))
    obtain ⟨T57, gh57, X57, hE57, W57, V57, st57⟩ := owStC X43 hx hZ hE43 f53 (k := 0) (j := (0 : Int32)) rfl (by decide) (g := (mkF m 92 #[.val (.ref a1), .val (.int p2), .val (.int p3)] [(.int p2), (.int (0 : Int32)), (.ref bn)])) rfl rfl (hb hby d10_92)
    have f58 := f44.wr W57
    have f59 := f45.other W57 (Or.inl ne_a1_bn)
    have f60 := Fw43.other W57 (Or.inl ne_a1_bn)
    have f61 := f47.other W57 (Or.inl ne_a1_bn)
    have f62 := f48.other W57 ne_an_bn
    have f63 := f49.wr W57
    have f64 := f50.other W57 (Or.inl ne_ar_bn)
    have f65 := f51.other W57 (Or.inl ne_ar_bn)
    have f66 := f52.other W57 (Or.inl ne_ar_bn)
    have Z68 := Nat.le_trans Z54 (Keep.of_wr W57).1
    have N69 := Fr.snoc X57 N55 g_bn
    have K70 := K56.wr W57 (Or.inr sz_bn)
    rw [own_nc hp2] at V57
    have pre71 : ∀ t, Steps p.tables e below (T57.setTop (mkF m 94 #[.val (.ref a1), .val (.int p2), .val (.int p3)] [(.ref a1)])) t → Steps p.tables e below (s₁.setTop (entryFrame m #[(.ref a1), (.int p2), (.int p3)] 3)) t := by
      intro t kt
      refine pre39 _ ?_
      show Steps p.tables e below (T25.setTop (mkF m 63 #[.val (.ref a1), .val (.int p2), .val (.int p3)] [(.int (p3 + (1 : Int32))), (.int p2)])) _
      refine XS.icmpYes X25.here hx rfl (pc0 := 63) (pc' := 76) rfl (hb hby d10_63) rfl (XT.ii_eq_t hc63_40) (by decide) (by decide) ?_
      show Steps p.tables e below (T25.setTop (mkF m 76 #[.val (.ref a1), .val (.int p2), .val (.int p3)] [])) _
      refine XS.aloadN X25.here hx rfl (hb hby d10_76) rfl rfl ?_
      show Steps p.tables e below (T25.setTop (mkF m 77 #[.val (.ref a1), .val (.int p2), .val (.int p3)] [(.ref a1)])) _
      refine st41 _ ?_
      show Steps p.tables e below (T41.setTop (mkF m 80 #[.val (.ref a1), .val (.int p2), .val (.int p3)] [(.ref bn)])) _
      refine XS.aloadN X41.here hx rfl (hb hby d10_80) rfl rfl ?_
      show Steps p.tables e below (T41.setTop (mkF m 81 #[.val (.ref a1), .val (.int p2), .val (.int p3)] [(.ref a1), (.ref bn)])) _
      refine XS.dup X41.here hx rfl (hb hby d10_81) rfl rfl ?_
      show Steps p.tables e below (T41.setTop (mkF m 82 #[.val (.ref a1), .val (.int p2), .val (.int p3)] [(.ref a1), (.ref a1), (.ref bn)])) _
      refine st42 _ ?_
      show Steps p.tables e below (T42.setTop (mkF m 85 #[.val (.ref a1), .val (.int p2), .val (.int p3)] [(.int (0 : Int32)), (.ref a1), (.ref bn)])) _
      refine XS.dupX1 X42.here hx rfl (hb hby d10_85) rfl rfl rfl ?_
      show Steps p.tables e below (T42.setTop (mkF m 86 #[.val (.ref a1), .val (.int p2), .val (.int p3)] [(.int (0 : Int32)), (.ref a1), (.int (0 : Int32)), (.ref bn)])) _
      refine XS.iconst X42.here hx rfl (hb hby d10_86) ?_
      show Steps p.tables e below (T42.setTop (mkF m 87 #[.val (.ref a1), .val (.int p2), .val (.int p3)] [(.int (1 : Int32)), (.int (0 : Int32)), (.ref a1), (.int (0 : Int32)), (.ref bn)])) _
      refine XS.iadd X42.here hx rfl (hb hby d10_87) rfl ?_
      show Steps p.tables e below (T42.setTop (mkF m 88 #[.val (.ref a1), .val (.int p2), .val (.int p3)] [(.int ((0 : Int32) + (1 : Int32))), (.ref a1), (.int (0 : Int32)), (.ref bn)])) _
      refine st43 _ ?_
      show Steps p.tables e below (T43.setTop (mkF m 91 #[.val (.ref a1), .val (.int p2), .val (.int p3)] [(.int (0 : Int32)), (.ref bn)])) _
      refine XS.iloadN X43.here hx rfl (hb hby d10_91) rfl ?_
      show Steps p.tables e below (T43.setTop (mkF m 92 #[.val (.ref a1), .val (.int p2), .val (.int p3)] [(.int p2), (.int (0 : Int32)), (.ref bn)])) _
      refine st57 _ ?_
      show Steps p.tables e below (T57.setTop (mkF m 93 #[.val (.ref a1), .val (.int p2), .val (.int p3)] [])) _
      refine XS.aloadN X57.here hx rfl (hb hby d10_93) rfl rfl ?_
      exact kt
    obtain ⟨fs, hr, hrun, hended, hW, hsame⟩ := X57.leave (v := some (.ref a1)) (fun h => by rw [Bd.returns] at h; cases h)
    refine ⟨_, _, pre71 _ ?_, hrun, hended, _, _, rfl, ?_, ⟨_, rfl⟩, hW, hsame.mono (by decide) (by decide)⟩
    · show Steps p.tables e below (T57.setTop (mkF m 94 #[.val (.ref a1), .val (.int p2), .val (.int p3)] [(.ref a1)])) _
      exact X57.areturnOut hx rfl Bd.returns rfl (hb hby d10_94) hr
    · show Q10a Z a1 p2 p3 an ar ur h0 n0 _ T57.heap _
      rw [hE57]
      exact ⟨bn, _, rfl, N69, K70, sz_bn, f58, f59, f60, f61, V57⟩
  · skip
    obtain ⟨T72, X72, hE72, st72⟩ := getF X25 hx hZ hown (host := "") (Or.inl (hw _ (List.mem_of_getElem? (i := 25) rfl))) Via.refl hE25 f29 (g := (mkF m 68 #[.val (.ref a1), .val (.int p2), .val (.int p3)] [(.ref a1), (.ref a1)])) rfl rfl (hb hby d10_68)
    obtain ⟨T73, gh73, X73, hE73, W73, st73⟩ := putF X72 hx hZ hown (host := "") (Or.inl (hw _ (List.mem_of_getElem? (i := 25) rfl))) Via.refl hE72 f29 f26 (Or.inl (hw _ (List.mem_of_getElem? (i := 26) rfl))) (hw _ (List.mem_of_getElem? (i := 3) rfl)) (ty := .int) (by decide) rfl rfl (g := (mkF m 73 #[.val (.ref a1), .val (.int p2), .val (.int p3)] [(.int (ur + (1 : Int32))), (.ref a1)])) rfl rfl (hb hby d10_73)
    have Fw73 := f29.same W73
    have f74 := f26.wr W73
    have f75 := Fw25.other W73 (Or.inr (slot_ne (Or.inl (hw _ (List.mem_of_getElem? (i := 22) rfl))) (Or.inl (hw _ (List.mem_of_getElem? (i := 26) rfl))) (by decide) (t := (.array .char)) (t' := .int) (by decide) (by decide)))
    have f76 := f28.other W73 (Or.inr (slot_ne (Or.inl (hw _ (List.mem_of_getElem? (i := 24) rfl))) (Or.inl (hw _ (List.mem_of_getElem? (i := 26) rfl))) (by decide) (t := .int) (t' := .int) (by decide) (by decide)))
    have f78 := f30.other W73 (Ne.symm n1n)
    have f79 := f31.wr W73
    have f80 := f32.other W73 (Or.inl (Ne.symm n1r))
    have f81 := f33.other W73 (Or.inl (Ne.symm n1r))
    have f82 := f34.other W73 (Or.inl (Ne.symm n1r))
    have f83 := f35.other W73 (Ne.symm ne_a1_bn)
    have Z84 := Nat.le_trans Z36 (Keep.of_wr W73).1
    have N85 := Fr.snoc X73 N37 g_a1
    have K86 := K38.wr W73 (Or.inl (List.mem_of_getElem? (i := 0) rfl))
    obtain ⟨T87, X87, hE87, st87⟩ := getF X73 hx hZ hown (host := "") (Or.inl (hw _ (List.mem_of_getElem? (i := 21) rfl))) Via.refl hE73 f75 (g := (mkF m 77 #[.val (.ref a1), .val (.int p2), .val (.int p3)] [(.ref a1)])) rfl rfl (hb hby d10_77)
    obtain ⟨T88, X88, hE88, st88⟩ := getF X87 hx hZ hown (host := "") (Or.inl (hw _ (List.mem_of_getElem? (i := 23) rfl))) Via.refl hE87 f76 (g := (mkF m 82 #[.val (.ref a1), .val (.int p2), .val (.int p3)] [(.ref a1), (.ref a1), (.ref bn)])) rfl rfl (hb hby d10_82)
    obtain ⟨T89, gh89, X89, hE89, W89, st89⟩ := putF X88 hx hZ hown (host := "") (Or.inl (hw _ (List.mem_of_getElem? (i := 23) rfl))) Via.refl hE88 f76 f74 (Or.inl (hw _ (List.mem_of_getElem? (i := 24) rfl))) (hw _ (List.mem_of_getElem? (i := 3) rfl)) (ty := .int) (by decide) rfl rfl (g := (mkF m 88 #[.val (.ref a1), .val (.int p2), .val (.int p3)] [(.int ((0 : Int32) + (1 : Int32))), (.ref a1), (.int (0 : Int32)), (.ref bn)])) rfl rfl (hb hby d10_88)
    have Fw89 := f76.same W89
    have f90 := f74.wr W89
    have f91 := f75.other W89 (Or.inr (slot_ne (Or.inl (hw _ (List.mem_of_getElem? (i := 22) rfl))) (Or.inl (hw _ (List.mem_of_getElem? (i := 24) rfl))) (by decide) (t := (.array .char)) (t' := .int) (by decide) (by decide)))
    have f93 := Fw73.other W89 (Or.inr (slot_ne (Or.inl (hw _ (List.mem_of_getElem? (i := 26) rfl))) (Or.inl (hw _ (List.mem_of_getElem? (i := 24) rfl))) (by decide) (t := .int) (t' := .int) (by decide) (by decide)))
    have f94 := f78.other W89 (Ne.symm n1n)
    have f95 := f79.wr W89
    have f96 := f80.other W89 (Or.inl (Ne.symm n1r))
    have f97 := f81.other W89 (Or.inl (Ne.symm n1r))
    have f98 := f82.other W89 (Or.inl (Ne.symm n1r))
    have f99 := f83.other W89 (Ne.symm ne_a1_bn)
    have Z100 := Nat.le_trans Z84 (Keep.of_wr W89).1
    have N101 := Fr.snoc X89 N85 g_a1
    have K102 := K86.wr W89 (Or.inl (List.mem_of_getElem? (i := 0) rfl))
    obtain ⟨T103, gh103, X103, hE103, W103, V103, st103⟩ := owStC X89 hx hZ hE89 f99 (k := 0) (j := (0 : Int32)) rfl (by decide) (g := (mkF m 92 #[.val (.ref a1), .val (.int p2), .val (.int p3)] [(.int p2), (.int (0 : Int32)), (.ref bn)])) rfl rfl (hb hby d10_92)
    have f104 := f90.wr W103
    have f105 := f91.other W103 (Or.inl ne_a1_bn)
    have f106 := Fw89.other W103 (Or.inl ne_a1_bn)
    have f107 := f93.other W103 (Or.inl ne_a1_bn)
    have f108 := f94.other W103 ne_an_bn
    have f109 := f95.wr W103
    have f110 := f96.other W103 (Or.inl ne_ar_bn)
    have f111 := f97.other W103 (Or.inl ne_ar_bn)
    have f112 := f98.other W103 (Or.inl ne_ar_bn)
    have Z114 := Nat.le_trans Z100 (Keep.of_wr W103).1
    have N115 := Fr.snoc X103 N101 g_bn
    have K116 := K102.wr W103 (Or.inr sz_bn)
    rw [own_nc hp2] at V103
    have pre117 : ∀ t, Steps p.tables e below (T103.setTop (mkF m 94 #[.val (.ref a1), .val (.int p2), .val (.int p3)] [(.ref a1)])) t → Steps p.tables e below (s₁.setTop (entryFrame m #[(.ref a1), (.int p2), (.int p3)] 3)) t := by
      intro t kt
      refine pre39 _ ?_
      show Steps p.tables e below (T25.setTop (mkF m 63 #[.val (.ref a1), .val (.int p2), .val (.int p3)] [(.int (p3 + (1 : Int32))), (.int p2)])) _
      refine XS.icmpNo X25.here hx rfl (hb hby d10_63) rfl (XT.ii_eq_f hc63_40) ?_
      show Steps p.tables e below (T25.setTop (mkF m 66 #[.val (.ref a1), .val (.int p2), .val (.int p3)] [])) _
      refine XS.aloadN X25.here hx rfl (hb hby d10_66) rfl rfl ?_
      show Steps p.tables e below (T25.setTop (mkF m 67 #[.val (.ref a1), .val (.int p2), .val (.int p3)] [(.ref a1)])) _
      refine XS.dup X25.here hx rfl (hb hby d10_67) rfl rfl ?_
      show Steps p.tables e below (T25.setTop (mkF m 68 #[.val (.ref a1), .val (.int p2), .val (.int p3)] [(.ref a1), (.ref a1)])) _
      refine st72 _ ?_
      show Steps p.tables e below (T72.setTop (mkF m 71 #[.val (.ref a1), .val (.int p2), .val (.int p3)] [(.int ur), (.ref a1)])) _
      refine XS.iconst X72.here hx rfl (hb hby d10_71) ?_
      show Steps p.tables e below (T72.setTop (mkF m 72 #[.val (.ref a1), .val (.int p2), .val (.int p3)] [(.int (1 : Int32)), (.int ur), (.ref a1)])) _
      refine XS.iadd X72.here hx rfl (hb hby d10_72) rfl ?_
      show Steps p.tables e below (T72.setTop (mkF m 73 #[.val (.ref a1), .val (.int p2), .val (.int p3)] [(.int (ur + (1 : Int32))), (.ref a1)])) _
      refine st73 _ ?_
      show Steps p.tables e below (T73.setTop (mkF m 76 #[.val (.ref a1), .val (.int p2), .val (.int p3)] [])) _
      refine XS.aloadN X73.here hx rfl (hb hby d10_76) rfl rfl ?_
      show Steps p.tables e below (T73.setTop (mkF m 77 #[.val (.ref a1), .val (.int p2), .val (.int p3)] [(.ref a1)])) _
      refine st87 _ ?_
      show Steps p.tables e below (T87.setTop (mkF m 80 #[.val (.ref a1), .val (.int p2), .val (.int p3)] [(.ref bn)])) _
      refine XS.aloadN X87.here hx rfl (hb hby d10_80) rfl rfl ?_
      show Steps p.tables e below (T87.setTop (mkF m 81 #[.val (.ref a1), .val (.int p2), .val (.int p3)] [(.ref a1), (.ref bn)])) _
      refine XS.dup X87.here hx rfl (hb hby d10_81) rfl rfl ?_
      show Steps p.tables e below (T87.setTop (mkF m 82 #[.val (.ref a1), .val (.int p2), .val (.int p3)] [(.ref a1), (.ref a1), (.ref bn)])) _
      refine st88 _ ?_
      show Steps p.tables e below (T88.setTop (mkF m 85 #[.val (.ref a1), .val (.int p2), .val (.int p3)] [(.int (0 : Int32)), (.ref a1), (.ref bn)])) _
      refine XS.dupX1 X88.here hx rfl (hb hby d10_85) rfl rfl rfl ?_
      show Steps p.tables e below (T88.setTop (mkF m 86 #[.val (.ref a1), .val (.int p2), .val (.int p3)] [(.int (0 : Int32)), (.ref a1), (.int (0 : Int32)), (.ref bn)])) _
      refine XS.iconst X88.here hx rfl (hb hby d10_86) ?_
      show Steps p.tables e below (T88.setTop (mkF m 87 #[.val (.ref a1), .val (.int p2), .val (.int p3)] [(.int (1 : Int32)), (.int (0 : Int32)), (.ref a1), (.int (0 : Int32)), (.ref bn)])) _
      refine XS.iadd X88.here hx rfl (hb hby d10_87) rfl ?_
      show Steps p.tables e below (T88.setTop (mkF m 88 #[.val (.ref a1), .val (.int p2), .val (.int p3)] [(.int ((0 : Int32) + (1 : Int32))), (.ref a1), (.int (0 : Int32)), (.ref bn)])) _
      refine st89 _ ?_
      show Steps p.tables e below (T89.setTop (mkF m 91 #[.val (.ref a1), .val (.int p2), .val (.int p3)] [(.int (0 : Int32)), (.ref bn)])) _
      refine XS.iloadN X89.here hx rfl (hb hby d10_91) rfl ?_
      show Steps p.tables e below (T89.setTop (mkF m 92 #[.val (.ref a1), .val (.int p2), .val (.int p3)] [(.int p2), (.int (0 : Int32)), (.ref bn)])) _
      refine st103 _ ?_
      show Steps p.tables e below (T103.setTop (mkF m 93 #[.val (.ref a1), .val (.int p2), .val (.int p3)] [])) _
      refine XS.aloadN X103.here hx rfl (hb hby d10_93) rfl rfl ?_
      exact kt
    obtain ⟨fs, hr, hrun, hended, hW, hsame⟩ := X103.leave (v := some (.ref a1)) (fun h => by rw [Bd.returns] at h; cases h)
    refine ⟨_, _, pre117 _ ?_, hrun, hended, _, _, rfl, ?_, ⟨_, rfl⟩, hW, hsame.mono (by decide) (by decide)⟩
    · show Steps p.tables e below (T103.setTop (mkF m 94 #[.val (.ref a1), .val (.int p2), .val (.int p3)] [(.ref a1)])) _
      exact X103.areturnOut hx rfl Bd.returns rfl (hb hby d10_94) hr
    · show Q10a Z a1 p2 p3 an ar ur h0 n0 _ T103.heap _
      rw [hE103]
      exact ⟨bn, _, rfl, N115, K116, sz_bn, f104, f105, f106, f107, V103⟩
theorem pn_10b : plainName "com/example/bitweight/bitweight/chunk/ArrayChunk" = true := by first | (simp [plainName, overriddenIn]; done) | decide +kernel
theorem ef_10b (m : MethodId) (x0 : Addr) (x1 : Int32) (x2 : Int32) : entryFrame m #[(.ref x0), (.int x1), (.int x2)] 3 = mkF m 0 #[.val (.ref x0), .val (.int x1), .val (.int x2)] [] := by first | (simp [entryFrame, mkF, argsToLocals, Value.category]; done) | rfl
def Q10b (Z : State) (a1 : Addr) (p2 : Int32) (p3 : Int32) (av : Addr) (pn ur : Int32) (fv : Nat → Int32) (cn : Nat) (h0 : Heap) (n0 : Nat) (v : Option Value) (h : Heap) (L : List Loc) : Prop := ∃ r : Int32, v = some (.ref a1) ∧ Fr n0 L ∧ Keep h0 h [a1, av] ∧ Exa Z h a1 "com/example/bitweight/bitweight/chunk/ArrayChunk" ∧ Fld Z h a1 "com/example/bitweight/bitweight/chunk/ArrayChunk" "values" "[C" (.ref av) ∧ Fld Z h a1 "com/example/bitweight/bitweight/chunk/ArrayChunk" "cardinality" "I" (.int (pn + (1 : Int32))) ∧ Fld Z h a1 "com/example/bitweight/bitweight/chunk/ArrayChunk" "runs" "I" (.int r) ∧ owAI Z h av .char 4 (owUp fv cn p2)
set_option maxRecDepth 65536 in
set_option maxHeartbeats 40000000 in
theorem rm10b (l : Launch) (Z : State) (a0 : Array Value) (hw : ∀ d ∈ tables_1, d.before a0 Z = true) (ws : List Jvm.Cond) (a1 : Addr) (p2 : Int32) (p3 : Int32) (av : Addr) (pn ur : Int32) (fv : Nat → Int32) (cn : Nat) (h0 : Heap) (n0 : Nat) (Z0 : n0 ≤ h0.size) (E_a1 : Exa Z h0 a1 "com/example/bitweight/bitweight/chunk/ArrayChunk") (F_values : Fld Z h0 a1 "com/example/bitweight/bitweight/chunk/ArrayChunk" "values" "[C" (.ref av)) (F_cardinality : Fld Z h0 a1 "com/example/bitweight/bitweight/chunk/ArrayChunk" "cardinality" "I" (.int pn)) (F_runs : Fld Z h0 a1 "com/example/bitweight/bitweight/chunk/ArrayChunk" "runs" "I" (.int ur)) (A_av : owAI Z h0 av .char 4 fv) (g_a1 : n0 ≤ a1) (g_av : n0 ≤ av) (n1v : a1 ≠ av) (hp2 : 0 ≤ p2.toInt ∧ p2.toInt < 65536) (hcn : pn.toInt = (cn : Int)) (hc3 : cn ≤ 3) :
    MetFree l (⟨"com/example/bitweight/bitweight/chunk/ArrayChunk", "addLast", "(CI)Lcom/example/bitweight/bitweight/chunk/Chunk;"⟩ : MethodName) (head1 (Jvm.Cond.code (⟨"com/example/bitweight/bitweight/chunk/ArrayChunk", "addLast", "(CI)Lcom/example/bitweight/bitweight/chunk/Chunk;"⟩ : MethodName) prog_22_method_12_code 3 (some (.object "com/example/bitweight/bitweight/chunk/Chunk")) :: ws) ({ frames := 0, cells := 0, slots := 0, locals := 0 } : Room)) (fun a U => a = #[(.ref a1), (.int p2), (.int p3)] ∧ Z.Warmed39 U.vm ∧ U.heap = h0) (fun _ _ _ _ _ => True) (fun _ U o U' => ∃ v L, o = .returned v ∧ Q10b Z a1 p2 p3 av pn ur fv cn h0 n0 v U'.heap L ∧ FrameEnd U o U' L ({ frames := 0, cells := 0, slots := 0, locals := 0 } : Room).cells ({ frames := 0, cells := 0, slots := 0, locals := 0 } : Room).slots) := by
  refine MetFree.of_bodySF (plainFor_of_name pn_10b) hisR ?_
  intro p e s m args below meth c s₁ Bd hml0 hP hK
  obtain ⟨rfl, hZ, hh⟩ := hP
  have hx := Bd.exec
  have hby := Bd.bytes
  have hml : c.maxLocals = 3 := hml0
  have hown : s.vm.findClass "com/example/bitweight/bitweight/chunk/ArrayChunk" = some m.cls := findClass_of_methodNamed Bd.named
  have hnm := (name_of_methodNamed Bd.named Bd.method).1
  have X0 : Stand p l e ({ frames := 0, cells := 0, slots := 0, locals := 0 } : Room) s m #[(.ref a1), (.int p2), (.int p3)] below meth c s₁ [] 0 0 := Stand.of_body Bd
  have e0 : s₁.heap = h0 := by rw [← hh, Bd.state]; rfl
  have N0 := Fr.nil n0
  have pre0 : ∀ t, Steps p.tables e below (s₁.setTop (mkF m 0 #[.val (.ref a1), .val (.int p2), .val (.int p3)] [])) t → Steps p.tables e below (s₁.setTop (entryFrame m #[(.ref a1), (.int p2), (.int p3)] 3)) t := fun t k => castTop (ef_10b m a1 p2 p3) k
  obtain ⟨T1, X1, hE1, st1⟩ := getF X0 hx hZ hown (host := "") (Or.inl (hw _ (List.mem_of_getElem? (i := 23) rfl))) Via.refl e0 F_cardinality (g := (mkF m 1 #[.val (.ref a1), .val (.int p2), .val (.int p3)] [(.ref a1)])) rfl rfl (hb hby d10_1)
  obtain ⟨T2, X2, hE2, st2⟩ := getF X1 hx hZ hown (host := "") (Or.inl (hw _ (List.mem_of_getElem? (i := 21) rfl))) Via.refl hE1 F_values (g := (mkF m 5 #[.val (.ref a1), .val (.int p2), .val (.int p3)] [(.ref a1), (.int pn)])) rfl rfl (hb hby d10_5)
  have pre3 : ∀ t, Steps p.tables e below (T2.setTop (mkF m 63 #[.val (.ref a1), .val (.int p2), .val (.int p3)] [(.int (p3 + (1 : Int32))), (.int p2)])) t → Steps p.tables e below (s₁.setTop (entryFrame m #[(.ref a1), (.int p2), (.int p3)] 3)) t := by
    intro t kt
    refine pre0 _ ?_
    show Steps p.tables e below (s₁.setTop (mkF m 0 #[.val (.ref a1), .val (.int p2), .val (.int p3)] [])) _
    refine XS.aloadN X0.here hx rfl (hb hby d10_0) rfl rfl ?_
    show Steps p.tables e below (s₁.setTop (mkF m 1 #[.val (.ref a1), .val (.int p2), .val (.int p3)] [(.ref a1)])) _
    refine st1 _ ?_
    show Steps p.tables e below (T1.setTop (mkF m 4 #[.val (.ref a1), .val (.int p2), .val (.int p3)] [(.int pn)])) _
    refine XS.aloadN X1.here hx rfl (hb hby d10_4) rfl rfl ?_
    show Steps p.tables e below (T1.setTop (mkF m 5 #[.val (.ref a1), .val (.int p2), .val (.int p3)] [(.ref a1), (.int pn)])) _
    refine st2 _ ?_
    show Steps p.tables e below (T2.setTop (mkF m 8 #[.val (.ref a1), .val (.int p2), .val (.int p3)] [(.ref av), (.int pn)])) _
    refine owLenI X2 hx hZ hE2 A_av (z := (4 : Int32)) rfl (g := (mkF m 8 #[.val (.ref a1), .val (.int p2), .val (.int p3)] [(.ref av), (.int pn)])) rfl rfl (hb hby d10_8) _ ?_
    show Steps p.tables e below (T2.setTop (mkF m 9 #[.val (.ref a1), .val (.int p2), .val (.int p3)] [(.int (4 : Int32)), (.int pn)])) _
    refine XS.icmpYes X2.here hx rfl (pc0 := 9) (pc' := 59) rfl (hb hby d10_9) rfl (XT.ii_ne_t (own_nk _ hcn (k := 4) rfl (by omega))) (by decide) (by decide) ?_
    show Steps p.tables e below (T2.setTop (mkF m 59 #[.val (.ref a1), .val (.int p2), .val (.int p3)] [])) _
    refine XS.iloadN X2.here hx rfl (hb hby d10_59) rfl ?_
    show Steps p.tables e below (T2.setTop (mkF m 60 #[.val (.ref a1), .val (.int p2), .val (.int p3)] [(.int p2)])) _
    refine XS.iloadN X2.here hx rfl (hb hby d10_60) rfl ?_
    show Steps p.tables e below (T2.setTop (mkF m 61 #[.val (.ref a1), .val (.int p2), .val (.int p3)] [(.int p3), (.int p2)])) _
    refine XS.iconst X2.here hx rfl (hb hby d10_61) ?_
    show Steps p.tables e below (T2.setTop (mkF m 62 #[.val (.ref a1), .val (.int p2), .val (.int p3)] [(.int (1 : Int32)), (.int p3), (.int p2)])) _
    refine XS.iadd X2.here hx rfl (hb hby d10_62) rfl ?_
    exact kt
  by_cases hc63_4 : p2 = (p3 + (1 : Int32))
  · skip
    obtain ⟨T5, X5, hE5, st5⟩ := getF X2 hx hZ hown (host := "") (Or.inl (hw _ (List.mem_of_getElem? (i := 21) rfl))) Via.refl hE2 F_values (g := (mkF m 77 #[.val (.ref a1), .val (.int p2), .val (.int p3)] [(.ref a1)])) rfl rfl (hb hby d10_77)
    obtain ⟨T6, X6, hE6, st6⟩ := getF X5 hx hZ hown (host := "") (Or.inl (hw _ (List.mem_of_getElem? (i := 23) rfl))) Via.refl hE5 F_cardinality (g := (mkF m 82 #[.val (.ref a1), .val (.int p2), .val (.int p3)] [(.ref a1), (.ref a1), (.ref av)])) rfl rfl (hb hby d10_82)
    obtain ⟨T7, gh7, X7, hE7, W7, st7⟩ := putF X6 hx hZ hown (host := "") (Or.inl (hw _ (List.mem_of_getElem? (i := 23) rfl))) Via.refl hE6 F_cardinality E_a1 (Or.inl (hw _ (List.mem_of_getElem? (i := 24) rfl))) (hw _ (List.mem_of_getElem? (i := 3) rfl)) (ty := .int) (by decide) rfl rfl (g := (mkF m 88 #[.val (.ref a1), .val (.int p2), .val (.int p3)] [(.int (pn + (1 : Int32))), (.ref a1), (.int pn), (.ref av)])) rfl rfl (hb hby d10_88)
    have Fw7 := F_cardinality.same W7
    have f8 := E_a1.wr W7
    have f9 := F_values.other W7 (Or.inr (slot_ne (Or.inl (hw _ (List.mem_of_getElem? (i := 22) rfl))) (Or.inl (hw _ (List.mem_of_getElem? (i := 24) rfl))) (by decide) (t := (.array .char)) (t' := .int) (by decide) (by decide)))
    have f11 := F_runs.other W7 (Or.inr (slot_ne (Or.inl (hw _ (List.mem_of_getElem? (i := 26) rfl))) (Or.inl (hw _ (List.mem_of_getElem? (i := 24) rfl))) (by decide) (t := .int) (t' := .int) (by decide) (by decide)))
    have f12 := A_av.other W7 (Ne.symm n1v)
    have Z13 := Nat.le_trans Z0 (Keep.of_wr W7).1
    have N14 := Fr.snoc X7 N0 g_a1
    have K15 := (Keep.refl h0 [a1, av]).wr W7 (Or.inl (List.mem_of_getElem? (i := 0) rfl))
    obtain ⟨T16, gh16, X16, hE16, W16, V16, st16⟩ := owStC X7 hx hZ hE7 f12 (k := cn) (j := pn) hcn (by omega) (g := (mkF m 92 #[.val (.ref a1), .val (.int p2), .val (.int p3)] [(.int p2), (.int pn), (.ref av)])) rfl rfl (hb hby d10_92)
    have f17 := f8.wr W16
    have f18 := f9.other W16 (Or.inl n1v)
    have f19 := Fw7.other W16 (Or.inl n1v)
    have f20 := f11.other W16 (Or.inl n1v)
    have Z22 := Nat.le_trans Z13 (Keep.of_wr W16).1
    have N23 := Fr.snoc X16 N14 g_av
    have K24 := K15.wr W16 (Or.inl (List.mem_of_getElem? (i := 1) rfl))
    rw [own_nc hp2] at V16
    have pre25 : ∀ t, Steps p.tables e below (T16.setTop (mkF m 94 #[.val (.ref a1), .val (.int p2), .val (.int p3)] [(.ref a1)])) t → Steps p.tables e below (s₁.setTop (entryFrame m #[(.ref a1), (.int p2), (.int p3)] 3)) t := by
      intro t kt
      refine pre3 _ ?_
      show Steps p.tables e below (T2.setTop (mkF m 63 #[.val (.ref a1), .val (.int p2), .val (.int p3)] [(.int (p3 + (1 : Int32))), (.int p2)])) _
      refine XS.icmpYes X2.here hx rfl (pc0 := 63) (pc' := 76) rfl (hb hby d10_63) rfl (XT.ii_eq_t hc63_4) (by decide) (by decide) ?_
      show Steps p.tables e below (T2.setTop (mkF m 76 #[.val (.ref a1), .val (.int p2), .val (.int p3)] [])) _
      refine XS.aloadN X2.here hx rfl (hb hby d10_76) rfl rfl ?_
      show Steps p.tables e below (T2.setTop (mkF m 77 #[.val (.ref a1), .val (.int p2), .val (.int p3)] [(.ref a1)])) _
      refine st5 _ ?_
      show Steps p.tables e below (T5.setTop (mkF m 80 #[.val (.ref a1), .val (.int p2), .val (.int p3)] [(.ref av)])) _
      refine XS.aloadN X5.here hx rfl (hb hby d10_80) rfl rfl ?_
      show Steps p.tables e below (T5.setTop (mkF m 81 #[.val (.ref a1), .val (.int p2), .val (.int p3)] [(.ref a1), (.ref av)])) _
      refine XS.dup X5.here hx rfl (hb hby d10_81) rfl rfl ?_
      show Steps p.tables e below (T5.setTop (mkF m 82 #[.val (.ref a1), .val (.int p2), .val (.int p3)] [(.ref a1), (.ref a1), (.ref av)])) _
      refine st6 _ ?_
      show Steps p.tables e below (T6.setTop (mkF m 85 #[.val (.ref a1), .val (.int p2), .val (.int p3)] [(.int pn), (.ref a1), (.ref av)])) _
      refine XS.dupX1 X6.here hx rfl (hb hby d10_85) rfl rfl rfl ?_
      show Steps p.tables e below (T6.setTop (mkF m 86 #[.val (.ref a1), .val (.int p2), .val (.int p3)] [(.int pn), (.ref a1), (.int pn), (.ref av)])) _
      refine XS.iconst X6.here hx rfl (hb hby d10_86) ?_
      show Steps p.tables e below (T6.setTop (mkF m 87 #[.val (.ref a1), .val (.int p2), .val (.int p3)] [(.int (1 : Int32)), (.int pn), (.ref a1), (.int pn), (.ref av)])) _
      refine XS.iadd X6.here hx rfl (hb hby d10_87) rfl ?_
      show Steps p.tables e below (T6.setTop (mkF m 88 #[.val (.ref a1), .val (.int p2), .val (.int p3)] [(.int (pn + (1 : Int32))), (.ref a1), (.int pn), (.ref av)])) _
      refine st7 _ ?_
      show Steps p.tables e below (T7.setTop (mkF m 91 #[.val (.ref a1), .val (.int p2), .val (.int p3)] [(.int pn), (.ref av)])) _
      refine XS.iloadN X7.here hx rfl (hb hby d10_91) rfl ?_
      show Steps p.tables e below (T7.setTop (mkF m 92 #[.val (.ref a1), .val (.int p2), .val (.int p3)] [(.int p2), (.int pn), (.ref av)])) _
      refine st16 _ ?_
      show Steps p.tables e below (T16.setTop (mkF m 93 #[.val (.ref a1), .val (.int p2), .val (.int p3)] [])) _
      refine XS.aloadN X16.here hx rfl (hb hby d10_93) rfl rfl ?_
      exact kt
    obtain ⟨fs, hr, hrun, hended, hW, hsame⟩ := X16.leave (v := some (.ref a1)) (fun h => by rw [Bd.returns] at h; cases h)
    refine ⟨_, _, pre25 _ ?_, hrun, hended, _, _, rfl, ?_, ⟨_, rfl⟩, hW, hsame.mono (by decide) (by decide)⟩
    · show Steps p.tables e below (T16.setTop (mkF m 94 #[.val (.ref a1), .val (.int p2), .val (.int p3)] [(.ref a1)])) _
      exact X16.areturnOut hx rfl Bd.returns rfl (hb hby d10_94) hr
    · show Q10b Z a1 p2 p3 av pn ur fv cn h0 n0 _ T16.heap _
      rw [hE16]
      exact ⟨_, rfl, N23, K24, f17, f18, f19, f20, V16⟩
  · skip
    obtain ⟨T26, X26, hE26, st26⟩ := getF X2 hx hZ hown (host := "") (Or.inl (hw _ (List.mem_of_getElem? (i := 25) rfl))) Via.refl hE2 F_runs (g := (mkF m 68 #[.val (.ref a1), .val (.int p2), .val (.int p3)] [(.ref a1), (.ref a1)])) rfl rfl (hb hby d10_68)
    obtain ⟨T27, gh27, X27, hE27, W27, st27⟩ := putF X26 hx hZ hown (host := "") (Or.inl (hw _ (List.mem_of_getElem? (i := 25) rfl))) Via.refl hE26 F_runs E_a1 (Or.inl (hw _ (List.mem_of_getElem? (i := 26) rfl))) (hw _ (List.mem_of_getElem? (i := 3) rfl)) (ty := .int) (by decide) rfl rfl (g := (mkF m 73 #[.val (.ref a1), .val (.int p2), .val (.int p3)] [(.int (ur + (1 : Int32))), (.ref a1)])) rfl rfl (hb hby d10_73)
    have Fw27 := F_runs.same W27
    have f28 := E_a1.wr W27
    have f29 := F_values.other W27 (Or.inr (slot_ne (Or.inl (hw _ (List.mem_of_getElem? (i := 22) rfl))) (Or.inl (hw _ (List.mem_of_getElem? (i := 26) rfl))) (by decide) (t := (.array .char)) (t' := .int) (by decide) (by decide)))
    have f30 := F_cardinality.other W27 (Or.inr (slot_ne (Or.inl (hw _ (List.mem_of_getElem? (i := 24) rfl))) (Or.inl (hw _ (List.mem_of_getElem? (i := 26) rfl))) (by decide) (t := .int) (t' := .int) (by decide) (by decide)))
    have f32 := A_av.other W27 (Ne.symm n1v)
    have Z33 := Nat.le_trans Z0 (Keep.of_wr W27).1
    have N34 := Fr.snoc X27 N0 g_a1
    have K35 := (Keep.refl h0 [a1, av]).wr W27 (Or.inl (List.mem_of_getElem? (i := 0) rfl))
    obtain ⟨T36, X36, hE36, st36⟩ := getF X27 hx hZ hown (host := "") (Or.inl (hw _ (List.mem_of_getElem? (i := 21) rfl))) Via.refl hE27 f29 (g := (mkF m 77 #[.val (.ref a1), .val (.int p2), .val (.int p3)] [(.ref a1)])) rfl rfl (hb hby d10_77)
    obtain ⟨T37, X37, hE37, st37⟩ := getF X36 hx hZ hown (host := "") (Or.inl (hw _ (List.mem_of_getElem? (i := 23) rfl))) Via.refl hE36 f30 (g := (mkF m 82 #[.val (.ref a1), .val (.int p2), .val (.int p3)] [(.ref a1), (.ref a1), (.ref av)])) rfl rfl (hb hby d10_82)
    obtain ⟨T38, gh38, X38, hE38, W38, st38⟩ := putF X37 hx hZ hown (host := "") (Or.inl (hw _ (List.mem_of_getElem? (i := 23) rfl))) Via.refl hE37 f30 f28 (Or.inl (hw _ (List.mem_of_getElem? (i := 24) rfl))) (hw _ (List.mem_of_getElem? (i := 3) rfl)) (ty := .int) (by decide) rfl rfl (g := (mkF m 88 #[.val (.ref a1), .val (.int p2), .val (.int p3)] [(.int (pn + (1 : Int32))), (.ref a1), (.int pn), (.ref av)])) rfl rfl (hb hby d10_88)
    have Fw38 := f30.same W38
    have f39 := f28.wr W38
    have f40 := f29.other W38 (Or.inr (slot_ne (Or.inl (hw _ (List.mem_of_getElem? (i := 22) rfl))) (Or.inl (hw _ (List.mem_of_getElem? (i := 24) rfl))) (by decide) (t := (.array .char)) (t' := .int) (by decide) (by decide)))
    have f42 := Fw27.other W38 (Or.inr (slot_ne (Or.inl (hw _ (List.mem_of_getElem? (i := 26) rfl))) (Or.inl (hw _ (List.mem_of_getElem? (i := 24) rfl))) (by decide) (t := .int) (t' := .int) (by decide) (by decide)))
    have f43 := f32.other W38 (Ne.symm n1v)
    have Z44 := Nat.le_trans Z33 (Keep.of_wr W38).1
    have N45 := Fr.snoc X38 N34 g_a1
    have K46 := K35.wr W38 (Or.inl (List.mem_of_getElem? (i := 0) rfl))
    obtain ⟨T47, gh47, X47, hE47, W47, V47, st47⟩ := owStC X38 hx hZ hE38 f43 (k := cn) (j := pn) hcn (by omega) (g := (mkF m 92 #[.val (.ref a1), .val (.int p2), .val (.int p3)] [(.int p2), (.int pn), (.ref av)])) rfl rfl (hb hby d10_92)
    have f48 := f39.wr W47
    have f49 := f40.other W47 (Or.inl n1v)
    have f50 := Fw38.other W47 (Or.inl n1v)
    have f51 := f42.other W47 (Or.inl n1v)
    have Z53 := Nat.le_trans Z44 (Keep.of_wr W47).1
    have N54 := Fr.snoc X47 N45 g_av
    have K55 := K46.wr W47 (Or.inl (List.mem_of_getElem? (i := 1) rfl))
    rw [own_nc hp2] at V47
    have pre56 : ∀ t, Steps p.tables e below (T47.setTop (mkF m 94 #[.val (.ref a1), .val (.int p2), .val (.int p3)] [(.ref a1)])) t → Steps p.tables e below (s₁.setTop (entryFrame m #[(.ref a1), (.int p2), (.int p3)] 3)) t := by
      intro t kt
      refine pre3 _ ?_
      show Steps p.tables e below (T2.setTop (mkF m 63 #[.val (.ref a1), .val (.int p2), .val (.int p3)] [(.int (p3 + (1 : Int32))), (.int p2)])) _
      refine XS.icmpNo X2.here hx rfl (hb hby d10_63) rfl (XT.ii_eq_f hc63_4) ?_
      show Steps p.tables e below (T2.setTop (mkF m 66 #[.val (.ref a1), .val (.int p2), .val (.int p3)] [])) _
      refine XS.aloadN X2.here hx rfl (hb hby d10_66) rfl rfl ?_
      show Steps p.tables e below (T2.setTop (mkF m 67 #[.val (.ref a1), .val (.int p2), .val (.int p3)] [(.ref a1)])) _
      refine XS.dup X2.here hx rfl (hb hby d10_67) rfl rfl ?_
      show Steps p.tables e below (T2.setTop (mkF m 68 #[.val (.ref a1), .val (.int p2), .val (.int p3)] [(.ref a1), (.ref a1)])) _
      refine st26 _ ?_
      show Steps p.tables e below (T26.setTop (mkF m 71 #[.val (.ref a1), .val (.int p2), .val (.int p3)] [(.int ur), (.ref a1)])) _
      refine XS.iconst X26.here hx rfl (hb hby d10_71) ?_
      show Steps p.tables e below (T26.setTop (mkF m 72 #[.val (.ref a1), .val (.int p2), .val (.int p3)] [(.int (1 : Int32)), (.int ur), (.ref a1)])) _
      refine XS.iadd X26.here hx rfl (hb hby d10_72) rfl ?_
      show Steps p.tables e below (T26.setTop (mkF m 73 #[.val (.ref a1), .val (.int p2), .val (.int p3)] [(.int (ur + (1 : Int32))), (.ref a1)])) _
      refine st27 _ ?_
      show Steps p.tables e below (T27.setTop (mkF m 76 #[.val (.ref a1), .val (.int p2), .val (.int p3)] [])) _
      refine XS.aloadN X27.here hx rfl (hb hby d10_76) rfl rfl ?_
      show Steps p.tables e below (T27.setTop (mkF m 77 #[.val (.ref a1), .val (.int p2), .val (.int p3)] [(.ref a1)])) _
      refine st36 _ ?_
      show Steps p.tables e below (T36.setTop (mkF m 80 #[.val (.ref a1), .val (.int p2), .val (.int p3)] [(.ref av)])) _
      refine XS.aloadN X36.here hx rfl (hb hby d10_80) rfl rfl ?_
      show Steps p.tables e below (T36.setTop (mkF m 81 #[.val (.ref a1), .val (.int p2), .val (.int p3)] [(.ref a1), (.ref av)])) _
      refine XS.dup X36.here hx rfl (hb hby d10_81) rfl rfl ?_
      show Steps p.tables e below (T36.setTop (mkF m 82 #[.val (.ref a1), .val (.int p2), .val (.int p3)] [(.ref a1), (.ref a1), (.ref av)])) _
      refine st37 _ ?_
      show Steps p.tables e below (T37.setTop (mkF m 85 #[.val (.ref a1), .val (.int p2), .val (.int p3)] [(.int pn), (.ref a1), (.ref av)])) _
      refine XS.dupX1 X37.here hx rfl (hb hby d10_85) rfl rfl rfl ?_
      show Steps p.tables e below (T37.setTop (mkF m 86 #[.val (.ref a1), .val (.int p2), .val (.int p3)] [(.int pn), (.ref a1), (.int pn), (.ref av)])) _
      refine XS.iconst X37.here hx rfl (hb hby d10_86) ?_
      show Steps p.tables e below (T37.setTop (mkF m 87 #[.val (.ref a1), .val (.int p2), .val (.int p3)] [(.int (1 : Int32)), (.int pn), (.ref a1), (.int pn), (.ref av)])) _
      refine XS.iadd X37.here hx rfl (hb hby d10_87) rfl ?_
      show Steps p.tables e below (T37.setTop (mkF m 88 #[.val (.ref a1), .val (.int p2), .val (.int p3)] [(.int (pn + (1 : Int32))), (.ref a1), (.int pn), (.ref av)])) _
      refine st38 _ ?_
      show Steps p.tables e below (T38.setTop (mkF m 91 #[.val (.ref a1), .val (.int p2), .val (.int p3)] [(.int pn), (.ref av)])) _
      refine XS.iloadN X38.here hx rfl (hb hby d10_91) rfl ?_
      show Steps p.tables e below (T38.setTop (mkF m 92 #[.val (.ref a1), .val (.int p2), .val (.int p3)] [(.int p2), (.int pn), (.ref av)])) _
      refine st47 _ ?_
      show Steps p.tables e below (T47.setTop (mkF m 93 #[.val (.ref a1), .val (.int p2), .val (.int p3)] [])) _
      refine XS.aloadN X47.here hx rfl (hb hby d10_93) rfl rfl ?_
      exact kt
    obtain ⟨fs, hr, hrun, hended, hW, hsame⟩ := X47.leave (v := some (.ref a1)) (fun h => by rw [Bd.returns] at h; cases h)
    refine ⟨_, _, pre56 _ ?_, hrun, hended, _, _, rfl, ?_, ⟨_, rfl⟩, hW, hsame.mono (by decide) (by decide)⟩
    · show Steps p.tables e below (T47.setTop (mkF m 94 #[.val (.ref a1), .val (.int p2), .val (.int p3)] [(.ref a1)])) _
      exact X47.areturnOut hx rfl Bd.returns rfl (hb hby d10_94) hr
    · show Q10b Z a1 p2 p3 av pn ur fv cn h0 n0 _ T47.heap _
      rw [hE47]
      exact ⟨_, rfl, N54, K55, f48, f49, f50, f51, V47⟩
theorem own_df {x y : Int32} {n k : Nat} (h : x.toInt = (n : Int)) (hk : y.toInt = (k : Int)) (hl : k ≤ n) : (x - y).toInt = ((n - k : Nat) : Int) := by
  have a1 := c_isub x y
  have a2 := rng32 (x - y)
  have a3 := rng32 x
  omega
theorem own_ln (x : Int32) : (((x + (1 : Int32)) - x) - (0 : Int32)) = (1 : Int32) := by
  have a1 := c_iadd x 1
  have a2 := c_isub (x + 1) x
  have a3 := c_isub (x + 1 - x) 0
  have a4 := rng32 (x + 1 - x - 0)
  have o : (1 : Int32).toInt = 1 := rfl
  have o0 : (0 : Int32).toInt = 0 := rfl
  apply Int32.toInt_inj.mp; omega
theorem own_ct (x y : Int32) : ((x - (y - y)) + (1 : Int32)) = (x + (1 : Int32)) := by
  have a1 := c_isub y y
  have a2 := c_isub x (y - y)
  have a3 := c_iadd (x - (y - y)) 1
  have a4 := c_iadd x 1
  have a5 := rng32 (x - (y - y) + 1)
  have a6 := rng32 (x + 1)
  apply Int32.toInt_inj.mp; omega
theorem own_lt1 {x : Int32} (h : 0 ≤ x.toInt ∧ x.toInt < 65536) : x < (x + (1 : Int32)) := by
  have a1 := c_iadd x 1
  have a2 := rng32 (x + 1)
  have o : (1 : Int32).toInt = 1 := rfl
  rw [Int32.lt_iff_toInt_lt]; omega
theorem d19_0 : decode prog_22_method_15_code 0 = .ok (.aload_n 0, 1) := by decide +kernel
theorem d19_1 : decode prog_22_method_15_code 1 = .ok (.dup, 1) := by decide +kernel
theorem d19_2 : decode prog_22_method_15_code 2 = .ok (.getfield 23, 3) := by decide +kernel
theorem d19_5 : decode prog_22_method_15_code 5 = .ok (.aload_n 0, 1) := by decide +kernel
theorem d19_6 : decode prog_22_method_15_code 6 = .ok (.iload_n 1, 1) := by decide +kernel
theorem d19_7 : decode prog_22_method_15_code 7 = .ok (.iload_n 2, 1) := by decide +kernel
theorem d19_8 : decode prog_22_method_15_code 8 = .ok (.iconst 1, 1) := by decide +kernel
theorem d19_9 : decode prog_22_method_15_code 9 = .ok (.iadd, 1) := by decide +kernel
theorem d19_10 : decode prog_22_method_15_code 10 = .ok (.aload_n 0, 1) := by decide +kernel
theorem d19_11 : decode prog_22_method_15_code 11 = .ok (.getfield 19, 3) := by decide +kernel
theorem d19_14 : decode prog_22_method_15_code 14 = .ok (.invokestatic 129, 3) := by decide +kernel
theorem d19_17 : decode prog_22_method_15_code 17 = .ok (.invokevirtual 40, 3) := by decide +kernel
theorem d19_20 : decode prog_22_method_15_code 20 = .ok (.isub, 1) := by decide +kernel
theorem d19_21 : decode prog_22_method_15_code 21 = .ok (.putfield 23, 3) := by decide +kernel
theorem d19_24 : decode prog_22_method_15_code 24 = .ok (.iload 4, 2) := by decide +kernel
theorem d19_26 : decode prog_22_method_15_code 26 = .ok (.iload_n 3, 1) := by decide +kernel
theorem d19_27 : decode prog_22_method_15_code 27 = .ok (.isub, 1) := by decide +kernel
theorem d19_28 : decode prog_22_method_15_code 28 = .ok (.aload 5, 2) := by decide +kernel
theorem d19_30 : decode prog_22_method_15_code 30 = .ok (.arraylength, 1) := by decide +kernel
theorem d19_31 : decode prog_22_method_15_code 31 = .ok (.isub, 1) := by decide +kernel
theorem d19_32 : decode prog_22_method_15_code 32 = .ok (.istore 6, 2) := by decide +kernel
theorem d19_34 : decode prog_22_method_15_code 34 = .ok (.aload_n 0, 1) := by decide +kernel
theorem d19_35 : decode prog_22_method_15_code 35 = .ok (.getfield 19, 3) := by decide +kernel
theorem d19_38 : decode prog_22_method_15_code 38 = .ok (.iload_n 2, 1) := by decide +kernel
theorem d19_39 : decode prog_22_method_15_code 39 = .ok (.iload_n 1, 1) := by decide +kernel
theorem d19_40 : decode prog_22_method_15_code 40 = .ok (.isub, 1) := by decide +kernel
theorem d19_41 : decode prog_22_method_15_code 41 = .ok (.isub, 1) := by decide +kernel
theorem d19_42 : decode prog_22_method_15_code 42 = .ok (.iload 6, 2) := by decide +kernel
theorem d19_44 : decode prog_22_method_15_code 44 = .ok (.iadd, 1) := by decide +kernel
theorem d19_45 : decode prog_22_method_15_code 45 = .ok (.istore 7, 2) := by decide +kernel
theorem d19_47 : decode prog_22_method_15_code 47 = .ok (.aload_n 0, 1) := by decide +kernel
theorem d19_48 : decode prog_22_method_15_code 48 = .ok (.getfield 16, 3) := by decide +kernel
theorem d19_51 : decode prog_22_method_15_code 51 = .ok (.astore 8, 2) := by decide +kernel
theorem d19_53 : decode prog_22_method_15_code 53 = .ok (.getstatic 96, 3) := by decide +kernel
theorem d19_56 : decode prog_22_method_15_code 56 = .ok (.aload_n 0, 1) := by decide +kernel
theorem d19_57 : decode prog_22_method_15_code 57 = .ok (.getfield 16, 3) := by decide +kernel
theorem d19_60 : decode prog_22_method_15_code 60 = .ok (.arraylength, 1) := by decide +kernel
theorem d19_61 : decode prog_22_method_15_code 61 = .ok (.iload 7, 2) := by decide +kernel
theorem d19_63 : decode prog_22_method_15_code 63 = .ok (.invokevirtual 134, 3) := by decide +kernel
theorem d19_66 : decode prog_22_method_15_code 66 = .ok (.istore 9, 2) := by decide +kernel
theorem d19_68 : decode prog_22_method_15_code 68 = .ok (.iload 9, 2) := by decide +kernel
theorem d19_70 : decode prog_22_method_15_code 70 = .ok (.aload_n 0, 1) := by decide +kernel
theorem d19_71 : decode prog_22_method_15_code 71 = .ok (.getfield 16, 3) := by decide +kernel
theorem d19_74 : decode prog_22_method_15_code 74 = .ok (.arraylength, 1) := by decide +kernel
theorem d19_75 : decode prog_22_method_15_code 75 = .ok (.if_icmp .eq 21, 3) := by decide +kernel
theorem d19_78 : decode prog_22_method_15_code 78 = .ok (.iload 9, 2) := by decide +kernel
theorem d19_80 : decode prog_22_method_15_code 80 = .ok (.newarray .char, 2) := by decide +kernel
theorem d19_82 : decode prog_22_method_15_code 82 = .ok (.astore 8, 2) := by decide +kernel
theorem d19_84 : decode prog_22_method_15_code 84 = .ok (.aload_n 0, 1) := by decide +kernel
theorem d19_85 : decode prog_22_method_15_code 85 = .ok (.getfield 16, 3) := by decide +kernel
theorem d19_88 : decode prog_22_method_15_code 88 = .ok (.iconst 0, 1) := by decide +kernel
theorem d19_89 : decode prog_22_method_15_code 89 = .ok (.aload 8, 2) := by decide +kernel
theorem d19_91 : decode prog_22_method_15_code 91 = .ok (.iconst 0, 1) := by decide +kernel
theorem d19_92 : decode prog_22_method_15_code 92 = .ok (.iload_n 1, 1) := by decide +kernel
theorem d19_93 : decode prog_22_method_15_code 93 = .ok (.invokestatic 137, 3) := by decide +kernel
theorem d19_96 : decode prog_22_method_15_code 96 = .ok (.aload_n 0, 1) := by decide +kernel
theorem d19_97 : decode prog_22_method_15_code 97 = .ok (.getfield 16, 3) := by decide +kernel
theorem d19_100 : decode prog_22_method_15_code 100 = .ok (.iload_n 2, 1) := by decide +kernel
theorem d19_101 : decode prog_22_method_15_code 101 = .ok (.aload 8, 2) := by decide +kernel
theorem d19_103 : decode prog_22_method_15_code 103 = .ok (.iload_n 1, 1) := by decide +kernel
theorem d19_104 : decode prog_22_method_15_code 104 = .ok (.iload 6, 2) := by decide +kernel
theorem d19_106 : decode prog_22_method_15_code 106 = .ok (.iadd, 1) := by decide +kernel
theorem d19_107 : decode prog_22_method_15_code 107 = .ok (.aload_n 0, 1) := by decide +kernel
theorem d19_108 : decode prog_22_method_15_code 108 = .ok (.getfield 19, 3) := by decide +kernel
theorem d19_111 : decode prog_22_method_15_code 111 = .ok (.iload_n 2, 1) := by decide +kernel
theorem d19_112 : decode prog_22_method_15_code 112 = .ok (.isub, 1) := by decide +kernel
theorem d19_113 : decode prog_22_method_15_code 113 = .ok (.invokestatic 137, 3) := by decide +kernel
theorem d19_116 : decode prog_22_method_15_code 116 = .ok (.iload_n 3, 1) := by decide +kernel
theorem d19_117 : decode prog_22_method_15_code 117 = .ok (.istore 10, 2) := by decide +kernel
theorem d19_119 : decode prog_22_method_15_code 119 = .ok (.iload_n 1, 1) := by decide +kernel
theorem d19_120 : decode prog_22_method_15_code 120 = .ok (.istore 11, 2) := by decide +kernel
theorem d19_122 : decode prog_22_method_15_code 122 = .ok (.iconst 0, 1) := by decide +kernel
theorem d19_123 : decode prog_22_method_15_code 123 = .ok (.istore 12, 2) := by decide +kernel
theorem d19_125 : decode prog_22_method_15_code 125 = .ok (.iload 10, 2) := by decide +kernel
theorem d19_127 : decode prog_22_method_15_code 127 = .ok (.iload 4, 2) := by decide +kernel
theorem d19_129 : decode prog_22_method_15_code 129 = .ok (.if_icmp .ge 44, 3) := by decide +kernel
theorem d19_132 : decode prog_22_method_15_code 132 = .ok (.iload 12, 2) := by decide +kernel
theorem d19_134 : decode prog_22_method_15_code 134 = .ok (.aload 5, 2) := by decide +kernel
theorem d19_136 : decode prog_22_method_15_code 136 = .ok (.arraylength, 1) := by decide +kernel
theorem d19_137 : decode prog_22_method_15_code 137 = .ok (.if_icmp .ge 19, 3) := by decide +kernel
theorem d19_140 : decode prog_22_method_15_code 140 = .ok (.aload 5, 2) := by decide +kernel
theorem d19_142 : decode prog_22_method_15_code 142 = .ok (.iload 12, 2) := by decide +kernel
theorem d19_144 : decode prog_22_method_15_code 144 = .ok (.caload, 1) := by decide +kernel
theorem d19_145 : decode prog_22_method_15_code 145 = .ok (.iload 10, 2) := by decide +kernel
theorem d19_147 : decode prog_22_method_15_code 147 = .ok (.if_icmp .ne 9, 3) := by decide +kernel
theorem d19_150 : decode prog_22_method_15_code 150 = .ok (.iinc 12 1, 3) := by decide +kernel
theorem d19_153 : decode prog_22_method_15_code 153 = .ok (.goto 14, 3) := by decide +kernel
theorem d19_156 : decode prog_22_method_15_code 156 = .ok (.aload 8, 2) := by decide +kernel
theorem d19_158 : decode prog_22_method_15_code 158 = .ok (.iload 11, 2) := by decide +kernel
theorem d19_160 : decode prog_22_method_15_code 160 = .ok (.iinc 11 1, 3) := by decide +kernel
theorem d19_163 : decode prog_22_method_15_code 163 = .ok (.iload 10, 2) := by decide +kernel
theorem d19_165 : decode prog_22_method_15_code 165 = .ok (.i2c, 1) := by decide +kernel
theorem d19_166 : decode prog_22_method_15_code 166 = .ok (.castore, 1) := by decide +kernel
theorem d19_167 : decode prog_22_method_15_code 167 = .ok (.iinc 10 1, 3) := by decide +kernel
theorem d19_170 : decode prog_22_method_15_code 170 = .ok (.goto (-45), 3) := by decide +kernel
theorem d19_173 : decode prog_22_method_15_code 173 = .ok (.aload_n 0, 1) := by decide +kernel
theorem d19_174 : decode prog_22_method_15_code 174 = .ok (.aload 8, 2) := by decide +kernel
theorem d19_176 : decode prog_22_method_15_code 176 = .ok (.putfield 16, 3) := by decide +kernel
theorem d19_179 : decode prog_22_method_15_code 179 = .ok (.aload_n 0, 1) := by decide +kernel
theorem d19_180 : decode prog_22_method_15_code 180 = .ok (.iload 7, 2) := by decide +kernel
theorem d19_182 : decode prog_22_method_15_code 182 = .ok (.putfield 19, 3) := by decide +kernel
theorem d19_185 : decode prog_22_method_15_code 185 = .ok (.aload_n 0, 1) := by decide +kernel
theorem d19_186 : decode prog_22_method_15_code 186 = .ok (.dup, 1) := by decide +kernel
theorem d19_187 : decode prog_22_method_15_code 187 = .ok (.getfield 23, 3) := by decide +kernel
theorem d19_190 : decode prog_22_method_15_code 190 = .ok (.aload_n 0, 1) := by decide +kernel
theorem d19_191 : decode prog_22_method_15_code 191 = .ok (.iload_n 1, 1) := by decide +kernel
theorem d19_192 : decode prog_22_method_15_code 192 = .ok (.iload_n 1, 1) := by decide +kernel
theorem d19_193 : decode prog_22_method_15_code 193 = .ok (.iload 6, 2) := by decide +kernel
theorem d19_195 : decode prog_22_method_15_code 195 = .ok (.iadd, 1) := by decide +kernel
theorem d19_196 : decode prog_22_method_15_code 196 = .ok (.iconst 1, 1) := by decide +kernel
theorem d19_197 : decode prog_22_method_15_code 197 = .ok (.iadd, 1) := by decide +kernel
theorem d19_198 : decode prog_22_method_15_code 198 = .ok (.aload_n 0, 1) := by decide +kernel
theorem d19_199 : decode prog_22_method_15_code 199 = .ok (.getfield 19, 3) := by decide +kernel
theorem d19_202 : decode prog_22_method_15_code 202 = .ok (.invokestatic 129, 3) := by decide +kernel
theorem d19_205 : decode prog_22_method_15_code 205 = .ok (.invokevirtual 40, 3) := by decide +kernel
theorem d19_208 : decode prog_22_method_15_code 208 = .ok (.iadd, 1) := by decide +kernel
theorem d19_209 : decode prog_22_method_15_code 209 = .ok (.putfield 23, 3) := by decide +kernel
theorem d19_212 : decode prog_22_method_15_code 212 = .ok (.return_, 1) := by decide +kernel
theorem pn_19 : plainName "com/example/bitweight/bitweight/chunk/ArrayChunk" = true := by first | (simp [plainName, overriddenIn]; done) | decide +kernel
theorem ef_19 (m : MethodId) (x0 : Addr) (x1 : Int32) (x2 : Int32) (x3 : Int32) (x4 : Int32) (x5 : Addr) : entryFrame m #[(.ref x0), (.int x1), (.int x2), (.int x3), (.int x4), (.ref x5)] 13 = mkF m 0 #[.val (.ref x0), .val (.int x1), .val (.int x2), .val (.int x3), .val (.int x4), .val (.ref x5), .unset, .unset, .unset, .unset, .unset, .unset, .unset] [] := by first | (simp [entryFrame, mkF, argsToLocals, Value.category]; done) | rfl
def Q19 (Z : State) (a1 : Addr) (p2 : Int32) (p4 : Int32) (an : Addr) (av ar : Addr) (pn ur : Int32) (fv : Nat → Int32) (cn ki : Nat) (h0 : Heap) (n0 : Nat) (v : Option Value) (h : Heap) (L : List Loc) : Prop := ∃ r : Int32, v = none ∧ Fr n0 L ∧ Keep h0 h [a1, av] ∧ Exa Z h a1 "com/example/bitweight/bitweight/chunk/ArrayChunk" ∧ Fld Z h a1 "com/example/bitweight/bitweight/chunk/ArrayChunk" "values" "[C" (.ref av) ∧ Fld Z h a1 "com/example/bitweight/bitweight/chunk/ArrayChunk" "cardinality" "I" (.int (pn + (1 : Int32))) ∧ Fld Z h a1 "com/example/bitweight/bitweight/chunk/ArrayChunk" "runs" "I" (.int r) ∧ owAI Z h av .char 4 (own_ins fv ki cn p4)
set_option maxRecDepth 65536 in
set_option maxHeartbeats 40000000 in
theorem rm19 (l : Launch) (Z : State) (a0 : Array Value) (hw : ∀ d ∈ tables_1, d.before a0 Z = true) (ws : List Jvm.Cond) (a1 : Addr) (p2 : Int32) (p4 : Int32) (an : Addr) (av ar : Addr) (pn ur : Int32) (fv : Nat → Int32) (cn ki : Nat) (h0 : Heap) (n0 : Nat) (Z0 : n0 ≤ h0.size) (E_a1 : Exa Z h0 a1 "com/example/bitweight/bitweight/chunk/ArrayChunk") (F_values : Fld Z h0 a1 "com/example/bitweight/bitweight/chunk/ArrayChunk" "values" "[C" (.ref av)) (F_cardinality : Fld Z h0 a1 "com/example/bitweight/bitweight/chunk/ArrayChunk" "cardinality" "I" (.int pn)) (F_runs : Fld Z h0 a1 "com/example/bitweight/bitweight/chunk/ArrayChunk" "runs" "I" (.int ur)) (A_av : owAI Z h0 av .char 4 fv) (A_an : owAI Z h0 an .char 0 (fun _ => 0)) (S_room : Sta Z h0 "com/example/bitweight/bitweight/chunk/ArrayChunk" "ROOM" "Lcom/example/bitweight/bitweight/chunk/Room;" (.ref ar)) (E_ar : Exa Z h0 ar "com/example/bitweight/bitweight/chunk/Room") (g_a1 : n0 ≤ a1) (g_av : n0 ≤ av) (n1v : a1 ≠ av) (n1n : a1 ≠ an) (nvn : av ≠ an) (hp4 : 0 ≤ p4.toInt ∧ p4.toInt < 65536) (hcn : pn.toInt = (cn : Int)) (hc1 : 1 ≤ cn) (hc3 : cn ≤ 3) (h_ki : p2.toInt = (ki : Int)) (hki : ki ≤ cn) (ok : own_ok fv cn) :
    MetFree l (⟨"com/example/bitweight/bitweight/chunk/ArrayChunk", "replace", "(IIII[C)V"⟩ : MethodName) (head1 (Jvm.Cond.code (⟨"com/example/bitweight/bitweight/chunk/ArrayChunk", "replace", "(IIII[C)V"⟩ : MethodName) prog_22_method_15_code 13 none :: ws) ({ frames := 1, cells := 0, slots := 0, locals := 18 } : Room)) (fun a U => a = #[(.ref a1), (.int p2), (.int p2), (.int p4), (.int (p4 + (1 : Int32))), (.ref an)] ∧ Z.Warmed39 U.vm ∧ U.heap = h0) (fun _ _ _ _ _ => True) (fun _ U o U' => ∃ v L, o = .returned v ∧ Q19 Z a1 p2 p4 an av ar pn ur fv cn ki h0 n0 v U'.heap L ∧ FrameEnd U o U' L ({ frames := 1, cells := 0, slots := 0, locals := 18 } : Room).cells ({ frames := 1, cells := 0, slots := 0, locals := 18 } : Room).slots) := by
  refine MetFree.of_bodySF (plainFor_of_name pn_19) hisR ?_
  intro p e s m args below meth c s₁ Bd hml0 hP hK
  obtain ⟨rfl, hZ, hh⟩ := hP
  have hx := Bd.exec
  have hby := Bd.bytes
  have hml : c.maxLocals = 13 := hml0
  have hown : s.vm.findClass "com/example/bitweight/bitweight/chunk/ArrayChunk" = some m.cls := findClass_of_methodNamed Bd.named
  have hnm := (name_of_methodNamed Bd.named Bd.method).1
  have X0 : Stand p l e ({ frames := 1, cells := 0, slots := 0, locals := 18 } : Room) s m #[(.ref a1), (.int p2), (.int p2), (.int p4), (.int (p4 + (1 : Int32))), (.ref an)] below meth c s₁ [] 0 0 := Stand.of_body Bd
  have e0 : s₁.heap = h0 := by rw [← hh, Bd.state]; rfl
  have N0 := Fr.nil n0
  have pre0 : ∀ t, Steps p.tables e below (s₁.setTop (mkF m 0 #[.val (.ref a1), .val (.int p2), .val (.int p2), .val (.int p4), .val (.int (p4 + (1 : Int32))), .val (.ref an), .unset, .unset, .unset, .unset, .unset, .unset, .unset] [])) t → Steps p.tables e below (s₁.setTop (entryFrame m #[(.ref a1), (.int p2), (.int p2), (.int p4), (.int (p4 + (1 : Int32))), (.ref an)] 13)) t := fun t k => castTop (ef_19 m a1 p2 p2 p4 (p4 + (1 : Int32)) an) k
  obtain ⟨T1, X1, hE1, st1⟩ := getF X0 hx hZ hown (host := "") (Or.inl (hw _ (List.mem_of_getElem? (i := 25) rfl))) Via.refl e0 F_runs (g := (mkF m 2 #[.val (.ref a1), .val (.int p2), .val (.int p2), .val (.int p4), .val (.int (p4 + (1 : Int32))), .val (.ref an), .unset, .unset, .unset, .unset, .unset, .unset, .unset] [(.ref a1), (.ref a1)])) rfl rfl (hb hby d19_2)
  obtain ⟨T2, X2, hE2, st2⟩ := getF X1 hx hZ hown (host := "") (Or.inl (hw _ (List.mem_of_getElem? (i := 23) rfl))) Via.refl hE1 F_cardinality (g := (mkF m 11 #[.val (.ref a1), .val (.int p2), .val (.int p2), .val (.int p4), .val (.int (p4 + (1 : Int32))), .val (.ref an), .unset, .unset, .unset, .unset, .unset, .unset, .unset] [(.ref a1), (.int (p2 + (1 : Int32))), (.int p2), (.ref a1), (.int ur), (.ref a1)])) rfl rfl (hb hby d19_11)
  obtain ⟨_, _, ⟨T3, L3, k3, n3⟩, -, X3, ⟨Lc3, hQ3, l3, y3, z3⟩, st3⟩ := Jvm.LawKit.callS X2 hx (y := (⟨"java/lang/Math", "min", "(II)I"⟩ : MethodName)) hown (mvT hZ (hw _ (List.mem_of_getElem? (i := 99) rfl))) (mvT hZ (hw _ (List.mem_of_getElem? (i := 74) rfl))) (mvT hZ (hw _ (List.mem_of_getElem? (i := 69) rfl))) (mvT hZ (hw _ (List.mem_of_getElem? (i := 75) rfl))) (by decide) (backOf (W := 4) (rm14 l Z a0 hw [] (p2 + (1 : Int32)) pn h0 n0 Z0) hZ (hw _ (List.mem_of_getElem? (i := 75) rfl)) (hw _ (List.mem_of_getElem? (i := 69) rfl)) (by decide) (by decide)) (g := (mkF m 14 #[.val (.ref a1), .val (.int p2), .val (.int p2), .val (.int p4), .val (.int (p4 + (1 : Int32))), .val (.ref an), .unset, .unset, .unset, .unset, .unset, .unset, .unset] [(.int pn), (.int (p2 + (1 : Int32))), (.int p2), (.ref a1), (.int ur), (.ref a1)])) rfl (by rw [hml]; rfl) (argsL := [(.int (p2 + (1 : Int32))), (.int pn)]) (rest := [(.int p2), (.ref a1), (.int ur), (.ref a1)]) (lenOf pd_0 rfl) rfl (by show 2 * 0 + _ ≤ _; exact Nat.le_of_eq rfl) (hb hby d19_14) (fun _ _ => ⟨rfl, hE2, (by decide : 0 + 0 ≤ _), (by decide : 0 + 0 ≤ _)⟩)
  dsimp only [Pt.U, Pt.locs, Pt.cells, Pt.slots] at X3 l3 y3 z3 st3 hQ3
  subst l3 y3 z3
  obtain ⟨rfl, N3q, hE3⟩ := hQ3
  have N3 := Fr.app N0 N3q
  obtain ⟨cq4, q4, q4'⟩ := E_a1.cell
  obtain ⟨_, _, ⟨T4, L4, k4, n4⟩, -, X4, ⟨Lc4, hQ4, l4, y4, z4⟩, st4⟩ := X3.privateBack hx (y := (⟨"com/example/bitweight/bitweight/chunk/ArrayChunk", "runStarts", "(II)I"⟩ : MethodName)) hown (mvT hZ (hw _ (List.mem_of_getElem? (i := 100) rfl))) (mvT hZ (hw _ (List.mem_of_getElem? (i := 101) rfl))) (owSel (mvT hZ (hw _ (List.mem_of_getElem? (i := 3) rfl))) (Cond.privateMethod_at (mvP hZ (hw _ (List.mem_of_getElem? (i := 102) rfl)) (args := #[]))) (mvT hZ (hw _ (List.mem_of_getElem? (i := 101) rfl))) (by decide)) (Cond.privateMethod_at (mvP hZ (hw _ (List.mem_of_getElem? (i := 102) rfl)) (args := #[]))) (mvT hZ (hw _ (List.mem_of_getElem? (i := 103) rfl))) (by decide) (backOf (W := 2) (rm20 l Z a0 hw [] a1 p2 (fn14 (p2 + (1 : Int32)) pn) av fv ki h0 n0 Z0 F_values A_av h_ki (own_mn4 _ _ (by rw [hcn]; omega))) hZ (hw _ (List.mem_of_getElem? (i := 103) rfl)) (hw _ (List.mem_of_getElem? (i := 4) rfl)) (by decide) (by decide)) (g := (mkF m 17 #[.val (.ref a1), .val (.int p2), .val (.int p2), .val (.int p4), .val (.int (p4 + (1 : Int32))), .val (.ref an), .unset, .unset, .unset, .unset, .unset, .unset, .unset] [(.int (fn14 (p2 + (1 : Int32)) pn)), (.int p2), (.ref a1), (.int ur), (.ref a1)])) rfl (by rw [hml]; rfl) (Steps.refl _) (a := a1) (by rw [hE3]; exact q4) q4' (argsL := [(.int p2), (.int (fn14 (p2 + (1 : Int32)) pn))]) (rest := [(.int ur), (.ref a1)]) (lenOf pd_0 rfl) rfl (by show 2 * 0 + _ ≤ _; exact Nat.le_of_eq rfl) (hb hby d19_17) (fun _ _ => ⟨rfl, hE3, (by decide : 0 + 0 ≤ _), (by decide : 0 + 0 ≤ _)⟩)
  dsimp only [Pt.U, Pt.locs, Pt.cells, Pt.slots] at X4 l4 y4 z4 st4 hQ4
  subst l4 y4 z4
  obtain ⟨r4, rfl, N4q, hE4⟩ := hQ4
  have N4 := Fr.app N3 N4q
  obtain ⟨T5, gh5, X5, hE5, W5, st5⟩ := putF X4 hx hZ hown (host := "") (Or.inl (hw _ (List.mem_of_getElem? (i := 25) rfl))) Via.refl hE4 F_runs E_a1 (Or.inl (hw _ (List.mem_of_getElem? (i := 26) rfl))) (hw _ (List.mem_of_getElem? (i := 3) rfl)) (ty := .int) (by decide) rfl rfl (g := (mkF m 21 #[.val (.ref a1), .val (.int p2), .val (.int p2), .val (.int p4), .val (.int (p4 + (1 : Int32))), .val (.ref an), .unset, .unset, .unset, .unset, .unset, .unset, .unset] [(.int (ur - r4)), (.ref a1)])) rfl rfl (hb hby d19_21)
  have Fw5 := F_runs.same W5
  have f6 := E_a1.wr W5
  have f7 := F_values.other W5 (Or.inr (slot_ne (Or.inl (hw _ (List.mem_of_getElem? (i := 22) rfl))) (Or.inl (hw _ (List.mem_of_getElem? (i := 26) rfl))) (by decide) (t := (.array .char)) (t' := .int) (by decide) (by decide)))
  have f8 := F_cardinality.other W5 (Or.inr (slot_ne (Or.inl (hw _ (List.mem_of_getElem? (i := 24) rfl))) (Or.inl (hw _ (List.mem_of_getElem? (i := 26) rfl))) (by decide) (t := .int) (t' := .int) (by decide) (by decide)))
  have f10 := A_av.other W5 (Ne.symm n1v)
  have f11 := A_an.other W5 (Ne.symm n1n)
  have f12 := S_room.wr W5
  have f13 := E_ar.wr W5
  have Z14 := Nat.le_trans Z0 (Keep.of_wr W5).1
  have N15 := Fr.snoc X5 N4 g_a1
  have K16 := (Keep.refl h0 [a1, av]).wr W5 (Or.inl (List.mem_of_getElem? (i := 0) rfl))
  have pre17 : ∀ t, Steps p.tables e below (T5.setTop (mkF m 32 #[.val (.ref a1), .val (.int p2), .val (.int p2), .val (.int p4), .val (.int (p4 + (1 : Int32))), .val (.ref an), .unset, .unset, .unset, .unset, .unset, .unset, .unset] [(.int (((p4 + (1 : Int32)) - p4) - (0 : Int32)))])) t → Steps p.tables e below (s₁.setTop (entryFrame m #[(.ref a1), (.int p2), (.int p2), (.int p4), (.int (p4 + (1 : Int32))), (.ref an)] 13)) t := by
    intro t kt
    refine pre0 _ ?_
    show Steps p.tables e below (s₁.setTop (mkF m 0 #[.val (.ref a1), .val (.int p2), .val (.int p2), .val (.int p4), .val (.int (p4 + (1 : Int32))), .val (.ref an), .unset, .unset, .unset, .unset, .unset, .unset, .unset] [])) _
    refine XS.aloadN X0.here hx rfl (hb hby d19_0) rfl rfl ?_
    show Steps p.tables e below (s₁.setTop (mkF m 1 #[.val (.ref a1), .val (.int p2), .val (.int p2), .val (.int p4), .val (.int (p4 + (1 : Int32))), .val (.ref an), .unset, .unset, .unset, .unset, .unset, .unset, .unset] [(.ref a1)])) _
    refine XS.dup X0.here hx rfl (hb hby d19_1) rfl rfl ?_
    show Steps p.tables e below (s₁.setTop (mkF m 2 #[.val (.ref a1), .val (.int p2), .val (.int p2), .val (.int p4), .val (.int (p4 + (1 : Int32))), .val (.ref an), .unset, .unset, .unset, .unset, .unset, .unset, .unset] [(.ref a1), (.ref a1)])) _
    refine st1 _ ?_
    show Steps p.tables e below (T1.setTop (mkF m 5 #[.val (.ref a1), .val (.int p2), .val (.int p2), .val (.int p4), .val (.int (p4 + (1 : Int32))), .val (.ref an), .unset, .unset, .unset, .unset, .unset, .unset, .unset] [(.int ur), (.ref a1)])) _
    refine XS.aloadN X1.here hx rfl (hb hby d19_5) rfl rfl ?_
    show Steps p.tables e below (T1.setTop (mkF m 6 #[.val (.ref a1), .val (.int p2), .val (.int p2), .val (.int p4), .val (.int (p4 + (1 : Int32))), .val (.ref an), .unset, .unset, .unset, .unset, .unset, .unset, .unset] [(.ref a1), (.int ur), (.ref a1)])) _
    refine XS.iloadN X1.here hx rfl (hb hby d19_6) rfl ?_
    show Steps p.tables e below (T1.setTop (mkF m 7 #[.val (.ref a1), .val (.int p2), .val (.int p2), .val (.int p4), .val (.int (p4 + (1 : Int32))), .val (.ref an), .unset, .unset, .unset, .unset, .unset, .unset, .unset] [(.int p2), (.ref a1), (.int ur), (.ref a1)])) _
    refine XS.iloadN X1.here hx rfl (hb hby d19_7) rfl ?_
    show Steps p.tables e below (T1.setTop (mkF m 8 #[.val (.ref a1), .val (.int p2), .val (.int p2), .val (.int p4), .val (.int (p4 + (1 : Int32))), .val (.ref an), .unset, .unset, .unset, .unset, .unset, .unset, .unset] [(.int p2), (.int p2), (.ref a1), (.int ur), (.ref a1)])) _
    refine XS.iconst X1.here hx rfl (hb hby d19_8) ?_
    show Steps p.tables e below (T1.setTop (mkF m 9 #[.val (.ref a1), .val (.int p2), .val (.int p2), .val (.int p4), .val (.int (p4 + (1 : Int32))), .val (.ref an), .unset, .unset, .unset, .unset, .unset, .unset, .unset] [(.int (1 : Int32)), (.int p2), (.int p2), (.ref a1), (.int ur), (.ref a1)])) _
    refine XS.iadd X1.here hx rfl (hb hby d19_9) rfl ?_
    show Steps p.tables e below (T1.setTop (mkF m 10 #[.val (.ref a1), .val (.int p2), .val (.int p2), .val (.int p4), .val (.int (p4 + (1 : Int32))), .val (.ref an), .unset, .unset, .unset, .unset, .unset, .unset, .unset] [(.int (p2 + (1 : Int32))), (.int p2), (.ref a1), (.int ur), (.ref a1)])) _
    refine XS.aloadN X1.here hx rfl (hb hby d19_10) rfl rfl ?_
    show Steps p.tables e below (T1.setTop (mkF m 11 #[.val (.ref a1), .val (.int p2), .val (.int p2), .val (.int p4), .val (.int (p4 + (1 : Int32))), .val (.ref an), .unset, .unset, .unset, .unset, .unset, .unset, .unset] [(.ref a1), (.int (p2 + (1 : Int32))), (.int p2), (.ref a1), (.int ur), (.ref a1)])) _
    refine st2 _ ?_
    show Steps p.tables e below (T2.setTop (mkF m 14 #[.val (.ref a1), .val (.int p2), .val (.int p2), .val (.int p4), .val (.int (p4 + (1 : Int32))), .val (.ref an), .unset, .unset, .unset, .unset, .unset, .unset, .unset] [(.int pn), (.int (p2 + (1 : Int32))), (.int p2), (.ref a1), (.int ur), (.ref a1)])) _
    refine st3 _ ?_
    show Steps p.tables e below (T3.setTop (mkF m 17 #[.val (.ref a1), .val (.int p2), .val (.int p2), .val (.int p4), .val (.int (p4 + (1 : Int32))), .val (.ref an), .unset, .unset, .unset, .unset, .unset, .unset, .unset] [(.int (fn14 (p2 + (1 : Int32)) pn)), (.int p2), (.ref a1), (.int ur), (.ref a1)])) _
    refine st4.trans ?_
    show Steps p.tables e below (T4.setTop (mkF m 20 #[.val (.ref a1), .val (.int p2), .val (.int p2), .val (.int p4), .val (.int (p4 + (1 : Int32))), .val (.ref an), .unset, .unset, .unset, .unset, .unset, .unset, .unset] [(.int r4), (.int ur), (.ref a1)])) _
    refine XS.isub X4.here hx rfl (hb hby d19_20) rfl ?_
    show Steps p.tables e below (T4.setTop (mkF m 21 #[.val (.ref a1), .val (.int p2), .val (.int p2), .val (.int p4), .val (.int (p4 + (1 : Int32))), .val (.ref an), .unset, .unset, .unset, .unset, .unset, .unset, .unset] [(.int (ur - r4)), (.ref a1)])) _
    refine st5 _ ?_
    show Steps p.tables e below (T5.setTop (mkF m 24 #[.val (.ref a1), .val (.int p2), .val (.int p2), .val (.int p4), .val (.int (p4 + (1 : Int32))), .val (.ref an), .unset, .unset, .unset, .unset, .unset, .unset, .unset] [])) _
    refine XS.iload X5.here hx rfl (hb hby d19_24) rfl ?_
    show Steps p.tables e below (T5.setTop (mkF m 26 #[.val (.ref a1), .val (.int p2), .val (.int p2), .val (.int p4), .val (.int (p4 + (1 : Int32))), .val (.ref an), .unset, .unset, .unset, .unset, .unset, .unset, .unset] [(.int (p4 + (1 : Int32)))])) _
    refine XS.iloadN X5.here hx rfl (hb hby d19_26) rfl ?_
    show Steps p.tables e below (T5.setTop (mkF m 27 #[.val (.ref a1), .val (.int p2), .val (.int p2), .val (.int p4), .val (.int (p4 + (1 : Int32))), .val (.ref an), .unset, .unset, .unset, .unset, .unset, .unset, .unset] [(.int p4), (.int (p4 + (1 : Int32)))])) _
    refine XS.isub X5.here hx rfl (hb hby d19_27) rfl ?_
    show Steps p.tables e below (T5.setTop (mkF m 28 #[.val (.ref a1), .val (.int p2), .val (.int p2), .val (.int p4), .val (.int (p4 + (1 : Int32))), .val (.ref an), .unset, .unset, .unset, .unset, .unset, .unset, .unset] [(.int ((p4 + (1 : Int32)) - p4))])) _
    refine XS.aload X5.here hx rfl (hb hby d19_28) rfl rfl ?_
    show Steps p.tables e below (T5.setTop (mkF m 30 #[.val (.ref a1), .val (.int p2), .val (.int p2), .val (.int p4), .val (.int (p4 + (1 : Int32))), .val (.ref an), .unset, .unset, .unset, .unset, .unset, .unset, .unset] [(.ref an), (.int ((p4 + (1 : Int32)) - p4))])) _
    refine owLenI X5 hx hZ hE5 f11 (z := (0 : Int32)) rfl (g := (mkF m 30 #[.val (.ref a1), .val (.int p2), .val (.int p2), .val (.int p4), .val (.int (p4 + (1 : Int32))), .val (.ref an), .unset, .unset, .unset, .unset, .unset, .unset, .unset] [(.ref an), (.int ((p4 + (1 : Int32)) - p4))])) rfl rfl (hb hby d19_30) _ ?_
    show Steps p.tables e below (T5.setTop (mkF m 31 #[.val (.ref a1), .val (.int p2), .val (.int p2), .val (.int p4), .val (.int (p4 + (1 : Int32))), .val (.ref an), .unset, .unset, .unset, .unset, .unset, .unset, .unset] [(.int (0 : Int32)), (.int ((p4 + (1 : Int32)) - p4))])) _
    refine XS.isub X5.here hx rfl (hb hby d19_31) rfl ?_
    exact kt
  have ql18 : (((p4 + (1 : Int32)) - p4) - (0 : Int32)) = (1 : Int32) := own_ln p4
  have pre19 : ∀ t, Steps p.tables e below (T5.setTop (mkF m 32 #[.val (.ref a1), .val (.int p2), .val (.int p2), .val (.int p4), .val (.int (p4 + (1 : Int32))), .val (.ref an), .unset, .unset, .unset, .unset, .unset, .unset, .unset] [(.int (1 : Int32))])) t → Steps p.tables e below (s₁.setTop (entryFrame m #[(.ref a1), (.int p2), (.int p2), (.int p4), (.int (p4 + (1 : Int32))), (.ref an)] 13)) t := by
    intro t kt
    refine pre17 _ ?_
    rw [ql18]
    exact kt
  obtain ⟨T20, X20, hE20, st20⟩ := getF X5 hx hZ hown (host := "") (Or.inl (hw _ (List.mem_of_getElem? (i := 23) rfl))) Via.refl hE5 f8 (g := (mkF m 35 #[.val (.ref a1), .val (.int p2), .val (.int p2), .val (.int p4), .val (.int (p4 + (1 : Int32))), .val (.ref an), .val (.int (1 : Int32)), .unset, .unset, .unset, .unset, .unset, .unset] [(.ref a1)])) rfl rfl (hb hby d19_35)
  have pre21 : ∀ t, Steps p.tables e below (T20.setTop (mkF m 45 #[.val (.ref a1), .val (.int p2), .val (.int p2), .val (.int p4), .val (.int (p4 + (1 : Int32))), .val (.ref an), .val (.int (1 : Int32)), .unset, .unset, .unset, .unset, .unset, .unset] [(.int ((pn - (p2 - p2)) + (1 : Int32)))])) t → Steps p.tables e below (s₁.setTop (entryFrame m #[(.ref a1), (.int p2), (.int p2), (.int p4), (.int (p4 + (1 : Int32))), (.ref an)] 13)) t := by
    intro t kt
    refine pre19 _ ?_
    show Steps p.tables e below (T5.setTop (mkF m 32 #[.val (.ref a1), .val (.int p2), .val (.int p2), .val (.int p4), .val (.int (p4 + (1 : Int32))), .val (.ref an), .unset, .unset, .unset, .unset, .unset, .unset, .unset] [(.int (1 : Int32))])) _
    refine XS.istore X5.here hx rfl (hb hby d19_32) rfl (l' := #[.val (.ref a1), .val (.int p2), .val (.int p2), .val (.int p4), .val (.int (p4 + (1 : Int32))), .val (.ref an), .val (.int (1 : Int32)), .unset, .unset, .unset, .unset, .unset, .unset]) rfl ?_
    show Steps p.tables e below (T5.setTop (mkF m 34 #[.val (.ref a1), .val (.int p2), .val (.int p2), .val (.int p4), .val (.int (p4 + (1 : Int32))), .val (.ref an), .val (.int (1 : Int32)), .unset, .unset, .unset, .unset, .unset, .unset] [])) _
    refine XS.aloadN X5.here hx rfl (hb hby d19_34) rfl rfl ?_
    show Steps p.tables e below (T5.setTop (mkF m 35 #[.val (.ref a1), .val (.int p2), .val (.int p2), .val (.int p4), .val (.int (p4 + (1 : Int32))), .val (.ref an), .val (.int (1 : Int32)), .unset, .unset, .unset, .unset, .unset, .unset] [(.ref a1)])) _
    refine st20 _ ?_
    show Steps p.tables e below (T20.setTop (mkF m 38 #[.val (.ref a1), .val (.int p2), .val (.int p2), .val (.int p4), .val (.int (p4 + (1 : Int32))), .val (.ref an), .val (.int (1 : Int32)), .unset, .unset, .unset, .unset, .unset, .unset] [(.int pn)])) _
    refine XS.iloadN X20.here hx rfl (hb hby d19_38) rfl ?_
    show Steps p.tables e below (T20.setTop (mkF m 39 #[.val (.ref a1), .val (.int p2), .val (.int p2), .val (.int p4), .val (.int (p4 + (1 : Int32))), .val (.ref an), .val (.int (1 : Int32)), .unset, .unset, .unset, .unset, .unset, .unset] [(.int p2), (.int pn)])) _
    refine XS.iloadN X20.here hx rfl (hb hby d19_39) rfl ?_
    show Steps p.tables e below (T20.setTop (mkF m 40 #[.val (.ref a1), .val (.int p2), .val (.int p2), .val (.int p4), .val (.int (p4 + (1 : Int32))), .val (.ref an), .val (.int (1 : Int32)), .unset, .unset, .unset, .unset, .unset, .unset] [(.int p2), (.int p2), (.int pn)])) _
    refine XS.isub X20.here hx rfl (hb hby d19_40) rfl ?_
    show Steps p.tables e below (T20.setTop (mkF m 41 #[.val (.ref a1), .val (.int p2), .val (.int p2), .val (.int p4), .val (.int (p4 + (1 : Int32))), .val (.ref an), .val (.int (1 : Int32)), .unset, .unset, .unset, .unset, .unset, .unset] [(.int (p2 - p2)), (.int pn)])) _
    refine XS.isub X20.here hx rfl (hb hby d19_41) rfl ?_
    show Steps p.tables e below (T20.setTop (mkF m 42 #[.val (.ref a1), .val (.int p2), .val (.int p2), .val (.int p4), .val (.int (p4 + (1 : Int32))), .val (.ref an), .val (.int (1 : Int32)), .unset, .unset, .unset, .unset, .unset, .unset] [(.int (pn - (p2 - p2)))])) _
    refine XS.iload X20.here hx rfl (hb hby d19_42) rfl ?_
    show Steps p.tables e below (T20.setTop (mkF m 44 #[.val (.ref a1), .val (.int p2), .val (.int p2), .val (.int p4), .val (.int (p4 + (1 : Int32))), .val (.ref an), .val (.int (1 : Int32)), .unset, .unset, .unset, .unset, .unset, .unset] [(.int (1 : Int32)), (.int (pn - (p2 - p2)))])) _
    refine XS.iadd X20.here hx rfl (hb hby d19_44) rfl ?_
    exact kt
  have ql22 : ((pn - (p2 - p2)) + (1 : Int32)) = (pn + (1 : Int32)) := own_ct pn p2
  have pre23 : ∀ t, Steps p.tables e below (T20.setTop (mkF m 45 #[.val (.ref a1), .val (.int p2), .val (.int p2), .val (.int p4), .val (.int (p4 + (1 : Int32))), .val (.ref an), .val (.int (1 : Int32)), .unset, .unset, .unset, .unset, .unset, .unset] [(.int (pn + (1 : Int32)))])) t → Steps p.tables e below (s₁.setTop (entryFrame m #[(.ref a1), (.int p2), (.int p2), (.int p4), (.int (p4 + (1 : Int32))), (.ref an)] 13)) t := by
    intro t kt
    refine pre21 _ ?_
    rw [ql22]
    exact kt
  obtain ⟨T24, X24, hE24, st24⟩ := getF X20 hx hZ hown (host := "") (Or.inl (hw _ (List.mem_of_getElem? (i := 21) rfl))) Via.refl hE20 f7 (g := (mkF m 48 #[.val (.ref a1), .val (.int p2), .val (.int p2), .val (.int p4), .val (.int (p4 + (1 : Int32))), .val (.ref an), .val (.int (1 : Int32)), .val (.int (pn + (1 : Int32))), .unset, .unset, .unset, .unset, .unset] [(.ref a1)])) rfl rfl (hb hby d19_48)
  have hz1 : ¬ ((4 : Int32) < (pn + (1 : Int32))) := own_ge (n := 4) rfl (own_p1 hcn (by omega)) (by omega)
  have hz2 : ((4 : Int32) / (4 : Int32)) < (pn + (1 : Int32)) := own_lt (n := 1) (by decide) (own_p1 hcn (by omega)) (by omega)
  obtain ⟨T25, X25, hE25, st25⟩ := getS2 X24 hx hZ hown (host := "") (Or.inl (hw _ (List.mem_of_getElem? (i := 51) rfl))) Via.refl hE24 f12 (g := (mkF m 53 #[.val (.ref a1), .val (.int p2), .val (.int p2), .val (.int p4), .val (.int (p4 + (1 : Int32))), .val (.ref an), .val (.int (1 : Int32)), .val (.int (pn + (1 : Int32))), .val (.ref av), .unset, .unset, .unset, .unset] [])) rfl (hb hby d19_53)
  obtain ⟨T26, X26, hE26, st26⟩ := getF X25 hx hZ hown (host := "") (Or.inl (hw _ (List.mem_of_getElem? (i := 21) rfl))) Via.refl hE25 f7 (g := (mkF m 57 #[.val (.ref a1), .val (.int p2), .val (.int p2), .val (.int p4), .val (.int (p4 + (1 : Int32))), .val (.ref an), .val (.int (1 : Int32)), .val (.int (pn + (1 : Int32))), .val (.ref av), .unset, .unset, .unset, .unset] [(.ref a1), (.ref ar)])) rfl rfl (hb hby d19_57)
  obtain ⟨cq27, kq27, q27a, q27b, q27c⟩ := isOf hZ hE26 f13
  obtain ⟨_, _, ⟨T27, L27, k27, n27⟩, -, X27, ⟨Lc27, hQ27, l27, y27, z27⟩, st27⟩ := X26.virtualBack hx (y := (⟨"com/example/bitweight/bitweight/chunk/Room", "resized", "(II)I"⟩ : MethodName)) (z := (⟨"com/example/bitweight/bitweight/chunk/Room", "resized", "(II)I"⟩ : MethodName)) hown (mvT hZ (hw _ (List.mem_of_getElem? (i := 104) rfl))) (mvT hZ (hw _ (List.mem_of_getElem? (i := 105) rfl))) (notFace_of_selects (args := #[]) (mvT hZ (hw _ (List.mem_of_getElem? (i := 107) rfl)))) (mvT hZ (hw _ (List.mem_of_getElem? (i := 107) rfl))) (mvT hZ (hw _ (List.mem_of_getElem? (i := 106) rfl))) (by decide) (backOf (W := 0) (rm21 l Z a0 hw [] ar (4 : Int32) (pn + (1 : Int32)) gh5 n0 Z14 hz1 hz2) hZ (hw _ (List.mem_of_getElem? (i := 108) rfl)) (hw _ (List.mem_of_getElem? (i := 57) rfl)) (by decide) (by decide)) q27a q27c (g := (mkF m 63 #[.val (.ref a1), .val (.int p2), .val (.int p2), .val (.int p4), .val (.int (p4 + (1 : Int32))), .val (.ref an), .val (.int (1 : Int32)), .val (.int (pn + (1 : Int32))), .val (.ref av), .unset, .unset, .unset, .unset] [(.int (pn + (1 : Int32))), (.int (4 : Int32)), (.ref ar)])) rfl (by rw [hml]; rfl) (Steps.refl _) (argsL := [(.int (4 : Int32)), (.int (pn + (1 : Int32)))]) (rest := []) (lenOf pd_0 rfl) rfl (by show 2 * 0 + _ ≤ _; exact Nat.le_of_eq rfl) (hb hby d19_63) (fun _ _ => ⟨rfl, hE26, (by decide : 0 + 0 ≤ _), (by decide : 0 + 0 ≤ _)⟩)
  dsimp only [Pt.U, Pt.locs, Pt.cells, Pt.slots] at X27 l27 y27 z27 st27 hQ27
  subst l27 y27 z27
  obtain ⟨rfl, N27q, hE27⟩ := hQ27
  have N27 := Fr.app N15 N27q
  obtain ⟨T28, X28, hE28, st28⟩ := getF X27 hx hZ hown (host := "") (Or.inl (hw _ (List.mem_of_getElem? (i := 21) rfl))) Via.refl hE27 f7 (g := (mkF m 71 #[.val (.ref a1), .val (.int p2), .val (.int p2), .val (.int p4), .val (.int (p4 + (1 : Int32))), .val (.ref an), .val (.int (1 : Int32)), .val (.int (pn + (1 : Int32))), .val (.ref av), .val (.int (4 : Int32)), .unset, .unset, .unset] [(.ref a1), (.int (4 : Int32))])) rfl rfl (hb hby d19_71)
  obtain ⟨T29, X29, hE29, st29⟩ := getF X28 hx hZ hown (host := "") (Or.inl (hw _ (List.mem_of_getElem? (i := 21) rfl))) Via.refl hE28 f7 (g := (mkF m 97 #[.val (.ref a1), .val (.int p2), .val (.int p2), .val (.int p4), .val (.int (p4 + (1 : Int32))), .val (.ref an), .val (.int (1 : Int32)), .val (.int (pn + (1 : Int32))), .val (.ref av), .val (.int (4 : Int32)), .unset, .unset, .unset] [(.ref a1)])) rfl rfl (hb hby d19_97)
  obtain ⟨T30, X30, hE30, st30⟩ := getF X29 hx hZ hown (host := "") (Or.inl (hw _ (List.mem_of_getElem? (i := 23) rfl))) Via.refl hE29 f8 (g := (mkF m 108 #[.val (.ref a1), .val (.int p2), .val (.int p2), .val (.int p4), .val (.int (p4 + (1 : Int32))), .val (.ref an), .val (.int (1 : Int32)), .val (.int (pn + (1 : Int32))), .val (.ref av), .val (.int (4 : Int32)), .unset, .unset, .unset] [(.ref a1), (.int (p2 + (1 : Int32))), (.ref av), (.int p2), (.ref av)])) rfl rfl (hb hby d19_108)
  obtain ⟨T31, gh31, L31, X31, hE31, N31, K31, V31, st31⟩ := owCp X30 hx hZ hown (hw _ (List.mem_of_getElem? (i := 109) rfl)) (hw _ (List.mem_of_getElem? (i := 85) rfl)) (hw _ (List.mem_of_getElem? (i := 83) rfl)) (hw _ (List.mem_of_getElem? (i := 84) rfl)) hE30 rfl f10 f10 (own_fit ok.1) (own_fit ok.1) (sp := p2) (dp := (p2 + (1 : Int32))) (nn := (pn - p2)) (ks := ki) (kd := (ki + 1)) (kn := (cn - ki)) h_ki (own_p1 h_ki (by omega)) (own_df hcn h_ki hki) (by omega) (by omega) (by decide) (by decide) N27 g_av (g := (mkF m 113 #[.val (.ref a1), .val (.int p2), .val (.int p2), .val (.int p4), .val (.int (p4 + (1 : Int32))), .val (.ref an), .val (.int (1 : Int32)), .val (.int (pn + (1 : Int32))), .val (.ref av), .val (.int (4 : Int32)), .unset, .unset, .unset] [(.int (pn - p2)), (.int (p2 + (1 : Int32))), (.ref av), (.int p2), (.ref av)])) rfl (by rw [hml]; rfl) rfl (hb hby d19_113) (by decide) (W := 0) (by show 2 * 0 + _ ≤ _; exact Nat.le_of_eq rfl) (by decide)
  have f32 := f6.keep K31
  have f33 := f7.keep K31 (ninS n1v nin0)
  have f34 := f8.keep K31 (ninS n1v nin0)
  have f35 := Fw5.keep K31 (ninS n1v nin0)
  have f37 := f11.keep K31 (ninS (Ne.symm nvn) nin0)
  have f39 := f13.keep K31
  have Z40 := Nat.le_trans Z14 K31.1
  have K41 := K16.trans K31 (allS (Or.inl (List.mem_of_getElem? (i := 1) rfl)) all0)
  obtain ⟨T42, gh42, X42, hE42, W42, V42, st42⟩ := owStC X31 hx hZ hE31 V31 (k := ki) (j := p2) h_ki (by omega) (g := (mkF m 166 #[.val (.ref a1), .val (.int p2), .val (.int p2), .val (.int p4), .val (.int (p4 + (1 : Int32))), .val (.ref an), .val (.int (1 : Int32)), .val (.int (pn + (1 : Int32))), .val (.ref av), .val (.int (4 : Int32)), .val (.int p4), .val (.int (p2 + (1 : Int32))), .val (.int (0 : Int32))] [(.int (p4.toUInt32.toUInt16.toUInt32.toInt32)), (.int p2), (.ref av)])) rfl rfl (hb hby d19_166)
  have f43 := f32.wr W42
  have f44 := f33.other W42 (Or.inl n1v)
  have f45 := f34.other W42 (Or.inl n1v)
  have f46 := f35.other W42 (Or.inl n1v)
  have f47 := f37.other W42 (Ne.symm nvn)
  have f48 := f39.wr W42
  have Z50 := Nat.le_trans Z40 (Keep.of_wr W42).1
  have N51 := Fr.snoc X42 N31 g_av
  have K52 := K41.wr W42 (Or.inl (List.mem_of_getElem? (i := 1) rfl))
  rw [own_nc hp4, own_nc hp4] at V42
  have Vin : owAI Z gh42 av .char 4 (own_ins fv ki cn p4) := V42
  obtain ⟨T53, gh53, X53, hE53, W53, st53⟩ := putF X42 hx hZ hown (host := "") (Or.inl (hw _ (List.mem_of_getElem? (i := 21) rfl))) Via.refl hE42 f44 f43 (Or.inl (hw _ (List.mem_of_getElem? (i := 22) rfl))) (hw _ (List.mem_of_getElem? (i := 3) rfl)) (ty := (.array .char)) (by decide) rfl rfl (g := (mkF m 176 #[.val (.ref a1), .val (.int p2), .val (.int p2), .val (.int p4), .val (.int (p4 + (1 : Int32))), .val (.ref an), .val (.int (1 : Int32)), .val (.int (pn + (1 : Int32))), .val (.ref av), .val (.int (4 : Int32)), .val (.int (p4 + (1 : Int32))), .val (.int (p2 + (1 : Int32))), .val (.int (0 : Int32))] [(.ref av), (.ref a1)])) rfl rfl (hb hby d19_176)
  have Fw53 := f44.same W53
  have f54 := f43.wr W53
  have f56 := f45.other W53 (Or.inr (slot_ne (Or.inl (hw _ (List.mem_of_getElem? (i := 24) rfl))) (Or.inl (hw _ (List.mem_of_getElem? (i := 22) rfl))) (by decide) (t := .int) (t' := (.array .char)) (by decide) (by decide)))
  have f57 := f46.other W53 (Or.inr (slot_ne (Or.inl (hw _ (List.mem_of_getElem? (i := 26) rfl))) (Or.inl (hw _ (List.mem_of_getElem? (i := 22) rfl))) (by decide) (t := .int) (t' := (.array .char)) (by decide) (by decide)))
  have f58 := f47.other W53 (Ne.symm n1n)
  have f59 := f48.wr W53
  have f60 := Vin.other W53 (Ne.symm n1v)
  have Z61 := Nat.le_trans Z50 (Keep.of_wr W53).1
  have N62 := Fr.snoc X53 N51 g_a1
  have K63 := K52.wr W53 (Or.inl (List.mem_of_getElem? (i := 0) rfl))
  obtain ⟨T64, gh64, X64, hE64, W64, st64⟩ := putF X53 hx hZ hown (host := "") (Or.inl (hw _ (List.mem_of_getElem? (i := 23) rfl))) Via.refl hE53 f56 f54 (Or.inl (hw _ (List.mem_of_getElem? (i := 24) rfl))) (hw _ (List.mem_of_getElem? (i := 3) rfl)) (ty := .int) (by decide) rfl rfl (g := (mkF m 182 #[.val (.ref a1), .val (.int p2), .val (.int p2), .val (.int p4), .val (.int (p4 + (1 : Int32))), .val (.ref an), .val (.int (1 : Int32)), .val (.int (pn + (1 : Int32))), .val (.ref av), .val (.int (4 : Int32)), .val (.int (p4 + (1 : Int32))), .val (.int (p2 + (1 : Int32))), .val (.int (0 : Int32))] [(.int (pn + (1 : Int32))), (.ref a1)])) rfl rfl (hb hby d19_182)
  have Fw64 := f56.same W64
  have f65 := f54.wr W64
  have f66 := Fw53.other W64 (Or.inr (slot_ne (Or.inl (hw _ (List.mem_of_getElem? (i := 22) rfl))) (Or.inl (hw _ (List.mem_of_getElem? (i := 24) rfl))) (by decide) (t := (.array .char)) (t' := .int) (by decide) (by decide)))
  have f68 := f57.other W64 (Or.inr (slot_ne (Or.inl (hw _ (List.mem_of_getElem? (i := 26) rfl))) (Or.inl (hw _ (List.mem_of_getElem? (i := 24) rfl))) (by decide) (t := .int) (t' := .int) (by decide) (by decide)))
  have f69 := f58.other W64 (Ne.symm n1n)
  have f70 := f59.wr W64
  have f71 := f60.other W64 (Ne.symm n1v)
  have Z72 := Nat.le_trans Z61 (Keep.of_wr W64).1
  have N73 := Fr.snoc X64 N62 g_a1
  have K74 := K63.wr W64 (Or.inl (List.mem_of_getElem? (i := 0) rfl))
  obtain ⟨T75, X75, hE75, st75⟩ := getF X64 hx hZ hown (host := "") (Or.inl (hw _ (List.mem_of_getElem? (i := 25) rfl))) Via.refl hE64 f68 (g := (mkF m 187 #[.val (.ref a1), .val (.int p2), .val (.int p2), .val (.int p4), .val (.int (p4 + (1 : Int32))), .val (.ref an), .val (.int (1 : Int32)), .val (.int (pn + (1 : Int32))), .val (.ref av), .val (.int (4 : Int32)), .val (.int (p4 + (1 : Int32))), .val (.int (p2 + (1 : Int32))), .val (.int (0 : Int32))] [(.ref a1), (.ref a1)])) rfl rfl (hb hby d19_187)
  obtain ⟨T76, X76, hE76, st76⟩ := getF X75 hx hZ hown (host := "") (Or.inl (hw _ (List.mem_of_getElem? (i := 23) rfl))) Via.refl hE75 Fw64 (g := (mkF m 199 #[.val (.ref a1), .val (.int p2), .val (.int p2), .val (.int p4), .val (.int (p4 + (1 : Int32))), .val (.ref an), .val (.int (1 : Int32)), .val (.int (pn + (1 : Int32))), .val (.ref av), .val (.int (4 : Int32)), .val (.int (p4 + (1 : Int32))), .val (.int (p2 + (1 : Int32))), .val (.int (0 : Int32))] [(.ref a1), (.int ((p2 + (1 : Int32)) + (1 : Int32))), (.int p2), (.ref a1), (.int (ur - r4)), (.ref a1)])) rfl rfl (hb hby d19_199)
  obtain ⟨_, _, ⟨T77, L77, k77, n77⟩, -, X77, ⟨Lc77, hQ77, l77, y77, z77⟩, st77⟩ := Jvm.LawKit.callS X76 hx (y := (⟨"java/lang/Math", "min", "(II)I"⟩ : MethodName)) hown (mvT hZ (hw _ (List.mem_of_getElem? (i := 99) rfl))) (mvT hZ (hw _ (List.mem_of_getElem? (i := 74) rfl))) (mvT hZ (hw _ (List.mem_of_getElem? (i := 69) rfl))) (mvT hZ (hw _ (List.mem_of_getElem? (i := 75) rfl))) (by decide) (backOf (W := 4) (rm14 l Z a0 hw [] ((p2 + (1 : Int32)) + (1 : Int32)) (pn + (1 : Int32)) gh64 n0 Z72) hZ (hw _ (List.mem_of_getElem? (i := 75) rfl)) (hw _ (List.mem_of_getElem? (i := 69) rfl)) (by decide) (by decide)) (g := (mkF m 202 #[.val (.ref a1), .val (.int p2), .val (.int p2), .val (.int p4), .val (.int (p4 + (1 : Int32))), .val (.ref an), .val (.int (1 : Int32)), .val (.int (pn + (1 : Int32))), .val (.ref av), .val (.int (4 : Int32)), .val (.int (p4 + (1 : Int32))), .val (.int (p2 + (1 : Int32))), .val (.int (0 : Int32))] [(.int (pn + (1 : Int32))), (.int ((p2 + (1 : Int32)) + (1 : Int32))), (.int p2), (.ref a1), (.int (ur - r4)), (.ref a1)])) rfl (by rw [hml]; rfl) (argsL := [(.int ((p2 + (1 : Int32)) + (1 : Int32))), (.int (pn + (1 : Int32)))]) (rest := [(.int p2), (.ref a1), (.int (ur - r4)), (.ref a1)]) (lenOf pd_0 rfl) rfl (by show 2 * 0 + _ ≤ _; exact Nat.le_of_eq rfl) (hb hby d19_202) (fun _ _ => ⟨rfl, hE76, (by decide : 0 + 0 ≤ _), (by decide : 0 + 0 ≤ _)⟩)
  dsimp only [Pt.U, Pt.locs, Pt.cells, Pt.slots] at X77 l77 y77 z77 st77 hQ77
  subst l77 y77 z77
  obtain ⟨rfl, N77q, hE77⟩ := hQ77
  have N77 := Fr.app N73 N77q
  obtain ⟨cq78, q78, q78'⟩ := f65.cell
  obtain ⟨_, _, ⟨T78, L78, k78, n78⟩, -, X78, ⟨Lc78, hQ78, l78, y78, z78⟩, st78⟩ := X77.privateBack hx (y := (⟨"com/example/bitweight/bitweight/chunk/ArrayChunk", "runStarts", "(II)I"⟩ : MethodName)) hown (mvT hZ (hw _ (List.mem_of_getElem? (i := 100) rfl))) (mvT hZ (hw _ (List.mem_of_getElem? (i := 101) rfl))) (owSel (mvT hZ (hw _ (List.mem_of_getElem? (i := 3) rfl))) (Cond.privateMethod_at (mvP hZ (hw _ (List.mem_of_getElem? (i := 102) rfl)) (args := #[]))) (mvT hZ (hw _ (List.mem_of_getElem? (i := 101) rfl))) (by decide)) (Cond.privateMethod_at (mvP hZ (hw _ (List.mem_of_getElem? (i := 102) rfl)) (args := #[]))) (mvT hZ (hw _ (List.mem_of_getElem? (i := 103) rfl))) (by decide) (backOf (W := 2) (rm20 l Z a0 hw [] a1 p2 (fn14 ((p2 + (1 : Int32)) + (1 : Int32)) (pn + (1 : Int32))) av (own_ins fv ki cn p4) ki gh64 n0 Z72 f66 f71 h_ki (own_mn4 _ _ (by rw [own_p1 hcn (by omega)]; omega))) hZ (hw _ (List.mem_of_getElem? (i := 103) rfl)) (hw _ (List.mem_of_getElem? (i := 4) rfl)) (by decide) (by decide)) (g := (mkF m 205 #[.val (.ref a1), .val (.int p2), .val (.int p2), .val (.int p4), .val (.int (p4 + (1 : Int32))), .val (.ref an), .val (.int (1 : Int32)), .val (.int (pn + (1 : Int32))), .val (.ref av), .val (.int (4 : Int32)), .val (.int (p4 + (1 : Int32))), .val (.int (p2 + (1 : Int32))), .val (.int (0 : Int32))] [(.int (fn14 ((p2 + (1 : Int32)) + (1 : Int32)) (pn + (1 : Int32)))), (.int p2), (.ref a1), (.int (ur - r4)), (.ref a1)])) rfl (by rw [hml]; rfl) (Steps.refl _) (a := a1) (by rw [hE77]; exact q78) q78' (argsL := [(.int p2), (.int (fn14 ((p2 + (1 : Int32)) + (1 : Int32)) (pn + (1 : Int32))))]) (rest := [(.int (ur - r4)), (.ref a1)]) (lenOf pd_0 rfl) rfl (by show 2 * 0 + _ ≤ _; exact Nat.le_of_eq rfl) (hb hby d19_205) (fun _ _ => ⟨rfl, hE77, (by decide : 0 + 0 ≤ _), (by decide : 0 + 0 ≤ _)⟩)
  dsimp only [Pt.U, Pt.locs, Pt.cells, Pt.slots] at X78 l78 y78 z78 st78 hQ78
  subst l78 y78 z78
  obtain ⟨r78, rfl, N78q, hE78⟩ := hQ78
  have N78 := Fr.app N77 N78q
  obtain ⟨T79, gh79, X79, hE79, W79, st79⟩ := putF X78 hx hZ hown (host := "") (Or.inl (hw _ (List.mem_of_getElem? (i := 25) rfl))) Via.refl hE78 f68 f65 (Or.inl (hw _ (List.mem_of_getElem? (i := 26) rfl))) (hw _ (List.mem_of_getElem? (i := 3) rfl)) (ty := .int) (by decide) rfl rfl (g := (mkF m 209 #[.val (.ref a1), .val (.int p2), .val (.int p2), .val (.int p4), .val (.int (p4 + (1 : Int32))), .val (.ref an), .val (.int (1 : Int32)), .val (.int (pn + (1 : Int32))), .val (.ref av), .val (.int (4 : Int32)), .val (.int (p4 + (1 : Int32))), .val (.int (p2 + (1 : Int32))), .val (.int (0 : Int32))] [(.int ((ur - r4) + r78)), (.ref a1)])) rfl rfl (hb hby d19_209)
  have Fw79 := f68.same W79
  have f80 := f65.wr W79
  have f81 := f66.other W79 (Or.inr (slot_ne (Or.inl (hw _ (List.mem_of_getElem? (i := 22) rfl))) (Or.inl (hw _ (List.mem_of_getElem? (i := 26) rfl))) (by decide) (t := (.array .char)) (t' := .int) (by decide) (by decide)))
  have f82 := Fw64.other W79 (Or.inr (slot_ne (Or.inl (hw _ (List.mem_of_getElem? (i := 24) rfl))) (Or.inl (hw _ (List.mem_of_getElem? (i := 26) rfl))) (by decide) (t := .int) (t' := .int) (by decide) (by decide)))
  have f84 := f69.other W79 (Ne.symm n1n)
  have f85 := f70.wr W79
  have f86 := f71.other W79 (Ne.symm n1v)
  have Z87 := Nat.le_trans Z72 (Keep.of_wr W79).1
  have N88 := Fr.snoc X79 N78 g_a1
  have K89 := K74.wr W79 (Or.inl (List.mem_of_getElem? (i := 0) rfl))
  have pre90 : ∀ t, Steps p.tables e below (T79.setTop (mkF m 212 #[.val (.ref a1), .val (.int p2), .val (.int p2), .val (.int p4), .val (.int (p4 + (1 : Int32))), .val (.ref an), .val (.int (1 : Int32)), .val (.int (pn + (1 : Int32))), .val (.ref av), .val (.int (4 : Int32)), .val (.int (p4 + (1 : Int32))), .val (.int (p2 + (1 : Int32))), .val (.int (0 : Int32))] [])) t → Steps p.tables e below (s₁.setTop (entryFrame m #[(.ref a1), (.int p2), (.int p2), (.int p4), (.int (p4 + (1 : Int32))), (.ref an)] 13)) t := by
    intro t kt
    refine pre23 _ ?_
    show Steps p.tables e below (T20.setTop (mkF m 45 #[.val (.ref a1), .val (.int p2), .val (.int p2), .val (.int p4), .val (.int (p4 + (1 : Int32))), .val (.ref an), .val (.int (1 : Int32)), .unset, .unset, .unset, .unset, .unset, .unset] [(.int (pn + (1 : Int32)))])) _
    refine XS.istore X20.here hx rfl (hb hby d19_45) rfl (l' := #[.val (.ref a1), .val (.int p2), .val (.int p2), .val (.int p4), .val (.int (p4 + (1 : Int32))), .val (.ref an), .val (.int (1 : Int32)), .val (.int (pn + (1 : Int32))), .unset, .unset, .unset, .unset, .unset]) rfl ?_
    show Steps p.tables e below (T20.setTop (mkF m 47 #[.val (.ref a1), .val (.int p2), .val (.int p2), .val (.int p4), .val (.int (p4 + (1 : Int32))), .val (.ref an), .val (.int (1 : Int32)), .val (.int (pn + (1 : Int32))), .unset, .unset, .unset, .unset, .unset] [])) _
    refine XS.aloadN X20.here hx rfl (hb hby d19_47) rfl rfl ?_
    show Steps p.tables e below (T20.setTop (mkF m 48 #[.val (.ref a1), .val (.int p2), .val (.int p2), .val (.int p4), .val (.int (p4 + (1 : Int32))), .val (.ref an), .val (.int (1 : Int32)), .val (.int (pn + (1 : Int32))), .unset, .unset, .unset, .unset, .unset] [(.ref a1)])) _
    refine st24 _ ?_
    show Steps p.tables e below (T24.setTop (mkF m 51 #[.val (.ref a1), .val (.int p2), .val (.int p2), .val (.int p4), .val (.int (p4 + (1 : Int32))), .val (.ref an), .val (.int (1 : Int32)), .val (.int (pn + (1 : Int32))), .unset, .unset, .unset, .unset, .unset] [(.ref av)])) _
    refine XS.astore X24.here hx rfl (hb hby d19_51) rfl rfl (l' := #[.val (.ref a1), .val (.int p2), .val (.int p2), .val (.int p4), .val (.int (p4 + (1 : Int32))), .val (.ref an), .val (.int (1 : Int32)), .val (.int (pn + (1 : Int32))), .val (.ref av), .unset, .unset, .unset, .unset]) rfl ?_
    show Steps p.tables e below (T24.setTop (mkF m 53 #[.val (.ref a1), .val (.int p2), .val (.int p2), .val (.int p4), .val (.int (p4 + (1 : Int32))), .val (.ref an), .val (.int (1 : Int32)), .val (.int (pn + (1 : Int32))), .val (.ref av), .unset, .unset, .unset, .unset] [])) _
    refine st25 _ ?_
    show Steps p.tables e below (T25.setTop (mkF m 56 #[.val (.ref a1), .val (.int p2), .val (.int p2), .val (.int p4), .val (.int (p4 + (1 : Int32))), .val (.ref an), .val (.int (1 : Int32)), .val (.int (pn + (1 : Int32))), .val (.ref av), .unset, .unset, .unset, .unset] [(.ref ar)])) _
    refine XS.aloadN X25.here hx rfl (hb hby d19_56) rfl rfl ?_
    show Steps p.tables e below (T25.setTop (mkF m 57 #[.val (.ref a1), .val (.int p2), .val (.int p2), .val (.int p4), .val (.int (p4 + (1 : Int32))), .val (.ref an), .val (.int (1 : Int32)), .val (.int (pn + (1 : Int32))), .val (.ref av), .unset, .unset, .unset, .unset] [(.ref a1), (.ref ar)])) _
    refine st26 _ ?_
    show Steps p.tables e below (T26.setTop (mkF m 60 #[.val (.ref a1), .val (.int p2), .val (.int p2), .val (.int p4), .val (.int (p4 + (1 : Int32))), .val (.ref an), .val (.int (1 : Int32)), .val (.int (pn + (1 : Int32))), .val (.ref av), .unset, .unset, .unset, .unset] [(.ref av), (.ref ar)])) _
    refine owLenI X26 hx hZ hE26 f10 (z := (4 : Int32)) rfl (g := (mkF m 60 #[.val (.ref a1), .val (.int p2), .val (.int p2), .val (.int p4), .val (.int (p4 + (1 : Int32))), .val (.ref an), .val (.int (1 : Int32)), .val (.int (pn + (1 : Int32))), .val (.ref av), .unset, .unset, .unset, .unset] [(.ref av), (.ref ar)])) rfl rfl (hb hby d19_60) _ ?_
    show Steps p.tables e below (T26.setTop (mkF m 61 #[.val (.ref a1), .val (.int p2), .val (.int p2), .val (.int p4), .val (.int (p4 + (1 : Int32))), .val (.ref an), .val (.int (1 : Int32)), .val (.int (pn + (1 : Int32))), .val (.ref av), .unset, .unset, .unset, .unset] [(.int (4 : Int32)), (.ref ar)])) _
    refine XS.iload X26.here hx rfl (hb hby d19_61) rfl ?_
    show Steps p.tables e below (T26.setTop (mkF m 63 #[.val (.ref a1), .val (.int p2), .val (.int p2), .val (.int p4), .val (.int (p4 + (1 : Int32))), .val (.ref an), .val (.int (1 : Int32)), .val (.int (pn + (1 : Int32))), .val (.ref av), .unset, .unset, .unset, .unset] [(.int (pn + (1 : Int32))), (.int (4 : Int32)), (.ref ar)])) _
    refine st27.trans ?_
    show Steps p.tables e below (T27.setTop (mkF m 66 #[.val (.ref a1), .val (.int p2), .val (.int p2), .val (.int p4), .val (.int (p4 + (1 : Int32))), .val (.ref an), .val (.int (1 : Int32)), .val (.int (pn + (1 : Int32))), .val (.ref av), .unset, .unset, .unset, .unset] [(.int (4 : Int32))])) _
    refine XS.istore X27.here hx rfl (hb hby d19_66) rfl (l' := #[.val (.ref a1), .val (.int p2), .val (.int p2), .val (.int p4), .val (.int (p4 + (1 : Int32))), .val (.ref an), .val (.int (1 : Int32)), .val (.int (pn + (1 : Int32))), .val (.ref av), .val (.int (4 : Int32)), .unset, .unset, .unset]) rfl ?_
    show Steps p.tables e below (T27.setTop (mkF m 68 #[.val (.ref a1), .val (.int p2), .val (.int p2), .val (.int p4), .val (.int (p4 + (1 : Int32))), .val (.ref an), .val (.int (1 : Int32)), .val (.int (pn + (1 : Int32))), .val (.ref av), .val (.int (4 : Int32)), .unset, .unset, .unset] [])) _
    refine XS.iload X27.here hx rfl (hb hby d19_68) rfl ?_
    show Steps p.tables e below (T27.setTop (mkF m 70 #[.val (.ref a1), .val (.int p2), .val (.int p2), .val (.int p4), .val (.int (p4 + (1 : Int32))), .val (.ref an), .val (.int (1 : Int32)), .val (.int (pn + (1 : Int32))), .val (.ref av), .val (.int (4 : Int32)), .unset, .unset, .unset] [(.int (4 : Int32))])) _
    refine XS.aloadN X27.here hx rfl (hb hby d19_70) rfl rfl ?_
    show Steps p.tables e below (T27.setTop (mkF m 71 #[.val (.ref a1), .val (.int p2), .val (.int p2), .val (.int p4), .val (.int (p4 + (1 : Int32))), .val (.ref an), .val (.int (1 : Int32)), .val (.int (pn + (1 : Int32))), .val (.ref av), .val (.int (4 : Int32)), .unset, .unset, .unset] [(.ref a1), (.int (4 : Int32))])) _
    refine st28 _ ?_
    show Steps p.tables e below (T28.setTop (mkF m 74 #[.val (.ref a1), .val (.int p2), .val (.int p2), .val (.int p4), .val (.int (p4 + (1 : Int32))), .val (.ref an), .val (.int (1 : Int32)), .val (.int (pn + (1 : Int32))), .val (.ref av), .val (.int (4 : Int32)), .unset, .unset, .unset] [(.ref av), (.int (4 : Int32))])) _
    refine owLenI X28 hx hZ hE28 f10 (z := (4 : Int32)) rfl (g := (mkF m 74 #[.val (.ref a1), .val (.int p2), .val (.int p2), .val (.int p4), .val (.int (p4 + (1 : Int32))), .val (.ref an), .val (.int (1 : Int32)), .val (.int (pn + (1 : Int32))), .val (.ref av), .val (.int (4 : Int32)), .unset, .unset, .unset] [(.ref av), (.int (4 : Int32))])) rfl rfl (hb hby d19_74) _ ?_
    show Steps p.tables e below (T28.setTop (mkF m 75 #[.val (.ref a1), .val (.int p2), .val (.int p2), .val (.int p4), .val (.int (p4 + (1 : Int32))), .val (.ref an), .val (.int (1 : Int32)), .val (.int (pn + (1 : Int32))), .val (.ref av), .val (.int (4 : Int32)), .unset, .unset, .unset] [(.int (4 : Int32)), (.int (4 : Int32))])) _
    refine XS.icmpYes X28.here hx rfl (pc0 := 75) (pc' := 96) rfl (hb hby d19_75) rfl (XT.ii_eq_t (by decide)) (by decide) (by decide) ?_
    show Steps p.tables e below (T28.setTop (mkF m 96 #[.val (.ref a1), .val (.int p2), .val (.int p2), .val (.int p4), .val (.int (p4 + (1 : Int32))), .val (.ref an), .val (.int (1 : Int32)), .val (.int (pn + (1 : Int32))), .val (.ref av), .val (.int (4 : Int32)), .unset, .unset, .unset] [])) _
    refine XS.aloadN X28.here hx rfl (hb hby d19_96) rfl rfl ?_
    show Steps p.tables e below (T28.setTop (mkF m 97 #[.val (.ref a1), .val (.int p2), .val (.int p2), .val (.int p4), .val (.int (p4 + (1 : Int32))), .val (.ref an), .val (.int (1 : Int32)), .val (.int (pn + (1 : Int32))), .val (.ref av), .val (.int (4 : Int32)), .unset, .unset, .unset] [(.ref a1)])) _
    refine st29 _ ?_
    show Steps p.tables e below (T29.setTop (mkF m 100 #[.val (.ref a1), .val (.int p2), .val (.int p2), .val (.int p4), .val (.int (p4 + (1 : Int32))), .val (.ref an), .val (.int (1 : Int32)), .val (.int (pn + (1 : Int32))), .val (.ref av), .val (.int (4 : Int32)), .unset, .unset, .unset] [(.ref av)])) _
    refine XS.iloadN X29.here hx rfl (hb hby d19_100) rfl ?_
    show Steps p.tables e below (T29.setTop (mkF m 101 #[.val (.ref a1), .val (.int p2), .val (.int p2), .val (.int p4), .val (.int (p4 + (1 : Int32))), .val (.ref an), .val (.int (1 : Int32)), .val (.int (pn + (1 : Int32))), .val (.ref av), .val (.int (4 : Int32)), .unset, .unset, .unset] [(.int p2), (.ref av)])) _
    refine XS.aload X29.here hx rfl (hb hby d19_101) rfl rfl ?_
    show Steps p.tables e below (T29.setTop (mkF m 103 #[.val (.ref a1), .val (.int p2), .val (.int p2), .val (.int p4), .val (.int (p4 + (1 : Int32))), .val (.ref an), .val (.int (1 : Int32)), .val (.int (pn + (1 : Int32))), .val (.ref av), .val (.int (4 : Int32)), .unset, .unset, .unset] [(.ref av), (.int p2), (.ref av)])) _
    refine XS.iloadN X29.here hx rfl (hb hby d19_103) rfl ?_
    show Steps p.tables e below (T29.setTop (mkF m 104 #[.val (.ref a1), .val (.int p2), .val (.int p2), .val (.int p4), .val (.int (p4 + (1 : Int32))), .val (.ref an), .val (.int (1 : Int32)), .val (.int (pn + (1 : Int32))), .val (.ref av), .val (.int (4 : Int32)), .unset, .unset, .unset] [(.int p2), (.ref av), (.int p2), (.ref av)])) _
    refine XS.iload X29.here hx rfl (hb hby d19_104) rfl ?_
    show Steps p.tables e below (T29.setTop (mkF m 106 #[.val (.ref a1), .val (.int p2), .val (.int p2), .val (.int p4), .val (.int (p4 + (1 : Int32))), .val (.ref an), .val (.int (1 : Int32)), .val (.int (pn + (1 : Int32))), .val (.ref av), .val (.int (4 : Int32)), .unset, .unset, .unset] [(.int (1 : Int32)), (.int p2), (.ref av), (.int p2), (.ref av)])) _
    refine XS.iadd X29.here hx rfl (hb hby d19_106) rfl ?_
    show Steps p.tables e below (T29.setTop (mkF m 107 #[.val (.ref a1), .val (.int p2), .val (.int p2), .val (.int p4), .val (.int (p4 + (1 : Int32))), .val (.ref an), .val (.int (1 : Int32)), .val (.int (pn + (1 : Int32))), .val (.ref av), .val (.int (4 : Int32)), .unset, .unset, .unset] [(.int (p2 + (1 : Int32))), (.ref av), (.int p2), (.ref av)])) _
    refine XS.aloadN X29.here hx rfl (hb hby d19_107) rfl rfl ?_
    show Steps p.tables e below (T29.setTop (mkF m 108 #[.val (.ref a1), .val (.int p2), .val (.int p2), .val (.int p4), .val (.int (p4 + (1 : Int32))), .val (.ref an), .val (.int (1 : Int32)), .val (.int (pn + (1 : Int32))), .val (.ref av), .val (.int (4 : Int32)), .unset, .unset, .unset] [(.ref a1), (.int (p2 + (1 : Int32))), (.ref av), (.int p2), (.ref av)])) _
    refine st30 _ ?_
    show Steps p.tables e below (T30.setTop (mkF m 111 #[.val (.ref a1), .val (.int p2), .val (.int p2), .val (.int p4), .val (.int (p4 + (1 : Int32))), .val (.ref an), .val (.int (1 : Int32)), .val (.int (pn + (1 : Int32))), .val (.ref av), .val (.int (4 : Int32)), .unset, .unset, .unset] [(.int pn), (.int (p2 + (1 : Int32))), (.ref av), (.int p2), (.ref av)])) _
    refine XS.iloadN X30.here hx rfl (hb hby d19_111) rfl ?_
    show Steps p.tables e below (T30.setTop (mkF m 112 #[.val (.ref a1), .val (.int p2), .val (.int p2), .val (.int p4), .val (.int (p4 + (1 : Int32))), .val (.ref an), .val (.int (1 : Int32)), .val (.int (pn + (1 : Int32))), .val (.ref av), .val (.int (4 : Int32)), .unset, .unset, .unset] [(.int p2), (.int pn), (.int (p2 + (1 : Int32))), (.ref av), (.int p2), (.ref av)])) _
    refine XS.isub X30.here hx rfl (hb hby d19_112) rfl ?_
    show Steps p.tables e below (T30.setTop (mkF m 113 #[.val (.ref a1), .val (.int p2), .val (.int p2), .val (.int p4), .val (.int (p4 + (1 : Int32))), .val (.ref an), .val (.int (1 : Int32)), .val (.int (pn + (1 : Int32))), .val (.ref av), .val (.int (4 : Int32)), .unset, .unset, .unset] [(.int (pn - p2)), (.int (p2 + (1 : Int32))), (.ref av), (.int p2), (.ref av)])) _
    refine st31 _ ?_
    show Steps p.tables e below (T31.setTop (mkF m 116 #[.val (.ref a1), .val (.int p2), .val (.int p2), .val (.int p4), .val (.int (p4 + (1 : Int32))), .val (.ref an), .val (.int (1 : Int32)), .val (.int (pn + (1 : Int32))), .val (.ref av), .val (.int (4 : Int32)), .unset, .unset, .unset] [])) _
    refine XS.iloadN X31.here hx rfl (hb hby d19_116) rfl ?_
    show Steps p.tables e below (T31.setTop (mkF m 117 #[.val (.ref a1), .val (.int p2), .val (.int p2), .val (.int p4), .val (.int (p4 + (1 : Int32))), .val (.ref an), .val (.int (1 : Int32)), .val (.int (pn + (1 : Int32))), .val (.ref av), .val (.int (4 : Int32)), .unset, .unset, .unset] [(.int p4)])) _
    refine XS.istore X31.here hx rfl (hb hby d19_117) rfl (l' := #[.val (.ref a1), .val (.int p2), .val (.int p2), .val (.int p4), .val (.int (p4 + (1 : Int32))), .val (.ref an), .val (.int (1 : Int32)), .val (.int (pn + (1 : Int32))), .val (.ref av), .val (.int (4 : Int32)), .val (.int p4), .unset, .unset]) rfl ?_
    show Steps p.tables e below (T31.setTop (mkF m 119 #[.val (.ref a1), .val (.int p2), .val (.int p2), .val (.int p4), .val (.int (p4 + (1 : Int32))), .val (.ref an), .val (.int (1 : Int32)), .val (.int (pn + (1 : Int32))), .val (.ref av), .val (.int (4 : Int32)), .val (.int p4), .unset, .unset] [])) _
    refine XS.iloadN X31.here hx rfl (hb hby d19_119) rfl ?_
    show Steps p.tables e below (T31.setTop (mkF m 120 #[.val (.ref a1), .val (.int p2), .val (.int p2), .val (.int p4), .val (.int (p4 + (1 : Int32))), .val (.ref an), .val (.int (1 : Int32)), .val (.int (pn + (1 : Int32))), .val (.ref av), .val (.int (4 : Int32)), .val (.int p4), .unset, .unset] [(.int p2)])) _
    refine XS.istore X31.here hx rfl (hb hby d19_120) rfl (l' := #[.val (.ref a1), .val (.int p2), .val (.int p2), .val (.int p4), .val (.int (p4 + (1 : Int32))), .val (.ref an), .val (.int (1 : Int32)), .val (.int (pn + (1 : Int32))), .val (.ref av), .val (.int (4 : Int32)), .val (.int p4), .val (.int p2), .unset]) rfl ?_
    show Steps p.tables e below (T31.setTop (mkF m 122 #[.val (.ref a1), .val (.int p2), .val (.int p2), .val (.int p4), .val (.int (p4 + (1 : Int32))), .val (.ref an), .val (.int (1 : Int32)), .val (.int (pn + (1 : Int32))), .val (.ref av), .val (.int (4 : Int32)), .val (.int p4), .val (.int p2), .unset] [])) _
    refine XS.iconst X31.here hx rfl (hb hby d19_122) ?_
    show Steps p.tables e below (T31.setTop (mkF m 123 #[.val (.ref a1), .val (.int p2), .val (.int p2), .val (.int p4), .val (.int (p4 + (1 : Int32))), .val (.ref an), .val (.int (1 : Int32)), .val (.int (pn + (1 : Int32))), .val (.ref av), .val (.int (4 : Int32)), .val (.int p4), .val (.int p2), .unset] [(.int (0 : Int32))])) _
    refine XS.istore X31.here hx rfl (hb hby d19_123) rfl (l' := #[.val (.ref a1), .val (.int p2), .val (.int p2), .val (.int p4), .val (.int (p4 + (1 : Int32))), .val (.ref an), .val (.int (1 : Int32)), .val (.int (pn + (1 : Int32))), .val (.ref av), .val (.int (4 : Int32)), .val (.int p4), .val (.int p2), .val (.int (0 : Int32))]) rfl ?_
    show Steps p.tables e below (T31.setTop (mkF m 125 #[.val (.ref a1), .val (.int p2), .val (.int p2), .val (.int p4), .val (.int (p4 + (1 : Int32))), .val (.ref an), .val (.int (1 : Int32)), .val (.int (pn + (1 : Int32))), .val (.ref av), .val (.int (4 : Int32)), .val (.int p4), .val (.int p2), .val (.int (0 : Int32))] [])) _
    refine XS.iload X31.here hx rfl (hb hby d19_125) rfl ?_
    show Steps p.tables e below (T31.setTop (mkF m 127 #[.val (.ref a1), .val (.int p2), .val (.int p2), .val (.int p4), .val (.int (p4 + (1 : Int32))), .val (.ref an), .val (.int (1 : Int32)), .val (.int (pn + (1 : Int32))), .val (.ref av), .val (.int (4 : Int32)), .val (.int p4), .val (.int p2), .val (.int (0 : Int32))] [(.int p4)])) _
    refine XS.iload X31.here hx rfl (hb hby d19_127) rfl ?_
    show Steps p.tables e below (T31.setTop (mkF m 129 #[.val (.ref a1), .val (.int p2), .val (.int p2), .val (.int p4), .val (.int (p4 + (1 : Int32))), .val (.ref an), .val (.int (1 : Int32)), .val (.int (pn + (1 : Int32))), .val (.ref av), .val (.int (4 : Int32)), .val (.int p4), .val (.int p2), .val (.int (0 : Int32))] [(.int (p4 + (1 : Int32))), (.int p4)])) _
    refine XS.icmpNo X31.here hx rfl (hb hby d19_129) rfl (XT.ii_ge_f (own_lt1 hp4)) ?_
    show Steps p.tables e below (T31.setTop (mkF m 132 #[.val (.ref a1), .val (.int p2), .val (.int p2), .val (.int p4), .val (.int (p4 + (1 : Int32))), .val (.ref an), .val (.int (1 : Int32)), .val (.int (pn + (1 : Int32))), .val (.ref av), .val (.int (4 : Int32)), .val (.int p4), .val (.int p2), .val (.int (0 : Int32))] [])) _
    refine XS.iload X31.here hx rfl (hb hby d19_132) rfl ?_
    show Steps p.tables e below (T31.setTop (mkF m 134 #[.val (.ref a1), .val (.int p2), .val (.int p2), .val (.int p4), .val (.int (p4 + (1 : Int32))), .val (.ref an), .val (.int (1 : Int32)), .val (.int (pn + (1 : Int32))), .val (.ref av), .val (.int (4 : Int32)), .val (.int p4), .val (.int p2), .val (.int (0 : Int32))] [(.int (0 : Int32))])) _
    refine XS.aload X31.here hx rfl (hb hby d19_134) rfl rfl ?_
    show Steps p.tables e below (T31.setTop (mkF m 136 #[.val (.ref a1), .val (.int p2), .val (.int p2), .val (.int p4), .val (.int (p4 + (1 : Int32))), .val (.ref an), .val (.int (1 : Int32)), .val (.int (pn + (1 : Int32))), .val (.ref av), .val (.int (4 : Int32)), .val (.int p4), .val (.int p2), .val (.int (0 : Int32))] [(.ref an), (.int (0 : Int32))])) _
    refine owLenI X31 hx hZ hE31 f37 (z := (0 : Int32)) rfl (g := (mkF m 136 #[.val (.ref a1), .val (.int p2), .val (.int p2), .val (.int p4), .val (.int (p4 + (1 : Int32))), .val (.ref an), .val (.int (1 : Int32)), .val (.int (pn + (1 : Int32))), .val (.ref av), .val (.int (4 : Int32)), .val (.int p4), .val (.int p2), .val (.int (0 : Int32))] [(.ref an), (.int (0 : Int32))])) rfl rfl (hb hby d19_136) _ ?_
    show Steps p.tables e below (T31.setTop (mkF m 137 #[.val (.ref a1), .val (.int p2), .val (.int p2), .val (.int p4), .val (.int (p4 + (1 : Int32))), .val (.ref an), .val (.int (1 : Int32)), .val (.int (pn + (1 : Int32))), .val (.ref av), .val (.int (4 : Int32)), .val (.int p4), .val (.int p2), .val (.int (0 : Int32))] [(.int (0 : Int32)), (.int (0 : Int32))])) _
    refine XS.icmpYes X31.here hx rfl (pc0 := 137) (pc' := 156) rfl (hb hby d19_137) rfl (XT.ii_ge_t (by decide)) (by decide) (by decide) ?_
    show Steps p.tables e below (T31.setTop (mkF m 156 #[.val (.ref a1), .val (.int p2), .val (.int p2), .val (.int p4), .val (.int (p4 + (1 : Int32))), .val (.ref an), .val (.int (1 : Int32)), .val (.int (pn + (1 : Int32))), .val (.ref av), .val (.int (4 : Int32)), .val (.int p4), .val (.int p2), .val (.int (0 : Int32))] [])) _
    refine XS.aload X31.here hx rfl (hb hby d19_156) rfl rfl ?_
    show Steps p.tables e below (T31.setTop (mkF m 158 #[.val (.ref a1), .val (.int p2), .val (.int p2), .val (.int p4), .val (.int (p4 + (1 : Int32))), .val (.ref an), .val (.int (1 : Int32)), .val (.int (pn + (1 : Int32))), .val (.ref av), .val (.int (4 : Int32)), .val (.int p4), .val (.int p2), .val (.int (0 : Int32))] [(.ref av)])) _
    refine XS.iload X31.here hx rfl (hb hby d19_158) rfl ?_
    show Steps p.tables e below (T31.setTop (mkF m 160 #[.val (.ref a1), .val (.int p2), .val (.int p2), .val (.int p4), .val (.int (p4 + (1 : Int32))), .val (.ref an), .val (.int (1 : Int32)), .val (.int (pn + (1 : Int32))), .val (.ref av), .val (.int (4 : Int32)), .val (.int p4), .val (.int p2), .val (.int (0 : Int32))] [(.int p2), (.ref av)])) _
    refine XS.iinc X31.here hx rfl (hb hby d19_160) rfl (l' := #[.val (.ref a1), .val (.int p2), .val (.int p2), .val (.int p4), .val (.int (p4 + (1 : Int32))), .val (.ref an), .val (.int (1 : Int32)), .val (.int (pn + (1 : Int32))), .val (.ref av), .val (.int (4 : Int32)), .val (.int p4), .val (.int (p2 + (1 : Int32))), .val (.int (0 : Int32))]) rfl ?_
    show Steps p.tables e below (T31.setTop (mkF m 163 #[.val (.ref a1), .val (.int p2), .val (.int p2), .val (.int p4), .val (.int (p4 + (1 : Int32))), .val (.ref an), .val (.int (1 : Int32)), .val (.int (pn + (1 : Int32))), .val (.ref av), .val (.int (4 : Int32)), .val (.int p4), .val (.int (p2 + (1 : Int32))), .val (.int (0 : Int32))] [(.int p2), (.ref av)])) _
    refine XS.iload X31.here hx rfl (hb hby d19_163) rfl ?_
    show Steps p.tables e below (T31.setTop (mkF m 165 #[.val (.ref a1), .val (.int p2), .val (.int p2), .val (.int p4), .val (.int (p4 + (1 : Int32))), .val (.ref an), .val (.int (1 : Int32)), .val (.int (pn + (1 : Int32))), .val (.ref av), .val (.int (4 : Int32)), .val (.int p4), .val (.int (p2 + (1 : Int32))), .val (.int (0 : Int32))] [(.int p4), (.int p2), (.ref av)])) _
    refine XS.i2c X31.here hx rfl (hb hby d19_165) rfl ?_
    show Steps p.tables e below (T31.setTop (mkF m 166 #[.val (.ref a1), .val (.int p2), .val (.int p2), .val (.int p4), .val (.int (p4 + (1 : Int32))), .val (.ref an), .val (.int (1 : Int32)), .val (.int (pn + (1 : Int32))), .val (.ref av), .val (.int (4 : Int32)), .val (.int p4), .val (.int (p2 + (1 : Int32))), .val (.int (0 : Int32))] [(.int (p4.toUInt32.toUInt16.toUInt32.toInt32)), (.int p2), (.ref av)])) _
    refine st42 _ ?_
    show Steps p.tables e below (T42.setTop (mkF m 167 #[.val (.ref a1), .val (.int p2), .val (.int p2), .val (.int p4), .val (.int (p4 + (1 : Int32))), .val (.ref an), .val (.int (1 : Int32)), .val (.int (pn + (1 : Int32))), .val (.ref av), .val (.int (4 : Int32)), .val (.int p4), .val (.int (p2 + (1 : Int32))), .val (.int (0 : Int32))] [])) _
    refine XS.iinc X42.here hx rfl (hb hby d19_167) rfl (l' := #[.val (.ref a1), .val (.int p2), .val (.int p2), .val (.int p4), .val (.int (p4 + (1 : Int32))), .val (.ref an), .val (.int (1 : Int32)), .val (.int (pn + (1 : Int32))), .val (.ref av), .val (.int (4 : Int32)), .val (.int (p4 + (1 : Int32))), .val (.int (p2 + (1 : Int32))), .val (.int (0 : Int32))]) rfl ?_
    show Steps p.tables e below (T42.setTop (mkF m 170 #[.val (.ref a1), .val (.int p2), .val (.int p2), .val (.int p4), .val (.int (p4 + (1 : Int32))), .val (.ref an), .val (.int (1 : Int32)), .val (.int (pn + (1 : Int32))), .val (.ref av), .val (.int (4 : Int32)), .val (.int (p4 + (1 : Int32))), .val (.int (p2 + (1 : Int32))), .val (.int (0 : Int32))] [])) _
    refine XS.goto X42.here hx rfl (pc0 := 170) (pc' := 125) rfl (hb hby d19_170) (by decide) (by decide) ?_
    show Steps p.tables e below (T42.setTop (mkF m 125 #[.val (.ref a1), .val (.int p2), .val (.int p2), .val (.int p4), .val (.int (p4 + (1 : Int32))), .val (.ref an), .val (.int (1 : Int32)), .val (.int (pn + (1 : Int32))), .val (.ref av), .val (.int (4 : Int32)), .val (.int (p4 + (1 : Int32))), .val (.int (p2 + (1 : Int32))), .val (.int (0 : Int32))] [])) _
    refine XS.iload X42.here hx rfl (hb hby d19_125) rfl ?_
    show Steps p.tables e below (T42.setTop (mkF m 127 #[.val (.ref a1), .val (.int p2), .val (.int p2), .val (.int p4), .val (.int (p4 + (1 : Int32))), .val (.ref an), .val (.int (1 : Int32)), .val (.int (pn + (1 : Int32))), .val (.ref av), .val (.int (4 : Int32)), .val (.int (p4 + (1 : Int32))), .val (.int (p2 + (1 : Int32))), .val (.int (0 : Int32))] [(.int (p4 + (1 : Int32)))])) _
    refine XS.iload X42.here hx rfl (hb hby d19_127) rfl ?_
    show Steps p.tables e below (T42.setTop (mkF m 129 #[.val (.ref a1), .val (.int p2), .val (.int p2), .val (.int p4), .val (.int (p4 + (1 : Int32))), .val (.ref an), .val (.int (1 : Int32)), .val (.int (pn + (1 : Int32))), .val (.ref av), .val (.int (4 : Int32)), .val (.int (p4 + (1 : Int32))), .val (.int (p2 + (1 : Int32))), .val (.int (0 : Int32))] [(.int (p4 + (1 : Int32))), (.int (p4 + (1 : Int32)))])) _
    refine XS.icmpYes X42.here hx rfl (pc0 := 129) (pc' := 173) rfl (hb hby d19_129) rfl (XT.ii_ge_t Int32.lt_irrefl) (by decide) (by decide) ?_
    show Steps p.tables e below (T42.setTop (mkF m 173 #[.val (.ref a1), .val (.int p2), .val (.int p2), .val (.int p4), .val (.int (p4 + (1 : Int32))), .val (.ref an), .val (.int (1 : Int32)), .val (.int (pn + (1 : Int32))), .val (.ref av), .val (.int (4 : Int32)), .val (.int (p4 + (1 : Int32))), .val (.int (p2 + (1 : Int32))), .val (.int (0 : Int32))] [])) _
    refine XS.aloadN X42.here hx rfl (hb hby d19_173) rfl rfl ?_
    show Steps p.tables e below (T42.setTop (mkF m 174 #[.val (.ref a1), .val (.int p2), .val (.int p2), .val (.int p4), .val (.int (p4 + (1 : Int32))), .val (.ref an), .val (.int (1 : Int32)), .val (.int (pn + (1 : Int32))), .val (.ref av), .val (.int (4 : Int32)), .val (.int (p4 + (1 : Int32))), .val (.int (p2 + (1 : Int32))), .val (.int (0 : Int32))] [(.ref a1)])) _
    refine XS.aload X42.here hx rfl (hb hby d19_174) rfl rfl ?_
    show Steps p.tables e below (T42.setTop (mkF m 176 #[.val (.ref a1), .val (.int p2), .val (.int p2), .val (.int p4), .val (.int (p4 + (1 : Int32))), .val (.ref an), .val (.int (1 : Int32)), .val (.int (pn + (1 : Int32))), .val (.ref av), .val (.int (4 : Int32)), .val (.int (p4 + (1 : Int32))), .val (.int (p2 + (1 : Int32))), .val (.int (0 : Int32))] [(.ref av), (.ref a1)])) _
    refine st53 _ ?_
    show Steps p.tables e below (T53.setTop (mkF m 179 #[.val (.ref a1), .val (.int p2), .val (.int p2), .val (.int p4), .val (.int (p4 + (1 : Int32))), .val (.ref an), .val (.int (1 : Int32)), .val (.int (pn + (1 : Int32))), .val (.ref av), .val (.int (4 : Int32)), .val (.int (p4 + (1 : Int32))), .val (.int (p2 + (1 : Int32))), .val (.int (0 : Int32))] [])) _
    refine XS.aloadN X53.here hx rfl (hb hby d19_179) rfl rfl ?_
    show Steps p.tables e below (T53.setTop (mkF m 180 #[.val (.ref a1), .val (.int p2), .val (.int p2), .val (.int p4), .val (.int (p4 + (1 : Int32))), .val (.ref an), .val (.int (1 : Int32)), .val (.int (pn + (1 : Int32))), .val (.ref av), .val (.int (4 : Int32)), .val (.int (p4 + (1 : Int32))), .val (.int (p2 + (1 : Int32))), .val (.int (0 : Int32))] [(.ref a1)])) _
    refine XS.iload X53.here hx rfl (hb hby d19_180) rfl ?_
    show Steps p.tables e below (T53.setTop (mkF m 182 #[.val (.ref a1), .val (.int p2), .val (.int p2), .val (.int p4), .val (.int (p4 + (1 : Int32))), .val (.ref an), .val (.int (1 : Int32)), .val (.int (pn + (1 : Int32))), .val (.ref av), .val (.int (4 : Int32)), .val (.int (p4 + (1 : Int32))), .val (.int (p2 + (1 : Int32))), .val (.int (0 : Int32))] [(.int (pn + (1 : Int32))), (.ref a1)])) _
    refine st64 _ ?_
    show Steps p.tables e below (T64.setTop (mkF m 185 #[.val (.ref a1), .val (.int p2), .val (.int p2), .val (.int p4), .val (.int (p4 + (1 : Int32))), .val (.ref an), .val (.int (1 : Int32)), .val (.int (pn + (1 : Int32))), .val (.ref av), .val (.int (4 : Int32)), .val (.int (p4 + (1 : Int32))), .val (.int (p2 + (1 : Int32))), .val (.int (0 : Int32))] [])) _
    refine XS.aloadN X64.here hx rfl (hb hby d19_185) rfl rfl ?_
    show Steps p.tables e below (T64.setTop (mkF m 186 #[.val (.ref a1), .val (.int p2), .val (.int p2), .val (.int p4), .val (.int (p4 + (1 : Int32))), .val (.ref an), .val (.int (1 : Int32)), .val (.int (pn + (1 : Int32))), .val (.ref av), .val (.int (4 : Int32)), .val (.int (p4 + (1 : Int32))), .val (.int (p2 + (1 : Int32))), .val (.int (0 : Int32))] [(.ref a1)])) _
    refine XS.dup X64.here hx rfl (hb hby d19_186) rfl rfl ?_
    show Steps p.tables e below (T64.setTop (mkF m 187 #[.val (.ref a1), .val (.int p2), .val (.int p2), .val (.int p4), .val (.int (p4 + (1 : Int32))), .val (.ref an), .val (.int (1 : Int32)), .val (.int (pn + (1 : Int32))), .val (.ref av), .val (.int (4 : Int32)), .val (.int (p4 + (1 : Int32))), .val (.int (p2 + (1 : Int32))), .val (.int (0 : Int32))] [(.ref a1), (.ref a1)])) _
    refine st75 _ ?_
    show Steps p.tables e below (T75.setTop (mkF m 190 #[.val (.ref a1), .val (.int p2), .val (.int p2), .val (.int p4), .val (.int (p4 + (1 : Int32))), .val (.ref an), .val (.int (1 : Int32)), .val (.int (pn + (1 : Int32))), .val (.ref av), .val (.int (4 : Int32)), .val (.int (p4 + (1 : Int32))), .val (.int (p2 + (1 : Int32))), .val (.int (0 : Int32))] [(.int (ur - r4)), (.ref a1)])) _
    refine XS.aloadN X75.here hx rfl (hb hby d19_190) rfl rfl ?_
    show Steps p.tables e below (T75.setTop (mkF m 191 #[.val (.ref a1), .val (.int p2), .val (.int p2), .val (.int p4), .val (.int (p4 + (1 : Int32))), .val (.ref an), .val (.int (1 : Int32)), .val (.int (pn + (1 : Int32))), .val (.ref av), .val (.int (4 : Int32)), .val (.int (p4 + (1 : Int32))), .val (.int (p2 + (1 : Int32))), .val (.int (0 : Int32))] [(.ref a1), (.int (ur - r4)), (.ref a1)])) _
    refine XS.iloadN X75.here hx rfl (hb hby d19_191) rfl ?_
    show Steps p.tables e below (T75.setTop (mkF m 192 #[.val (.ref a1), .val (.int p2), .val (.int p2), .val (.int p4), .val (.int (p4 + (1 : Int32))), .val (.ref an), .val (.int (1 : Int32)), .val (.int (pn + (1 : Int32))), .val (.ref av), .val (.int (4 : Int32)), .val (.int (p4 + (1 : Int32))), .val (.int (p2 + (1 : Int32))), .val (.int (0 : Int32))] [(.int p2), (.ref a1), (.int (ur - r4)), (.ref a1)])) _
    refine XS.iloadN X75.here hx rfl (hb hby d19_192) rfl ?_
    show Steps p.tables e below (T75.setTop (mkF m 193 #[.val (.ref a1), .val (.int p2), .val (.int p2), .val (.int p4), .val (.int (p4 + (1 : Int32))), .val (.ref an), .val (.int (1 : Int32)), .val (.int (pn + (1 : Int32))), .val (.ref av), .val (.int (4 : Int32)), .val (.int (p4 + (1 : Int32))), .val (.int (p2 + (1 : Int32))), .val (.int (0 : Int32))] [(.int p2), (.int p2), (.ref a1), (.int (ur - r4)), (.ref a1)])) _
    refine XS.iload X75.here hx rfl (hb hby d19_193) rfl ?_
    show Steps p.tables e below (T75.setTop (mkF m 195 #[.val (.ref a1), .val (.int p2), .val (.int p2), .val (.int p4), .val (.int (p4 + (1 : Int32))), .val (.ref an), .val (.int (1 : Int32)), .val (.int (pn + (1 : Int32))), .val (.ref av), .val (.int (4 : Int32)), .val (.int (p4 + (1 : Int32))), .val (.int (p2 + (1 : Int32))), .val (.int (0 : Int32))] [(.int (1 : Int32)), (.int p2), (.int p2), (.ref a1), (.int (ur - r4)), (.ref a1)])) _
    refine XS.iadd X75.here hx rfl (hb hby d19_195) rfl ?_
    show Steps p.tables e below (T75.setTop (mkF m 196 #[.val (.ref a1), .val (.int p2), .val (.int p2), .val (.int p4), .val (.int (p4 + (1 : Int32))), .val (.ref an), .val (.int (1 : Int32)), .val (.int (pn + (1 : Int32))), .val (.ref av), .val (.int (4 : Int32)), .val (.int (p4 + (1 : Int32))), .val (.int (p2 + (1 : Int32))), .val (.int (0 : Int32))] [(.int (p2 + (1 : Int32))), (.int p2), (.ref a1), (.int (ur - r4)), (.ref a1)])) _
    refine XS.iconst X75.here hx rfl (hb hby d19_196) ?_
    show Steps p.tables e below (T75.setTop (mkF m 197 #[.val (.ref a1), .val (.int p2), .val (.int p2), .val (.int p4), .val (.int (p4 + (1 : Int32))), .val (.ref an), .val (.int (1 : Int32)), .val (.int (pn + (1 : Int32))), .val (.ref av), .val (.int (4 : Int32)), .val (.int (p4 + (1 : Int32))), .val (.int (p2 + (1 : Int32))), .val (.int (0 : Int32))] [(.int (1 : Int32)), (.int (p2 + (1 : Int32))), (.int p2), (.ref a1), (.int (ur - r4)), (.ref a1)])) _
    refine XS.iadd X75.here hx rfl (hb hby d19_197) rfl ?_
    show Steps p.tables e below (T75.setTop (mkF m 198 #[.val (.ref a1), .val (.int p2), .val (.int p2), .val (.int p4), .val (.int (p4 + (1 : Int32))), .val (.ref an), .val (.int (1 : Int32)), .val (.int (pn + (1 : Int32))), .val (.ref av), .val (.int (4 : Int32)), .val (.int (p4 + (1 : Int32))), .val (.int (p2 + (1 : Int32))), .val (.int (0 : Int32))] [(.int ((p2 + (1 : Int32)) + (1 : Int32))), (.int p2), (.ref a1), (.int (ur - r4)), (.ref a1)])) _
    refine XS.aloadN X75.here hx rfl (hb hby d19_198) rfl rfl ?_
    show Steps p.tables e below (T75.setTop (mkF m 199 #[.val (.ref a1), .val (.int p2), .val (.int p2), .val (.int p4), .val (.int (p4 + (1 : Int32))), .val (.ref an), .val (.int (1 : Int32)), .val (.int (pn + (1 : Int32))), .val (.ref av), .val (.int (4 : Int32)), .val (.int (p4 + (1 : Int32))), .val (.int (p2 + (1 : Int32))), .val (.int (0 : Int32))] [(.ref a1), (.int ((p2 + (1 : Int32)) + (1 : Int32))), (.int p2), (.ref a1), (.int (ur - r4)), (.ref a1)])) _
    refine st76 _ ?_
    show Steps p.tables e below (T76.setTop (mkF m 202 #[.val (.ref a1), .val (.int p2), .val (.int p2), .val (.int p4), .val (.int (p4 + (1 : Int32))), .val (.ref an), .val (.int (1 : Int32)), .val (.int (pn + (1 : Int32))), .val (.ref av), .val (.int (4 : Int32)), .val (.int (p4 + (1 : Int32))), .val (.int (p2 + (1 : Int32))), .val (.int (0 : Int32))] [(.int (pn + (1 : Int32))), (.int ((p2 + (1 : Int32)) + (1 : Int32))), (.int p2), (.ref a1), (.int (ur - r4)), (.ref a1)])) _
    refine st77 _ ?_
    show Steps p.tables e below (T77.setTop (mkF m 205 #[.val (.ref a1), .val (.int p2), .val (.int p2), .val (.int p4), .val (.int (p4 + (1 : Int32))), .val (.ref an), .val (.int (1 : Int32)), .val (.int (pn + (1 : Int32))), .val (.ref av), .val (.int (4 : Int32)), .val (.int (p4 + (1 : Int32))), .val (.int (p2 + (1 : Int32))), .val (.int (0 : Int32))] [(.int (fn14 ((p2 + (1 : Int32)) + (1 : Int32)) (pn + (1 : Int32)))), (.int p2), (.ref a1), (.int (ur - r4)), (.ref a1)])) _
    refine st78.trans ?_
    show Steps p.tables e below (T78.setTop (mkF m 208 #[.val (.ref a1), .val (.int p2), .val (.int p2), .val (.int p4), .val (.int (p4 + (1 : Int32))), .val (.ref an), .val (.int (1 : Int32)), .val (.int (pn + (1 : Int32))), .val (.ref av), .val (.int (4 : Int32)), .val (.int (p4 + (1 : Int32))), .val (.int (p2 + (1 : Int32))), .val (.int (0 : Int32))] [(.int r78), (.int (ur - r4)), (.ref a1)])) _
    refine XS.iadd X78.here hx rfl (hb hby d19_208) rfl ?_
    show Steps p.tables e below (T78.setTop (mkF m 209 #[.val (.ref a1), .val (.int p2), .val (.int p2), .val (.int p4), .val (.int (p4 + (1 : Int32))), .val (.ref an), .val (.int (1 : Int32)), .val (.int (pn + (1 : Int32))), .val (.ref av), .val (.int (4 : Int32)), .val (.int (p4 + (1 : Int32))), .val (.int (p2 + (1 : Int32))), .val (.int (0 : Int32))] [(.int ((ur - r4) + r78)), (.ref a1)])) _
    refine st79 _ ?_
    exact kt
  obtain ⟨fs, hr, hrun, hended, hW, hsame⟩ := X79.leave (v := none) (fun _ => rfl)
  refine ⟨_, _, pre90 _ ?_, hrun, hended, _, _, rfl, ?_, ⟨_, rfl⟩, hW, hsame.mono (by decide) (by decide)⟩
  · show Steps p.tables e below (T79.setTop (mkF m 212 #[.val (.ref a1), .val (.int p2), .val (.int p2), .val (.int p4), .val (.int (p4 + (1 : Int32))), .val (.ref an), .val (.int (1 : Int32)), .val (.int (pn + (1 : Int32))), .val (.ref av), .val (.int (4 : Int32)), .val (.int (p4 + (1 : Int32))), .val (.int (p2 + (1 : Int32))), .val (.int (0 : Int32))] [])) _
    exact X79.returnOut hx Bd.returns (hb hby d19_212) hr
  · show Q19 Z a1 p2 p4 an av ar pn ur fv cn ki h0 n0 _ T79.heap _
    rw [hE79]
    exact ⟨_, rfl, N88, K89, f80, f81, f82, Fw79, f86⟩
theorem own_m2 {x : Int32} (h : 0 ≤ x.toInt ∧ x.toInt < 65536) : (-2 : Int32) < x := by
  have o : (-2 : Int32).toInt = -2 := rfl
  rw [Int32.lt_iff_toInt_lt]; omega
theorem d9_0 : decode prog_22_method_10_code 0 = .ok (.aload_n 0, 1) := by decide +kernel
theorem d9_1 : decode prog_22_method_10_code 1 = .ok (.getfield 19, 3) := by decide +kernel
theorem d9_4 : decode prog_22_method_10_code 4 = .ok (.ifCond .ne 8, 3) := by decide +kernel
theorem d9_7 : decode prog_22_method_10_code 7 = .ok (.bipush (-2), 2) := by decide +kernel
theorem d9_9 : decode prog_22_method_10_code 9 = .ok (.goto 14, 3) := by decide +kernel
theorem d9_12 : decode prog_22_method_10_code 12 = .ok (.aload_n 0, 1) := by decide +kernel
theorem d9_13 : decode prog_22_method_10_code 13 = .ok (.getfield 16, 3) := by decide +kernel
theorem d9_16 : decode prog_22_method_10_code 16 = .ok (.aload_n 0, 1) := by decide +kernel
theorem d9_17 : decode prog_22_method_10_code 17 = .ok (.getfield 19, 3) := by decide +kernel
theorem d9_20 : decode prog_22_method_10_code 20 = .ok (.iconst 1, 1) := by decide +kernel
theorem d9_21 : decode prog_22_method_10_code 21 = .ok (.isub, 1) := by decide +kernel
theorem d9_22 : decode prog_22_method_10_code 22 = .ok (.caload, 1) := by decide +kernel
theorem d9_23 : decode prog_22_method_10_code 23 = .ok (.istore_n 2, 1) := by decide +kernel
theorem d9_24 : decode prog_22_method_10_code 24 = .ok (.iload_n 1, 1) := by decide +kernel
theorem d9_25 : decode prog_22_method_10_code 25 = .ok (.iload_n 2, 1) := by decide +kernel
theorem d9_26 : decode prog_22_method_10_code 26 = .ok (.if_icmp .le 10, 3) := by decide +kernel
theorem d9_29 : decode prog_22_method_10_code 29 = .ok (.aload_n 0, 1) := by decide +kernel
theorem d9_30 : decode prog_22_method_10_code 30 = .ok (.iload_n 1, 1) := by decide +kernel
theorem d9_31 : decode prog_22_method_10_code 31 = .ok (.iload_n 2, 1) := by decide +kernel
theorem d9_32 : decode prog_22_method_10_code 32 = .ok (.invokevirtual 65, 3) := by decide +kernel
theorem d9_35 : decode prog_22_method_10_code 35 = .ok (.areturn, 1) := by decide +kernel
theorem d9_36 : decode prog_22_method_10_code 36 = .ok (.aload_n 0, 1) := by decide +kernel
theorem d9_37 : decode prog_22_method_10_code 37 = .ok (.getfield 16, 3) := by decide +kernel
theorem d9_40 : decode prog_22_method_10_code 40 = .ok (.iconst 0, 1) := by decide +kernel
theorem d9_41 : decode prog_22_method_10_code 41 = .ok (.aload_n 0, 1) := by decide +kernel
theorem d9_42 : decode prog_22_method_10_code 42 = .ok (.getfield 19, 3) := by decide +kernel
theorem d9_45 : decode prog_22_method_10_code 45 = .ok (.iload_n 1, 1) := by decide +kernel
theorem d9_46 : decode prog_22_method_10_code 46 = .ok (.invokestatic 69, 3) := by decide +kernel
theorem d9_49 : decode prog_22_method_10_code 49 = .ok (.istore_n 3, 1) := by decide +kernel
theorem d9_50 : decode prog_22_method_10_code 50 = .ok (.iload_n 3, 1) := by decide +kernel
theorem d9_51 : decode prog_22_method_10_code 51 = .ok (.ifCond .lt 5, 3) := by decide +kernel
theorem d9_54 : decode prog_22_method_10_code 54 = .ok (.aload_n 0, 1) := by decide +kernel
theorem d9_55 : decode prog_22_method_10_code 55 = .ok (.areturn, 1) := by decide +kernel
theorem d9_56 : decode prog_22_method_10_code 56 = .ok (.aload_n 0, 1) := by decide +kernel
theorem d9_57 : decode prog_22_method_10_code 57 = .ok (.getfield 19, 3) := by decide +kernel
theorem d9_60 : decode prog_22_method_10_code 60 = .ok (.sipush 4096, 3) := by decide +kernel
theorem d9_63 : decode prog_22_method_10_code 63 = .ok (.if_icmp .ne 12, 3) := by decide +kernel
theorem d9_66 : decode prog_22_method_10_code 66 = .ok (.aload_n 0, 1) := by decide +kernel
theorem d9_67 : decode prog_22_method_10_code 67 = .ok (.invokestatic 73, 3) := by decide +kernel
theorem d9_70 : decode prog_22_method_10_code 70 = .ok (.iload_n 1, 1) := by decide +kernel
theorem d9_71 : decode prog_22_method_10_code 71 = .ok (.invokevirtual 78, 3) := by decide +kernel
theorem d9_74 : decode prog_22_method_10_code 74 = .ok (.areturn, 1) := by decide +kernel
theorem d9_75 : decode prog_22_method_10_code 75 = .ok (.iload_n 3, 1) := by decide +kernel
theorem d9_76 : decode prog_22_method_10_code 76 = .ok (.ineg, 1) := by decide +kernel
theorem d9_77 : decode prog_22_method_10_code 77 = .ok (.iconst 1, 1) := by decide +kernel
theorem d9_78 : decode prog_22_method_10_code 78 = .ok (.isub, 1) := by decide +kernel
theorem d9_79 : decode prog_22_method_10_code 79 = .ok (.istore_n 3, 1) := by decide +kernel
theorem d9_80 : decode prog_22_method_10_code 80 = .ok (.aload_n 0, 1) := by decide +kernel
theorem d9_81 : decode prog_22_method_10_code 81 = .ok (.iload_n 3, 1) := by decide +kernel
theorem d9_82 : decode prog_22_method_10_code 82 = .ok (.iload_n 3, 1) := by decide +kernel
theorem d9_83 : decode prog_22_method_10_code 83 = .ok (.iload_n 1, 1) := by decide +kernel
theorem d9_84 : decode prog_22_method_10_code 84 = .ok (.iload_n 1, 1) := by decide +kernel
theorem d9_85 : decode prog_22_method_10_code 85 = .ok (.iconst 1, 1) := by decide +kernel
theorem d9_86 : decode prog_22_method_10_code 86 = .ok (.iadd, 1) := by decide +kernel
theorem d9_87 : decode prog_22_method_10_code 87 = .ok (.getstatic 1, 3) := by decide +kernel
theorem d9_90 : decode prog_22_method_10_code 90 = .ok (.invokevirtual 82, 3) := by decide +kernel
theorem d9_93 : decode prog_22_method_10_code 93 = .ok (.aload_n 0, 1) := by decide +kernel
theorem d9_94 : decode prog_22_method_10_code 94 = .ok (.areturn, 1) := by decide +kernel
theorem pn_9a : plainName "com/example/bitweight/bitweight/chunk/ArrayChunk" = true := by first | (simp [plainName, overriddenIn]; done) | decide +kernel
theorem ef_9a (m : MethodId) (x0 : Addr) (x1 : Int32) : entryFrame m #[(.ref x0), (.int x1)] 4 = mkF m 0 #[.val (.ref x0), .val (.int x1), .unset, .unset] [] := by first | (simp [entryFrame, mkF, argsToLocals, Value.category]; done) | rfl
theorem pd_7 : parseMethodDescriptor "(CI)Lcom/example/bitweight/bitweight/chunk/Chunk;" = some ⟨[.char, .int], some (.object "com/example/bitweight/bitweight/chunk/Chunk")⟩ := by decide +kernel
def Q9a (Z : State) (a1 : Addr) (p2 : Int32) (an ar : Addr) (ur : Int32) (h0 : Heap) (n0 : Nat) (v : Option Value) (h : Heap) (L : List Loc) : Prop := ∃ (b : Addr) (r : Int32), v = some (.ref a1) ∧ Fr n0 L ∧ Keep h0 h [a1] ∧ h0.size ≤ b ∧ Exa Z h a1 "com/example/bitweight/bitweight/chunk/ArrayChunk" ∧ Fld Z h a1 "com/example/bitweight/bitweight/chunk/ArrayChunk" "values" "[C" (.ref b) ∧ Fld Z h a1 "com/example/bitweight/bitweight/chunk/ArrayChunk" "cardinality" "I" (.int (1 : Int32)) ∧ Fld Z h a1 "com/example/bitweight/bitweight/chunk/ArrayChunk" "runs" "I" (.int r) ∧ owAI Z h b .char 4 (owUp (fun _ => 0) 0 p2)
set_option maxRecDepth 65536 in
set_option maxHeartbeats 40000000 in
theorem rm9a (l : Launch) (Z : State) (a0 : Array Value) (hw : ∀ d ∈ tables_1, d.before a0 Z = true) (ws : List Jvm.Cond) (a1 : Addr) (p2 : Int32) (an ar : Addr) (ur : Int32) (h0 : Heap) (n0 : Nat) (Z0 : n0 ≤ h0.size) (E_a1 : Exa Z h0 a1 "com/example/bitweight/bitweight/chunk/ArrayChunk") (F_values : Fld Z h0 a1 "com/example/bitweight/bitweight/chunk/ArrayChunk" "values" "[C" (.ref an)) (F_cardinality : Fld Z h0 a1 "com/example/bitweight/bitweight/chunk/ArrayChunk" "cardinality" "I" (.int (0 : Int32))) (F_runs : Fld Z h0 a1 "com/example/bitweight/bitweight/chunk/ArrayChunk" "runs" "I" (.int ur)) (A_an : owAI Z h0 an .char 0 (fun _ => 0)) (S_room : Sta Z h0 "com/example/bitweight/bitweight/chunk/ArrayChunk" "ROOM" "Lcom/example/bitweight/bitweight/chunk/Room;" (.ref ar)) (E_ar : Exa Z h0 ar "com/example/bitweight/bitweight/chunk/Room") (R_least : Fld Z h0 ar "com/example/bitweight/bitweight/chunk/Room" "least" "I" (.int (4 : Int32))) (R_shift : Fld Z h0 ar "com/example/bitweight/bitweight/chunk/Room" "shift" "I" (.int (2 : Int32))) (R_most : Fld Z h0 ar "com/example/bitweight/bitweight/chunk/Room" "most" "I" (.int (4096 : Int32))) (g_a1 : n0 ≤ a1) (hp2 : 0 ≤ p2.toInt ∧ p2.toInt < 65536) (n1r : a1 ≠ ar) (n1n : a1 ≠ an) :
    MetFree l (⟨"com/example/bitweight/bitweight/chunk/ArrayChunk", "add", "(C)Lcom/example/bitweight/bitweight/chunk/Chunk;"⟩ : MethodName) (head1 (Jvm.Cond.code (⟨"com/example/bitweight/bitweight/chunk/ArrayChunk", "add", "(C)Lcom/example/bitweight/bitweight/chunk/Chunk;"⟩ : MethodName) prog_22_method_10_code 4 (some (.object "com/example/bitweight/bitweight/chunk/Chunk")) :: ws) ({ frames := 4, cells := 1, slots := 4, locals := 58 } : Room)) (fun a U => a = #[(.ref a1), (.int p2)] ∧ Z.Warmed39 U.vm ∧ U.heap = h0) (fun _ _ _ _ _ => True) (fun _ U o U' => ∃ v L, o = .returned v ∧ Q9a Z a1 p2 an ar ur h0 n0 v U'.heap L ∧ FrameEnd U o U' L ({ frames := 4, cells := 1, slots := 4, locals := 58 } : Room).cells ({ frames := 4, cells := 1, slots := 4, locals := 58 } : Room).slots) := by
  refine MetFree.of_bodySF (plainFor_of_name pn_9a) hisR ?_
  intro p e s m args below meth c s₁ Bd hml0 hP hK
  obtain ⟨rfl, hZ, hh⟩ := hP
  have hx := Bd.exec
  have hby := Bd.bytes
  have hml : c.maxLocals = 4 := hml0
  have hown : s.vm.findClass "com/example/bitweight/bitweight/chunk/ArrayChunk" = some m.cls := findClass_of_methodNamed Bd.named
  have hnm := (name_of_methodNamed Bd.named Bd.method).1
  have X0 : Stand p l e ({ frames := 4, cells := 1, slots := 4, locals := 58 } : Room) s m #[(.ref a1), (.int p2)] below meth c s₁ [] 0 0 := Stand.of_body Bd
  have e0 : s₁.heap = h0 := by rw [← hh, Bd.state]; rfl
  have N0 := Fr.nil n0
  have pre0 : ∀ t, Steps p.tables e below (s₁.setTop (mkF m 0 #[.val (.ref a1), .val (.int p2), .unset, .unset] [])) t → Steps p.tables e below (s₁.setTop (entryFrame m #[(.ref a1), (.int p2)] 4)) t := fun t k => castTop (ef_9a m a1 p2) k
  obtain ⟨T1, X1, hE1, st1⟩ := getF X0 hx hZ hown (host := "") (Or.inl (hw _ (List.mem_of_getElem? (i := 23) rfl))) Via.refl e0 F_cardinality (g := (mkF m 1 #[.val (.ref a1), .val (.int p2), .unset, .unset] [(.ref a1)])) rfl rfl (hb hby d9_1)
  obtain ⟨cq2, q2, q2'⟩ := E_a1.cell
  obtain ⟨_, _, ⟨T2, L2, k2, n2⟩, -, X2, ⟨Lc2, hQ2, l2, y2, z2⟩, st2⟩ := X1.privateBack hx (y := (⟨"com/example/bitweight/bitweight/chunk/ArrayChunk", "addLast", "(CI)Lcom/example/bitweight/bitweight/chunk/Chunk;"⟩ : MethodName)) hown (mvT hZ (hw _ (List.mem_of_getElem? (i := 47) rfl))) (mvT hZ (hw _ (List.mem_of_getElem? (i := 48) rfl))) (owSel (mvT hZ (hw _ (List.mem_of_getElem? (i := 3) rfl))) (Cond.privateMethod_at (mvP hZ (hw _ (List.mem_of_getElem? (i := 49) rfl)) (args := #[]))) (mvT hZ (hw _ (List.mem_of_getElem? (i := 48) rfl))) (by decide)) (Cond.privateMethod_at (mvP hZ (hw _ (List.mem_of_getElem? (i := 49) rfl)) (args := #[]))) (mvT hZ (hw _ (List.mem_of_getElem? (i := 50) rfl))) (by decide) (backOf (W := 0) (rm10a l Z a0 hw [] a1 p2 (-2 : Int32) an ar ur h0 n0 Z0 E_a1 F_values F_cardinality F_runs A_an S_room E_ar R_least R_shift R_most g_a1 hp2 n1r n1n) hZ (hw _ (List.mem_of_getElem? (i := 50) rfl)) (hw _ (List.mem_of_getElem? (i := 4) rfl)) (by decide) (by decide)) (g := (mkF m 32 #[.val (.ref a1), .val (.int p2), .val (.int (-2 : Int32)), .unset] [(.int (-2 : Int32)), (.int p2), (.ref a1)])) rfl (by rw [hml]; rfl) (Steps.refl _) (a := a1) (by rw [hE1]; exact q2) q2' (argsL := [(.int p2), (.int (-2 : Int32))]) (rest := []) (lenOf pd_7 rfl) rfl (by show 2 * 0 + _ ≤ _; exact Nat.le_of_eq rfl) (hb hby d9_32) (fun _ _ => ⟨rfl, hE1, (by decide : 0 + 1 ≤ _), (by decide : 0 + 4 ≤ _)⟩)
  dsimp only [Pt.U, Pt.locs, Pt.cells, Pt.slots] at X2 l2 y2 z2 st2 hQ2
  subst l2 y2 z2
  obtain ⟨bn, rn, rfl, N2q, K2, h_bn, p2_E, p2_v, p2_c, p2_r, p2_A⟩ := hQ2
  have N2 := Fr.app N0 N2q
  have ne_a1_bn : a1 ≠ bn := Nat.ne_of_lt (Nat.lt_of_lt_of_le E_a1.lt h_bn)
  have ne_an_bn : an ≠ bn := Nat.ne_of_lt (Nat.lt_of_lt_of_le A_an.lt h_bn)
  have ne_ar_bn : ar ≠ bn := Nat.ne_of_lt (Nat.lt_of_lt_of_le E_ar.lt h_bn)
  have g_bn : n0 ≤ bn := Nat.le_trans Z0 h_bn
  have sz_bn : h0.size ≤ bn := Nat.le_trans (Keep.refl h0 [a1]).1 h_bn
  have f3 := E_a1.keep K2
  have f7 := A_an.keep K2 (ninS (Ne.symm n1n) nin0)
  have f9 := E_ar.keep K2
  have f10 := R_least.keep K2 (ninS (Ne.symm n1r) nin0)
  have f11 := R_shift.keep K2 (ninS (Ne.symm n1r) nin0)
  have f12 := R_most.keep K2 (ninS (Ne.symm n1r) nin0)
  have Z13 := Nat.le_trans Z0 K2.1
  have K14 := (Keep.refl h0 [a1]).trans K2 (allS (Or.inl (List.mem_of_getElem? (i := 0) rfl)) all0)
  have pre15 : ∀ t, Steps p.tables e below (T2.setTop (mkF m 35 #[.val (.ref a1), .val (.int p2), .val (.int (-2 : Int32)), .unset] [(.ref a1)])) t → Steps p.tables e below (s₁.setTop (entryFrame m #[(.ref a1), (.int p2)] 4)) t := by
    intro t kt
    refine pre0 _ ?_
    show Steps p.tables e below (s₁.setTop (mkF m 0 #[.val (.ref a1), .val (.int p2), .unset, .unset] [])) _
    refine XS.aloadN X0.here hx rfl (hb hby d9_0) rfl rfl ?_
    show Steps p.tables e below (s₁.setTop (mkF m 1 #[.val (.ref a1), .val (.int p2), .unset, .unset] [(.ref a1)])) _
    refine st1 _ ?_
    show Steps p.tables e below (T1.setTop (mkF m 4 #[.val (.ref a1), .val (.int p2), .unset, .unset] [(.int (0 : Int32))])) _
    refine XS.ifNo X1.here hx rfl (hb hby d9_4) rfl (XT.i0_ne_f (by decide)) ?_
    show Steps p.tables e below (T1.setTop (mkF m 7 #[.val (.ref a1), .val (.int p2), .unset, .unset] [])) _
    refine XS.bipush X1.here hx rfl (hb hby d9_7) ?_
    show Steps p.tables e below (T1.setTop (mkF m 9 #[.val (.ref a1), .val (.int p2), .unset, .unset] [(.int (-2 : Int32))])) _
    refine XS.goto X1.here hx rfl (pc0 := 9) (pc' := 23) rfl (hb hby d9_9) (by decide) (by decide) ?_
    show Steps p.tables e below (T1.setTop (mkF m 23 #[.val (.ref a1), .val (.int p2), .unset, .unset] [(.int (-2 : Int32))])) _
    refine XS.istoreN X1.here hx rfl (hb hby d9_23) rfl (l' := #[.val (.ref a1), .val (.int p2), .val (.int (-2 : Int32)), .unset]) rfl ?_
    show Steps p.tables e below (T1.setTop (mkF m 24 #[.val (.ref a1), .val (.int p2), .val (.int (-2 : Int32)), .unset] [])) _
    refine XS.iloadN X1.here hx rfl (hb hby d9_24) rfl ?_
    show Steps p.tables e below (T1.setTop (mkF m 25 #[.val (.ref a1), .val (.int p2), .val (.int (-2 : Int32)), .unset] [(.int p2)])) _
    refine XS.iloadN X1.here hx rfl (hb hby d9_25) rfl ?_
    show Steps p.tables e below (T1.setTop (mkF m 26 #[.val (.ref a1), .val (.int p2), .val (.int (-2 : Int32)), .unset] [(.int (-2 : Int32)), (.int p2)])) _
    refine XS.icmpNo X1.here hx rfl (hb hby d9_26) rfl (XT.ii_le_f (own_m2 hp2)) ?_
    show Steps p.tables e below (T1.setTop (mkF m 29 #[.val (.ref a1), .val (.int p2), .val (.int (-2 : Int32)), .unset] [])) _
    refine XS.aloadN X1.here hx rfl (hb hby d9_29) rfl rfl ?_
    show Steps p.tables e below (T1.setTop (mkF m 30 #[.val (.ref a1), .val (.int p2), .val (.int (-2 : Int32)), .unset] [(.ref a1)])) _
    refine XS.iloadN X1.here hx rfl (hb hby d9_30) rfl ?_
    show Steps p.tables e below (T1.setTop (mkF m 31 #[.val (.ref a1), .val (.int p2), .val (.int (-2 : Int32)), .unset] [(.int p2), (.ref a1)])) _
    refine XS.iloadN X1.here hx rfl (hb hby d9_31) rfl ?_
    show Steps p.tables e below (T1.setTop (mkF m 32 #[.val (.ref a1), .val (.int p2), .val (.int (-2 : Int32)), .unset] [(.int (-2 : Int32)), (.int p2), (.ref a1)])) _
    refine st2.trans ?_
    exact kt
  obtain ⟨fs, hr, hrun, hended, hW, hsame⟩ := X2.leave (v := some (.ref a1)) (fun h => by rw [Bd.returns] at h; cases h)
  refine ⟨_, _, pre15 _ ?_, hrun, hended, _, _, rfl, ?_, ⟨_, rfl⟩, hW, hsame.mono (by decide) (by decide)⟩
  · show Steps p.tables e below (T2.setTop (mkF m 35 #[.val (.ref a1), .val (.int p2), .val (.int (-2 : Int32)), .unset] [(.ref a1)])) _
    exact X2.areturnOut hx rfl Bd.returns rfl (hb hby d9_35) hr
  · show Q9a Z a1 p2 an ar ur h0 n0 _ T2.heap _
    exact ⟨bn, _, rfl, N2, K14, sz_bn, p2_E, p2_v, p2_c, p2_r, p2_A⟩
theorem own_lst {f : Nat → Int32} {c : Nat} {v : Int32} (ok : own_ok f c) (hc : 1 ≤ c) (h : (f (c - 1)) < v) : ∀ i, i < c → (f i).toInt < v.toInt := fun i hi => by
  rw [Int32.lt_iff_toInt_lt] at h
  by_cases e : i = c - 1
  · rw [e]; exact h
  · have := ok.2 i (c - 1) (by omega) (by omega); omega
theorem own_ixk {rr : Int32} {k : Nat} (h : rr.toInt = -((k : Int) + 1)) (hk : k ≤ 100) : ((-rr) - (1 : Int32)).toInt = (k : Int) := by
  have a1 := c_ineg rr
  have a2 := rng32 (-rr)
  have a3 := c_isub (-rr) 1
  have a4 := rng32 (-rr - 1)
  have o : (1 : Int32).toInt = 1 := rfl
  omega
theorem pn_9b : plainName "com/example/bitweight/bitweight/chunk/ArrayChunk" = true := by first | (simp [plainName, overriddenIn]; done) | decide +kernel
theorem ef_9b (m : MethodId) (x0 : Addr) (x1 : Int32) : entryFrame m #[(.ref x0), (.int x1)] 4 = mkF m 0 #[.val (.ref x0), .val (.int x1), .unset, .unset] [] := by first | (simp [entryFrame, mkF, argsToLocals, Value.category]; done) | rfl
theorem pd_8 : parseMethodDescriptor "(IIII[C)V" = some ⟨[.int, .int, .int, .int, (.array .char)], none⟩ := by decide +kernel
def Q9b (Z : State) (a1 : Addr) (p2 : Int32) (av an ar : Addr) (pn ur : Int32) (fv : Nat → Int32) (cn : Nat) (h0 : Heap) (n0 : Nat) (v : Option Value) (h : Heap) (L : List Loc) : Prop := ∃ (r c' : Int32) (f' : Nat → Int32) (m' : Nat), v = some (.ref a1) ∧ Fr n0 L ∧ Keep h0 h [a1, av] ∧ Exa Z h a1 "com/example/bitweight/bitweight/chunk/ArrayChunk" ∧ Fld Z h a1 "com/example/bitweight/bitweight/chunk/ArrayChunk" "values" "[C" (.ref av) ∧ Fld Z h a1 "com/example/bitweight/bitweight/chunk/ArrayChunk" "cardinality" "I" (.int c') ∧ Fld Z h a1 "com/example/bitweight/bitweight/chunk/ArrayChunk" "runs" "I" (.int r) ∧ owAI Z h av .char 4 f' ∧ c'.toInt = (m' : Int) ∧ own_res fv cn f' m' p2
set_option maxRecDepth 65536 in
set_option maxHeartbeats 40000000 in
theorem rm9b (l : Launch) (Z : State) (a0 : Array Value) (hw : ∀ d ∈ tables_1, d.before a0 Z = true) (ws : List Jvm.Cond) (a1 : Addr) (p2 : Int32) (av an ar : Addr) (pn ur : Int32) (fv : Nat → Int32) (cn : Nat) (h0 : Heap) (n0 : Nat) (Z0 : n0 ≤ h0.size) (E_a1 : Exa Z h0 a1 "com/example/bitweight/bitweight/chunk/ArrayChunk") (F_values : Fld Z h0 a1 "com/example/bitweight/bitweight/chunk/ArrayChunk" "values" "[C" (.ref av)) (F_cardinality : Fld Z h0 a1 "com/example/bitweight/bitweight/chunk/ArrayChunk" "cardinality" "I" (.int pn)) (F_runs : Fld Z h0 a1 "com/example/bitweight/bitweight/chunk/ArrayChunk" "runs" "I" (.int ur)) (A_av : owAI Z h0 av .char 4 fv) (A_an : owAI Z h0 an .char 0 (fun _ => 0)) (S_none : Sta Z h0 "com/example/bitweight/bitweight/chunk/ArrayChunk" "NONE" "[C" (.ref an)) (S_room : Sta Z h0 "com/example/bitweight/bitweight/chunk/ArrayChunk" "ROOM" "Lcom/example/bitweight/bitweight/chunk/Room;" (.ref ar)) (E_ar : Exa Z h0 ar "com/example/bitweight/bitweight/chunk/Room") (g_a1 : n0 ≤ a1) (g_av : n0 ≤ av) (n1v : a1 ≠ av) (n1n : a1 ≠ an) (nvn : av ≠ an) (hp2 : 0 ≤ p2.toInt ∧ p2.toInt < 65536) (hcn : pn.toInt = (cn : Int)) (hc1 : 1 ≤ cn) (hc2 : cn ≤ 2) (ok : own_ok fv cn) :
    MetFree l (⟨"com/example/bitweight/bitweight/chunk/ArrayChunk", "add", "(C)Lcom/example/bitweight/bitweight/chunk/Chunk;"⟩ : MethodName) (head1 (Jvm.Cond.code (⟨"com/example/bitweight/bitweight/chunk/ArrayChunk", "add", "(C)Lcom/example/bitweight/bitweight/chunk/Chunk;"⟩ : MethodName) prog_22_method_10_code 4 (some (.object "com/example/bitweight/bitweight/chunk/Chunk")) :: ws) ({ frames := 2, cells := 0, slots := 0, locals := 42 } : Room)) (fun a U => a = #[(.ref a1), (.int p2)] ∧ Z.Warmed39 U.vm ∧ U.heap = h0) (fun _ _ _ _ _ => True) (fun _ U o U' => ∃ v L, o = .returned v ∧ Q9b Z a1 p2 av an ar pn ur fv cn h0 n0 v U'.heap L ∧ FrameEnd U o U' L ({ frames := 2, cells := 0, slots := 0, locals := 42 } : Room).cells ({ frames := 2, cells := 0, slots := 0, locals := 42 } : Room).slots) := by
  refine MetFree.of_bodySF (plainFor_of_name pn_9b) hisR ?_
  intro p e s m args below meth c s₁ Bd hml0 hP hK
  obtain ⟨rfl, hZ, hh⟩ := hP
  have hx := Bd.exec
  have hby := Bd.bytes
  have hml : c.maxLocals = 4 := hml0
  have hown : s.vm.findClass "com/example/bitweight/bitweight/chunk/ArrayChunk" = some m.cls := findClass_of_methodNamed Bd.named
  have hnm := (name_of_methodNamed Bd.named Bd.method).1
  have X0 : Stand p l e ({ frames := 2, cells := 0, slots := 0, locals := 42 } : Room) s m #[(.ref a1), (.int p2)] below meth c s₁ [] 0 0 := Stand.of_body Bd
  have e0 : s₁.heap = h0 := by rw [← hh, Bd.state]; rfl
  have N0 := Fr.nil n0
  have pre0 : ∀ t, Steps p.tables e below (s₁.setTop (mkF m 0 #[.val (.ref a1), .val (.int p2), .unset, .unset] [])) t → Steps p.tables e below (s₁.setTop (entryFrame m #[(.ref a1), (.int p2)] 4)) t := fun t k => castTop (ef_9b m a1 p2) k
  obtain ⟨T1, X1, hE1, st1⟩ := getF X0 hx hZ hown (host := "") (Or.inl (hw _ (List.mem_of_getElem? (i := 23) rfl))) Via.refl e0 F_cardinality (g := (mkF m 1 #[.val (.ref a1), .val (.int p2), .unset, .unset] [(.ref a1)])) rfl rfl (hb hby d9_1)
  obtain ⟨T2, X2, hE2, st2⟩ := getF X1 hx hZ hown (host := "") (Or.inl (hw _ (List.mem_of_getElem? (i := 21) rfl))) Via.refl hE1 F_values (g := (mkF m 13 #[.val (.ref a1), .val (.int p2), .unset, .unset] [(.ref a1)])) rfl rfl (hb hby d9_13)
  obtain ⟨T3, X3, hE3, st3⟩ := getF X2 hx hZ hown (host := "") (Or.inl (hw _ (List.mem_of_getElem? (i := 23) rfl))) Via.refl hE2 F_cardinality (g := (mkF m 17 #[.val (.ref a1), .val (.int p2), .unset, .unset] [(.ref a1), (.ref av)])) rfl rfl (hb hby d9_17)
  have pre4 : ∀ t, Steps p.tables e below (T3.setTop (mkF m 26 #[.val (.ref a1), .val (.int p2), .val (.int (fv (cn - 1))), .unset] [(.int (fv (cn - 1))), (.int p2)])) t → Steps p.tables e below (s₁.setTop (entryFrame m #[(.ref a1), (.int p2)] 4)) t := by
    intro t kt
    refine pre0 _ ?_
    show Steps p.tables e below (s₁.setTop (mkF m 0 #[.val (.ref a1), .val (.int p2), .unset, .unset] [])) _
    refine XS.aloadN X0.here hx rfl (hb hby d9_0) rfl rfl ?_
    show Steps p.tables e below (s₁.setTop (mkF m 1 #[.val (.ref a1), .val (.int p2), .unset, .unset] [(.ref a1)])) _
    refine st1 _ ?_
    show Steps p.tables e below (T1.setTop (mkF m 4 #[.val (.ref a1), .val (.int p2), .unset, .unset] [(.int pn)])) _
    refine XS.ifYes X1.here hx rfl (pc0 := 4) (pc' := 12) rfl (hb hby d9_4) rfl (XT.i0_ne_t (own_nk _ hcn (k := 0) rfl (by omega))) (by decide) (by decide) ?_
    show Steps p.tables e below (T1.setTop (mkF m 12 #[.val (.ref a1), .val (.int p2), .unset, .unset] [])) _
    refine XS.aloadN X1.here hx rfl (hb hby d9_12) rfl rfl ?_
    show Steps p.tables e below (T1.setTop (mkF m 13 #[.val (.ref a1), .val (.int p2), .unset, .unset] [(.ref a1)])) _
    refine st2 _ ?_
    show Steps p.tables e below (T2.setTop (mkF m 16 #[.val (.ref a1), .val (.int p2), .unset, .unset] [(.ref av)])) _
    refine XS.aloadN X2.here hx rfl (hb hby d9_16) rfl rfl ?_
    show Steps p.tables e below (T2.setTop (mkF m 17 #[.val (.ref a1), .val (.int p2), .unset, .unset] [(.ref a1), (.ref av)])) _
    refine st3 _ ?_
    show Steps p.tables e below (T3.setTop (mkF m 20 #[.val (.ref a1), .val (.int p2), .unset, .unset] [(.int pn), (.ref av)])) _
    refine XS.iconst X3.here hx rfl (hb hby d9_20) ?_
    show Steps p.tables e below (T3.setTop (mkF m 21 #[.val (.ref a1), .val (.int p2), .unset, .unset] [(.int (1 : Int32)), (.int pn), (.ref av)])) _
    refine XS.isub X3.here hx rfl (hb hby d9_21) rfl ?_
    show Steps p.tables e below (T3.setTop (mkF m 22 #[.val (.ref a1), .val (.int p2), .unset, .unset] [(.int (pn - (1 : Int32))), (.ref av)])) _
    refine owLdC (k := (cn - 1)) X3 hx hZ hE3 A_av (j := (pn - (1 : Int32))) (own_m1 hcn hc1) (by omega) (g := (mkF m 22 #[.val (.ref a1), .val (.int p2), .unset, .unset] [(.int (pn - (1 : Int32))), (.ref av)])) rfl rfl (hb hby d9_22) _ ?_
    show Steps p.tables e below (T3.setTop (mkF m 23 #[.val (.ref a1), .val (.int p2), .unset, .unset] [(.int (fv (cn - 1)))])) _
    refine XS.istoreN X3.here hx rfl (hb hby d9_23) rfl (l' := #[.val (.ref a1), .val (.int p2), .val (.int (fv (cn - 1))), .unset]) rfl ?_
    show Steps p.tables e below (T3.setTop (mkF m 24 #[.val (.ref a1), .val (.int p2), .val (.int (fv (cn - 1))), .unset] [])) _
    refine XS.iloadN X3.here hx rfl (hb hby d9_24) rfl ?_
    show Steps p.tables e below (T3.setTop (mkF m 25 #[.val (.ref a1), .val (.int p2), .val (.int (fv (cn - 1))), .unset] [(.int p2)])) _
    refine XS.iloadN X3.here hx rfl (hb hby d9_25) rfl ?_
    exact kt
  by_cases hc26_5 : (fv (cn - 1)) < p2
  · skip
    obtain ⟨cq6, q6, q6'⟩ := E_a1.cell
    obtain ⟨_, _, ⟨T6, L6, k6, n6⟩, -, X6, ⟨Lc6, hQ6, l6, y6, z6⟩, st6⟩ := X3.privateBack hx (y := (⟨"com/example/bitweight/bitweight/chunk/ArrayChunk", "addLast", "(CI)Lcom/example/bitweight/bitweight/chunk/Chunk;"⟩ : MethodName)) hown (mvT hZ (hw _ (List.mem_of_getElem? (i := 47) rfl))) (mvT hZ (hw _ (List.mem_of_getElem? (i := 48) rfl))) (owSel (mvT hZ (hw _ (List.mem_of_getElem? (i := 3) rfl))) (Cond.privateMethod_at (mvP hZ (hw _ (List.mem_of_getElem? (i := 49) rfl)) (args := #[]))) (mvT hZ (hw _ (List.mem_of_getElem? (i := 48) rfl))) (by decide)) (Cond.privateMethod_at (mvP hZ (hw _ (List.mem_of_getElem? (i := 49) rfl)) (args := #[]))) (mvT hZ (hw _ (List.mem_of_getElem? (i := 50) rfl))) (by decide) (backOf (W := 0) (rm10b l Z a0 hw [] a1 p2 (fv (cn - 1)) av pn ur fv cn h0 n0 Z0 E_a1 F_values F_cardinality F_runs A_av g_a1 g_av n1v hp2 hcn (by omega)) hZ (hw _ (List.mem_of_getElem? (i := 50) rfl)) (hw _ (List.mem_of_getElem? (i := 4) rfl)) (by decide) (by decide)) (g := (mkF m 32 #[.val (.ref a1), .val (.int p2), .val (.int (fv (cn - 1))), .unset] [(.int (fv (cn - 1))), (.int p2), (.ref a1)])) rfl (by rw [hml]; rfl) (Steps.refl _) (a := a1) (by rw [hE3]; exact q6) q6' (argsL := [(.int p2), (.int (fv (cn - 1)))]) (rest := []) (lenOf pd_7 rfl) rfl (by show 2 * 0 + _ ≤ _; exact Nat.le_of_eq rfl) (hb hby d9_32) (fun _ _ => ⟨rfl, hE3, (by decide : 0 + 0 ≤ _), (by decide : 0 + 0 ≤ _)⟩)
    dsimp only [Pt.U, Pt.locs, Pt.cells, Pt.slots] at X6 l6 y6 z6 st6 hQ6
    subst l6 y6 z6
    obtain ⟨rn, rfl, N6q, K6, p6_E, p6_v, p6_c, p6_r, p6_A⟩ := hQ6
    have N6 := Fr.app N0 N6q
    have f7 := E_a1.keep K6
    have f12 := A_an.keep K6 (ninS (Ne.symm n1n) (ninS (Ne.symm nvn) nin0))
    have f15 := E_ar.keep K6
    have Z16 := Nat.le_trans Z0 K6.1
    have K17 := (Keep.refl h0 [a1, av]).trans K6 (allS (Or.inl (List.mem_of_getElem? (i := 0) rfl)) (allS (Or.inl (List.mem_of_getElem? (i := 1) rfl)) all0))
    have pre18 : ∀ t, Steps p.tables e below (T6.setTop (mkF m 35 #[.val (.ref a1), .val (.int p2), .val (.int (fv (cn - 1))), .unset] [(.ref a1)])) t → Steps p.tables e below (s₁.setTop (entryFrame m #[(.ref a1), (.int p2)] 4)) t := by
      intro t kt
      refine pre4 _ ?_
      show Steps p.tables e below (T3.setTop (mkF m 26 #[.val (.ref a1), .val (.int p2), .val (.int (fv (cn - 1))), .unset] [(.int (fv (cn - 1))), (.int p2)])) _
      refine XS.icmpNo X3.here hx rfl (hb hby d9_26) rfl (XT.ii_le_f hc26_5) ?_
      show Steps p.tables e below (T3.setTop (mkF m 29 #[.val (.ref a1), .val (.int p2), .val (.int (fv (cn - 1))), .unset] [])) _
      refine XS.aloadN X3.here hx rfl (hb hby d9_29) rfl rfl ?_
      show Steps p.tables e below (T3.setTop (mkF m 30 #[.val (.ref a1), .val (.int p2), .val (.int (fv (cn - 1))), .unset] [(.ref a1)])) _
      refine XS.iloadN X3.here hx rfl (hb hby d9_30) rfl ?_
      show Steps p.tables e below (T3.setTop (mkF m 31 #[.val (.ref a1), .val (.int p2), .val (.int (fv (cn - 1))), .unset] [(.int p2), (.ref a1)])) _
      refine XS.iloadN X3.here hx rfl (hb hby d9_31) rfl ?_
      show Steps p.tables e below (T3.setTop (mkF m 32 #[.val (.ref a1), .val (.int p2), .val (.int (fv (cn - 1))), .unset] [(.int (fv (cn - 1))), (.int p2), (.ref a1)])) _
      refine st6.trans ?_
      exact kt
    obtain ⟨fs, hr, hrun, hended, hW, hsame⟩ := X6.leave (v := some (.ref a1)) (fun h => by rw [Bd.returns] at h; cases h)
    refine ⟨_, _, pre18 _ ?_, hrun, hended, _, _, rfl, ?_, ⟨_, rfl⟩, hW, hsame.mono (by decide) (by decide)⟩
    · show Steps p.tables e below (T6.setTop (mkF m 35 #[.val (.ref a1), .val (.int p2), .val (.int (fv (cn - 1))), .unset] [(.ref a1)])) _
      exact X6.areturnOut hx rfl Bd.returns rfl (hb hby d9_35) hr
    · show Q9b Z a1 p2 av an ar pn ur fv cn h0 n0 _ T6.heap _
      exact ⟨_, _, _, cn + 1, rfl, N6, K17, p6_E, p6_v, p6_c, p6_r, p6_A, own_p1 hcn (by omega), own_res_last ok hp2 (own_lst ok hc1 hc26_5)⟩
  · skip
    obtain ⟨T19, X19, hE19, st19⟩ := getF X3 hx hZ hown (host := "") (Or.inl (hw _ (List.mem_of_getElem? (i := 21) rfl))) Via.refl hE3 F_values (g := (mkF m 37 #[.val (.ref a1), .val (.int p2), .val (.int (fv (cn - 1))), .unset] [(.ref a1)])) rfl rfl (hb hby d9_37)
    obtain ⟨T20, X20, hE20, st20⟩ := getF X19 hx hZ hown (host := "") (Or.inl (hw _ (List.mem_of_getElem? (i := 23) rfl))) Via.refl hE19 F_cardinality (g := (mkF m 42 #[.val (.ref a1), .val (.int p2), .val (.int (fv (cn - 1))), .unset] [(.ref a1), (.int (0 : Int32)), (.ref av)])) rfl rfl (hb hby d9_42)
    obtain ⟨_, _, ⟨T21, L21, k21, n21⟩, -, X21, ⟨Lc21, hQ21, l21, y21, z21⟩, st21⟩ := Jvm.LawKit.callS X20 hx (y := (⟨"java/util/Arrays", "binarySearch", "([CIIC)I"⟩ : MethodName)) hown (mvT hZ (hw _ (List.mem_of_getElem? (i := 86) rfl))) (mvT hZ (hw _ (List.mem_of_getElem? (i := 87) rfl))) (mvT hZ (hw _ (List.mem_of_getElem? (i := 78) rfl))) (mvT hZ (hw _ (List.mem_of_getElem? (i := 88) rfl))) (by decide) (backOf (W := 0) (rm16 l Z a0 hw [] av pn p2 fv cn h0 n0 Z0 A_av hcn (by omega) ok) hZ (hw _ (List.mem_of_getElem? (i := 88) rfl)) (hw _ (List.mem_of_getElem? (i := 78) rfl)) (by decide) (by decide)) (g := (mkF m 46 #[.val (.ref a1), .val (.int p2), .val (.int (fv (cn - 1))), .unset] [(.int p2), (.int pn), (.int (0 : Int32)), (.ref av)])) rfl (by rw [hml]; rfl) (argsL := [(.ref av), (.int (0 : Int32)), (.int pn), (.int p2)]) (rest := []) (lenOf pd_5 rfl) rfl (by show 2 * 0 + _ ≤ _; exact Nat.le_of_eq rfl) (hb hby d9_46) (fun _ _ => ⟨rfl, hE20, (by decide : 0 + 0 ≤ _), (by decide : 0 + 0 ≤ _)⟩)
    dsimp only [Pt.U, Pt.locs, Pt.cells, Pt.slots] at X21 l21 y21 z21 st21 hQ21
    subst l21 y21 z21
    obtain ⟨rr, rfl, N21q, hE21, sp⟩ := hQ21
    have N21 := Fr.app N0 N21q
    have pre22 : ∀ t, Steps p.tables e below (T21.setTop (mkF m 51 #[.val (.ref a1), .val (.int p2), .val (.int (fv (cn - 1))), .val (.int rr)] [(.int rr)])) t → Steps p.tables e below (s₁.setTop (entryFrame m #[(.ref a1), (.int p2)] 4)) t := by
      intro t kt
      refine pre4 _ ?_
      show Steps p.tables e below (T3.setTop (mkF m 26 #[.val (.ref a1), .val (.int p2), .val (.int (fv (cn - 1))), .unset] [(.int (fv (cn - 1))), (.int p2)])) _
      refine XS.icmpYes X3.here hx rfl (pc0 := 26) (pc' := 36) rfl (hb hby d9_26) rfl (XT.ii_le_t hc26_5) (by decide) (by decide) ?_
      show Steps p.tables e below (T3.setTop (mkF m 36 #[.val (.ref a1), .val (.int p2), .val (.int (fv (cn - 1))), .unset] [])) _
      refine XS.aloadN X3.here hx rfl (hb hby d9_36) rfl rfl ?_
      show Steps p.tables e below (T3.setTop (mkF m 37 #[.val (.ref a1), .val (.int p2), .val (.int (fv (cn - 1))), .unset] [(.ref a1)])) _
      refine st19 _ ?_
      show Steps p.tables e below (T19.setTop (mkF m 40 #[.val (.ref a1), .val (.int p2), .val (.int (fv (cn - 1))), .unset] [(.ref av)])) _
      refine XS.iconst X19.here hx rfl (hb hby d9_40) ?_
      show Steps p.tables e below (T19.setTop (mkF m 41 #[.val (.ref a1), .val (.int p2), .val (.int (fv (cn - 1))), .unset] [(.int (0 : Int32)), (.ref av)])) _
      refine XS.aloadN X19.here hx rfl (hb hby d9_41) rfl rfl ?_
      show Steps p.tables e below (T19.setTop (mkF m 42 #[.val (.ref a1), .val (.int p2), .val (.int (fv (cn - 1))), .unset] [(.ref a1), (.int (0 : Int32)), (.ref av)])) _
      refine st20 _ ?_
      show Steps p.tables e below (T20.setTop (mkF m 45 #[.val (.ref a1), .val (.int p2), .val (.int (fv (cn - 1))), .unset] [(.int pn), (.int (0 : Int32)), (.ref av)])) _
      refine XS.iloadN X20.here hx rfl (hb hby d9_45) rfl ?_
      show Steps p.tables e below (T20.setTop (mkF m 46 #[.val (.ref a1), .val (.int p2), .val (.int (fv (cn - 1))), .unset] [(.int p2), (.int pn), (.int (0 : Int32)), (.ref av)])) _
      refine st21 _ ?_
      show Steps p.tables e below (T21.setTop (mkF m 49 #[.val (.ref a1), .val (.int p2), .val (.int (fv (cn - 1))), .unset] [(.int rr)])) _
      refine XS.istoreN X21.here hx rfl (hb hby d9_49) rfl (l' := #[.val (.ref a1), .val (.int p2), .val (.int (fv (cn - 1))), .val (.int rr)]) rfl ?_
      show Steps p.tables e below (T21.setTop (mkF m 50 #[.val (.ref a1), .val (.int p2), .val (.int (fv (cn - 1))), .val (.int rr)] [])) _
      refine XS.iloadN X21.here hx rfl (hb hby d9_50) rfl ?_
      exact kt
    by_cases hc51_23 : rr < (0 : Int32)
    · skip
      obtain ⟨T24, X24, hE24, st24⟩ := getF X21 hx hZ hown (host := "") (Or.inl (hw _ (List.mem_of_getElem? (i := 23) rfl))) Via.refl hE21 F_cardinality (g := (mkF m 57 #[.val (.ref a1), .val (.int p2), .val (.int (fv (cn - 1))), .val (.int rr)] [(.ref a1)])) rfl rfl (hb hby d9_57)
      obtain ⟨ki, hk0, hki, hk1, hk2⟩ := sp.2 (by rw [Int32.lt_iff_toInt_lt] at hc51_23; have o : (0 : Int32).toInt = 0 := rfl; omega)
      have pre25 : ∀ t, Steps p.tables e below (T24.setTop (mkF m 79 #[.val (.ref a1), .val (.int p2), .val (.int (fv (cn - 1))), .val (.int rr)] [(.int ((-rr) - (1 : Int32)))])) t → Steps p.tables e below (s₁.setTop (entryFrame m #[(.ref a1), (.int p2)] 4)) t := by
        intro t kt
        refine pre22 _ ?_
        show Steps p.tables e below (T21.setTop (mkF m 51 #[.val (.ref a1), .val (.int p2), .val (.int (fv (cn - 1))), .val (.int rr)] [(.int rr)])) _
        refine XS.ifYes X21.here hx rfl (pc0 := 51) (pc' := 56) rfl (hb hby d9_51) rfl (XT.i0_lt_t hc51_23) (by decide) (by decide) ?_
        show Steps p.tables e below (T21.setTop (mkF m 56 #[.val (.ref a1), .val (.int p2), .val (.int (fv (cn - 1))), .val (.int rr)] [])) _
        refine XS.aloadN X21.here hx rfl (hb hby d9_56) rfl rfl ?_
        show Steps p.tables e below (T21.setTop (mkF m 57 #[.val (.ref a1), .val (.int p2), .val (.int (fv (cn - 1))), .val (.int rr)] [(.ref a1)])) _
        refine st24 _ ?_
        show Steps p.tables e below (T24.setTop (mkF m 60 #[.val (.ref a1), .val (.int p2), .val (.int (fv (cn - 1))), .val (.int rr)] [(.int pn)])) _
        refine XS.sipush X24.here hx rfl (hb hby d9_60) ?_
        show Steps p.tables e below (T24.setTop (mkF m 63 #[.val (.ref a1), .val (.int p2), .val (.int (fv (cn - 1))), .val (.int rr)] [(.int (4096 : Int32)), (.int pn)])) _
        refine XS.icmpYes X24.here hx rfl (pc0 := 63) (pc' := 75) rfl (hb hby d9_63) rfl (XT.ii_ne_t (own_nk _ hcn (k := 4096) rfl (by omega))) (by decide) (by decide) ?_
        show Steps p.tables e below (T24.setTop (mkF m 75 #[.val (.ref a1), .val (.int p2), .val (.int (fv (cn - 1))), .val (.int rr)] [])) _
        refine XS.iloadN X24.here hx rfl (hb hby d9_75) rfl ?_
        show Steps p.tables e below (T24.setTop (mkF m 76 #[.val (.ref a1), .val (.int p2), .val (.int (fv (cn - 1))), .val (.int rr)] [(.int rr)])) _
        refine XS.ineg X24.here hx rfl (hb hby d9_76) rfl ?_
        show Steps p.tables e below (T24.setTop (mkF m 77 #[.val (.ref a1), .val (.int p2), .val (.int (fv (cn - 1))), .val (.int rr)] [(.int (-rr))])) _
        refine XS.iconst X24.here hx rfl (hb hby d9_77) ?_
        show Steps p.tables e below (T24.setTop (mkF m 78 #[.val (.ref a1), .val (.int p2), .val (.int (fv (cn - 1))), .val (.int rr)] [(.int (1 : Int32)), (.int (-rr))])) _
        refine XS.isub X24.here hx rfl (hb hby d9_78) rfl ?_
        exact kt
      obtain ⟨ix, h_ix⟩ : ∃ z : Int32, z = ((-rr) - (1 : Int32)) := ⟨_, rfl⟩
      have pre26 : ∀ t, Steps p.tables e below (T24.setTop (mkF m 79 #[.val (.ref a1), .val (.int p2), .val (.int (fv (cn - 1))), .val (.int rr)] [(.int ix)])) t → Steps p.tables e below (s₁.setTop (entryFrame m #[(.ref a1), (.int p2)] 4)) t := by
        intro t kt
        rw [h_ix] at kt
        exact pre25 _ kt
      have h_ki : ix.toInt = (ki : Int) := by rw [h_ix]; exact own_ixk hk0 (by omega)
      obtain ⟨T27, X27, hE27, st27⟩ := getS2 X24 hx hZ hown (host := "") (Or.inl (hw _ (List.mem_of_getElem? (i := 8) rfl))) Via.refl hE24 S_none (g := (mkF m 87 #[.val (.ref a1), .val (.int p2), .val (.int (fv (cn - 1))), .val (.int ix)] [(.int (p2 + (1 : Int32))), (.int p2), (.int ix), (.int ix), (.ref a1)])) rfl (hb hby d9_87)
      obtain ⟨cq28, q28, q28'⟩ := E_a1.cell
      obtain ⟨_, _, ⟨T28, L28, k28, n28⟩, -, X28, ⟨Lc28, hQ28, l28, y28, z28⟩, st28⟩ := X27.privateBack hx (y := (⟨"com/example/bitweight/bitweight/chunk/ArrayChunk", "replace", "(IIII[C)V"⟩ : MethodName)) hown (mvT hZ (hw _ (List.mem_of_getElem? (i := 95) rfl))) (mvT hZ (hw _ (List.mem_of_getElem? (i := 96) rfl))) (owSel (mvT hZ (hw _ (List.mem_of_getElem? (i := 3) rfl))) (Cond.privateMethod_at (mvP hZ (hw _ (List.mem_of_getElem? (i := 97) rfl)) (args := #[]))) (mvT hZ (hw _ (List.mem_of_getElem? (i := 96) rfl))) (by decide)) (Cond.privateMethod_at (mvP hZ (hw _ (List.mem_of_getElem? (i := 97) rfl)) (args := #[]))) (mvT hZ (hw _ (List.mem_of_getElem? (i := 98) rfl))) (by decide) (backOf (W := 0) (rm19 l Z a0 hw [] a1 ix p2 an av ar pn ur fv cn ki h0 n0 Z0 E_a1 F_values F_cardinality F_runs A_av A_an S_room E_ar g_a1 g_av n1v n1n nvn hp2 hcn hc1 (by omega) h_ki hki ok) hZ (hw _ (List.mem_of_getElem? (i := 98) rfl)) (hw _ (List.mem_of_getElem? (i := 4) rfl)) (by decide) (by decide)) (g := (mkF m 90 #[.val (.ref a1), .val (.int p2), .val (.int (fv (cn - 1))), .val (.int ix)] [(.ref an), (.int (p2 + (1 : Int32))), (.int p2), (.int ix), (.int ix), (.ref a1)])) rfl (by rw [hml]; rfl) (Steps.refl _) (a := a1) (by rw [hE27]; exact q28) q28' (argsL := [(.int ix), (.int ix), (.int p2), (.int (p2 + (1 : Int32))), (.ref an)]) (rest := []) (lenOf pd_8 rfl) rfl (by show 2 * 0 + _ ≤ _; exact Nat.le_of_eq rfl) (hb hby d9_90) (fun _ _ => ⟨rfl, hE27, (by decide : 0 + 0 ≤ _), (by decide : 0 + 0 ≤ _)⟩)
      dsimp only [Pt.U, Pt.locs, Pt.cells, Pt.slots] at X28 l28 y28 z28 st28 hQ28
      subst l28 y28 z28
      obtain ⟨rn, rfl, N28q, K28, p28_E, p28_v, p28_c, p28_r, p28_A⟩ := hQ28
      have N28 := Fr.app N21 N28q
      have f29 := E_a1.keep K28
      have f34 := A_an.keep K28 (ninS (Ne.symm n1n) (ninS (Ne.symm nvn) nin0))
      have f37 := E_ar.keep K28
      have Z38 := Nat.le_trans Z0 K28.1
      have K39 := (Keep.refl h0 [a1, av]).trans K28 (allS (Or.inl (List.mem_of_getElem? (i := 0) rfl)) (allS (Or.inl (List.mem_of_getElem? (i := 1) rfl)) all0))
      have pre40 : ∀ t, Steps p.tables e below (T28.setTop (mkF m 94 #[.val (.ref a1), .val (.int p2), .val (.int (fv (cn - 1))), .val (.int ix)] [(.ref a1)])) t → Steps p.tables e below (s₁.setTop (entryFrame m #[(.ref a1), (.int p2)] 4)) t := by
        intro t kt
        refine pre26 _ ?_
        show Steps p.tables e below (T24.setTop (mkF m 79 #[.val (.ref a1), .val (.int p2), .val (.int (fv (cn - 1))), .val (.int rr)] [(.int ix)])) _
        refine XS.istoreN X24.here hx rfl (hb hby d9_79) rfl (l' := #[.val (.ref a1), .val (.int p2), .val (.int (fv (cn - 1))), .val (.int ix)]) rfl ?_
        show Steps p.tables e below (T24.setTop (mkF m 80 #[.val (.ref a1), .val (.int p2), .val (.int (fv (cn - 1))), .val (.int ix)] [])) _
        refine XS.aloadN X24.here hx rfl (hb hby d9_80) rfl rfl ?_
        show Steps p.tables e below (T24.setTop (mkF m 81 #[.val (.ref a1), .val (.int p2), .val (.int (fv (cn - 1))), .val (.int ix)] [(.ref a1)])) _
        refine XS.iloadN X24.here hx rfl (hb hby d9_81) rfl ?_
        show Steps p.tables e below (T24.setTop (mkF m 82 #[.val (.ref a1), .val (.int p2), .val (.int (fv (cn - 1))), .val (.int ix)] [(.int ix), (.ref a1)])) _
        refine XS.iloadN X24.here hx rfl (hb hby d9_82) rfl ?_
        show Steps p.tables e below (T24.setTop (mkF m 83 #[.val (.ref a1), .val (.int p2), .val (.int (fv (cn - 1))), .val (.int ix)] [(.int ix), (.int ix), (.ref a1)])) _
        refine XS.iloadN X24.here hx rfl (hb hby d9_83) rfl ?_
        show Steps p.tables e below (T24.setTop (mkF m 84 #[.val (.ref a1), .val (.int p2), .val (.int (fv (cn - 1))), .val (.int ix)] [(.int p2), (.int ix), (.int ix), (.ref a1)])) _
        refine XS.iloadN X24.here hx rfl (hb hby d9_84) rfl ?_
        show Steps p.tables e below (T24.setTop (mkF m 85 #[.val (.ref a1), .val (.int p2), .val (.int (fv (cn - 1))), .val (.int ix)] [(.int p2), (.int p2), (.int ix), (.int ix), (.ref a1)])) _
        refine XS.iconst X24.here hx rfl (hb hby d9_85) ?_
        show Steps p.tables e below (T24.setTop (mkF m 86 #[.val (.ref a1), .val (.int p2), .val (.int (fv (cn - 1))), .val (.int ix)] [(.int (1 : Int32)), (.int p2), (.int p2), (.int ix), (.int ix), (.ref a1)])) _
        refine XS.iadd X24.here hx rfl (hb hby d9_86) rfl ?_
        show Steps p.tables e below (T24.setTop (mkF m 87 #[.val (.ref a1), .val (.int p2), .val (.int (fv (cn - 1))), .val (.int ix)] [(.int (p2 + (1 : Int32))), (.int p2), (.int ix), (.int ix), (.ref a1)])) _
        refine st27 _ ?_
        show Steps p.tables e below (T27.setTop (mkF m 90 #[.val (.ref a1), .val (.int p2), .val (.int (fv (cn - 1))), .val (.int ix)] [(.ref an), (.int (p2 + (1 : Int32))), (.int p2), (.int ix), (.int ix), (.ref a1)])) _
        refine st28.trans ?_
        show Steps p.tables e below (T28.setTop (mkF m 93 #[.val (.ref a1), .val (.int p2), .val (.int (fv (cn - 1))), .val (.int ix)] [])) _
        refine XS.aloadN X28.here hx rfl (hb hby d9_93) rfl rfl ?_
        exact kt
      obtain ⟨fs, hr, hrun, hended, hW, hsame⟩ := X28.leave (v := some (.ref a1)) (fun h => by rw [Bd.returns] at h; cases h)
      refine ⟨_, _, pre40 _ ?_, hrun, hended, _, _, rfl, ?_, ⟨_, rfl⟩, hW, hsame.mono (by decide) (by decide)⟩
      · show Steps p.tables e below (T28.setTop (mkF m 94 #[.val (.ref a1), .val (.int p2), .val (.int (fv (cn - 1))), .val (.int ix)] [(.ref a1)])) _
        exact X28.areturnOut hx rfl Bd.returns rfl (hb hby d9_94) hr
      · show Q9b Z a1 p2 av an ar pn ur fv cn h0 n0 _ T28.heap _
        exact ⟨_, _, _, cn + 1, rfl, N28, K39, p28_E, p28_v, p28_c, p28_r, p28_A, own_p1 hcn (by omega), own_res_ins ok hp2 hki hk1 hk2⟩
    · skip
      have pre41 : ∀ t, Steps p.tables e below (T21.setTop (mkF m 55 #[.val (.ref a1), .val (.int p2), .val (.int (fv (cn - 1))), .val (.int rr)] [(.ref a1)])) t → Steps p.tables e below (s₁.setTop (entryFrame m #[(.ref a1), (.int p2)] 4)) t := by
        intro t kt
        refine pre22 _ ?_
        show Steps p.tables e below (T21.setTop (mkF m 51 #[.val (.ref a1), .val (.int p2), .val (.int (fv (cn - 1))), .val (.int rr)] [(.int rr)])) _
        refine XS.ifNo X21.here hx rfl (hb hby d9_51) rfl (XT.i0_lt_f hc51_23) ?_
        show Steps p.tables e below (T21.setTop (mkF m 54 #[.val (.ref a1), .val (.int p2), .val (.int (fv (cn - 1))), .val (.int rr)] [])) _
        refine XS.aloadN X21.here hx rfl (hb hby d9_54) rfl rfl ?_
        exact kt
      obtain ⟨fs, hr, hrun, hended, hW, hsame⟩ := X21.leave (v := some (.ref a1)) (fun h => by rw [Bd.returns] at h; cases h)
      refine ⟨_, _, pre41 _ ?_, hrun, hended, _, _, rfl, ?_, ⟨_, rfl⟩, hW, hsame.mono (by decide) (by decide)⟩
      · show Steps p.tables e below (T21.setTop (mkF m 55 #[.val (.ref a1), .val (.int p2), .val (.int (fv (cn - 1))), .val (.int rr)] [(.ref a1)])) _
        exact X21.areturnOut hx rfl Bd.returns rfl (hb hby d9_55) hr
      · show Q9b Z a1 p2 av an ar pn ur fv cn h0 n0 _ T21.heap _
        rw [hE21]
        exact ⟨_, _, _, cn, rfl, N21, (Keep.refl h0 [a1, av]), E_a1, F_values, F_cardinality, F_runs, A_av, hcn, own_res_found ok hc1 (sp.1 (by rw [Int32.lt_iff_toInt_lt] at hc51_23; have o : (0 : Int32).toInt = 0 := rfl; omega))⟩
def own_kx (v : Int32) : Nat := (v.toInt / 64).toNat
theorem own_kx1 {v : Int32} (h : 0 ≤ v.toInt ∧ v.toInt < 65536) : ((v.toUInt32 >>> ((6 : Int32) &&& 31).toUInt32).toInt32).toInt = (own_kx v : Int) := by
  have h1 := c_iushr v 6 6 (by decide) (by decide)
  rw [h1]; unfold own_kx; omega
theorem own_kx2 {v : Int32} (h : 0 ≤ v.toInt ∧ v.toInt < 65536) : own_kx v < 1024 := by unfold own_kx; omega
theorem own_kd {v w : Int32} (h : 0 ≤ v.toInt ∧ v.toInt < 65536) (hw : w = (v / (64 : Int32))) : w.toInt = (own_kx v : Int) := by
  have h1 := (c_idiv v 64 64 rfl (by decide)).1 h.1
  rw [hw, h1]; unfold own_kx; omega

def orf (pn : Int32) (fv : Nat → Int32) (fz : Nat → Int64) : Nat → Int64 := (if (0 : Int32) < pn then (if (1 : Int32) < pn then (if (2 : Int32) < pn then (owUp (owUp (owUp fz (own_kx (fv 0)) ((fz (own_kx (fv 0))) ||| ((1 : Int64) <<< ((fv 0) &&& 0x3f).toInt64))) (own_kx (fv 1)) (((owUp fz (own_kx (fv 0)) ((fz (own_kx (fv 0))) ||| ((1 : Int64) <<< ((fv 0) &&& 0x3f).toInt64))) (own_kx (fv 1))) ||| ((1 : Int64) <<< ((fv 1) &&& 0x3f).toInt64))) (own_kx (fv 2)) (((owUp (owUp fz (own_kx (fv 0)) ((fz (own_kx (fv 0))) ||| ((1 : Int64) <<< ((fv 0) &&& 0x3f).toInt64))) (own_kx (fv 1)) (((owUp fz (own_kx (fv 0)) ((fz (own_kx (fv 0))) ||| ((1 : Int64) <<< ((fv 0) &&& 0x3f).toInt64))) (own_kx (fv 1))) ||| ((1 : Int64) <<< ((fv 1) &&& 0x3f).toInt64))) (own_kx (fv 2))) ||| ((1 : Int64) <<< ((fv 2) &&& 0x3f).toInt64))) else (owUp (owUp fz (own_kx (fv 0)) ((fz (own_kx (fv 0))) ||| ((1 : Int64) <<< ((fv 0) &&& 0x3f).toInt64))) (own_kx (fv 1)) (((owUp fz (own_kx (fv 0)) ((fz (own_kx (fv 0))) ||| ((1 : Int64) <<< ((fv 0) &&& 0x3f).toInt64))) (own_kx (fv 1))) ||| ((1 : Int64) <<< ((fv 1) &&& 0x3f).toInt64)))) else (owUp fz (own_kx (fv 0)) ((fz (own_kx (fv 0))) ||| ((1 : Int64) <<< ((fv 0) &&& 0x3f).toInt64)))) else fz)
theorem d5_0 : decode prog_22_method_37_code 0 = .ok (.iconst 0, 1) := by decide +kernel
theorem d5_1 : decode prog_22_method_37_code 1 = .ok (.istore_n 2, 1) := by decide +kernel
theorem d5_2 : decode prog_22_method_37_code 2 = .ok (.iload_n 2, 1) := by decide +kernel
theorem d5_3 : decode prog_22_method_37_code 3 = .ok (.aload_n 0, 1) := by decide +kernel
theorem d5_4 : decode prog_22_method_37_code 4 = .ok (.getfield 19, 3) := by decide +kernel
theorem d5_7 : decode prog_22_method_37_code 7 = .ok (.if_icmp .ge 31, 3) := by decide +kernel
theorem d5_10 : decode prog_22_method_37_code 10 = .ok (.aload_n 1, 1) := by decide +kernel
theorem d5_11 : decode prog_22_method_37_code 11 = .ok (.aload_n 0, 1) := by decide +kernel
theorem d5_12 : decode prog_22_method_37_code 12 = .ok (.getfield 16, 3) := by decide +kernel
theorem d5_15 : decode prog_22_method_37_code 15 = .ok (.iload_n 2, 1) := by decide +kernel
theorem d5_16 : decode prog_22_method_37_code 16 = .ok (.caload, 1) := by decide +kernel
theorem d5_17 : decode prog_22_method_37_code 17 = .ok (.bipush 6, 2) := by decide +kernel
theorem d5_19 : decode prog_22_method_37_code 19 = .ok (.iushr, 1) := by decide +kernel
theorem d5_20 : decode prog_22_method_37_code 20 = .ok (.dup2, 1) := by decide +kernel
theorem d5_21 : decode prog_22_method_37_code 21 = .ok (.laload, 1) := by decide +kernel
theorem d5_22 : decode prog_22_method_37_code 22 = .ok (.lconst 1, 1) := by decide +kernel
theorem d5_23 : decode prog_22_method_37_code 23 = .ok (.aload_n 0, 1) := by decide +kernel
theorem d5_24 : decode prog_22_method_37_code 24 = .ok (.getfield 16, 3) := by decide +kernel
theorem d5_27 : decode prog_22_method_37_code 27 = .ok (.iload_n 2, 1) := by decide +kernel
theorem d5_28 : decode prog_22_method_37_code 28 = .ok (.caload, 1) := by decide +kernel
theorem d5_29 : decode prog_22_method_37_code 29 = .ok (.lshl, 1) := by decide +kernel
theorem d5_30 : decode prog_22_method_37_code 30 = .ok (.lor, 1) := by decide +kernel
theorem d5_31 : decode prog_22_method_37_code 31 = .ok (.lastore, 1) := by decide +kernel
theorem d5_32 : decode prog_22_method_37_code 32 = .ok (.iinc 2 1, 3) := by decide +kernel
theorem d5_35 : decode prog_22_method_37_code 35 = .ok (.goto (-33), 3) := by decide +kernel
theorem d5_38 : decode prog_22_method_37_code 38 = .ok (.return_, 1) := by decide +kernel
theorem pn_5 : plainName "com/example/bitweight/bitweight/chunk/ArrayChunk" = true := by first | (simp [plainName, overriddenIn]; done) | decide +kernel
theorem ef_5 (m : MethodId) (x0 : Addr) (x1 : Addr) : entryFrame m #[(.ref x0), (.ref x1)] 3 = mkF m 0 #[.val (.ref x0), .val (.ref x1), .unset] [] := by first | (simp [entryFrame, mkF, argsToLocals, Value.category]; done) | rfl
def Q5 (Z : State) (a1 : Addr) (a2 : Addr) (av : Addr) (pn : Int32) (fv : Nat → Int32) (fz : Nat → Int64) (h0 : Heap) (n0 : Nat) (v : Option Value) (h : Heap) (L : List Loc) : Prop := v = none ∧ Fr n0 L ∧ Keep h0 h [a2] ∧ owAJ Z h a2 .long 1024 (orf pn fv fz)
set_option maxRecDepth 65536 in
set_option maxHeartbeats 40000000 in
theorem rm5 (l : Launch) (Z : State) (a0 : Array Value) (hw : ∀ d ∈ tables_1, d.before a0 Z = true) (ws : List Jvm.Cond) (a1 : Addr) (a2 : Addr) (av : Addr) (pn : Int32) (fv : Nat → Int32) (fz : Nat → Int64) (h0 : Heap) (n0 : Nat) (Z0 : n0 ≤ h0.size) (F_values : Fld Z h0 a1 "com/example/bitweight/bitweight/chunk/ArrayChunk" "values" "[C" (.ref av)) (F_cardinality : Fld Z h0 a1 "com/example/bitweight/bitweight/chunk/ArrayChunk" "cardinality" "I" (.int pn)) (A_av : pn = (0 : Int32) ∨ owAI Z h0 av .char 4 fv) (A_a2 : owAJ Z h0 a2 .long 1024 fz) (g_a2 : n0 ≤ a2) (n12 : a1 ≠ a2) (nv2 : av ≠ a2) (hfv : ∀ i, 0 ≤ (fv i).toInt ∧ (fv i).toInt < 65536) (hp3 : ¬ ((3 : Int32) < pn)) :
    MetFree l (⟨"com/example/bitweight/bitweight/chunk/ArrayChunk", "orInto", "([J)V"⟩ : MethodName) (head1 (Jvm.Cond.code (⟨"com/example/bitweight/bitweight/chunk/ArrayChunk", "orInto", "([J)V"⟩ : MethodName) prog_22_method_37_code 3 none :: ws) ({ frames := 0, cells := 0, slots := 0, locals := 0 } : Room)) (fun a U => a = #[(.ref a1), (.ref a2)] ∧ Z.Warmed39 U.vm ∧ U.heap = h0) (fun _ _ _ _ _ => True) (fun _ U o U' => ∃ v L, o = .returned v ∧ Q5 Z a1 a2 av pn fv fz h0 n0 v U'.heap L ∧ FrameEnd U o U' L ({ frames := 0, cells := 0, slots := 0, locals := 0 } : Room).cells ({ frames := 0, cells := 0, slots := 0, locals := 0 } : Room).slots) := by
  refine MetFree.of_bodySF (plainFor_of_name pn_5) hisR ?_
  intro p e s m args below meth c s₁ Bd hml0 hP hK
  obtain ⟨rfl, hZ, hh⟩ := hP
  have hx := Bd.exec
  have hby := Bd.bytes
  have hml : c.maxLocals = 3 := hml0
  have hown : s.vm.findClass "com/example/bitweight/bitweight/chunk/ArrayChunk" = some m.cls := findClass_of_methodNamed Bd.named
  have hnm := (name_of_methodNamed Bd.named Bd.method).1
  have X0 : Stand p l e ({ frames := 0, cells := 0, slots := 0, locals := 0 } : Room) s m #[(.ref a1), (.ref a2)] below meth c s₁ [] 0 0 := Stand.of_body Bd
  have e0 : s₁.heap = h0 := by rw [← hh, Bd.state]; rfl
  have N0 := Fr.nil n0
  have pre0 : ∀ t, Steps p.tables e below (s₁.setTop (mkF m 0 #[.val (.ref a1), .val (.ref a2), .unset] [])) t → Steps p.tables e below (s₁.setTop (entryFrame m #[(.ref a1), (.ref a2)] 3)) t := fun t k => castTop (ef_5 m a1 a2) k
  obtain ⟨T1, X1, hE1, st1⟩ := getF X0 hx hZ hown (host := "") (Or.inl (hw _ (List.mem_of_getElem? (i := 23) rfl))) Via.refl e0 F_cardinality (g := (mkF m 4 #[.val (.ref a1), .val (.ref a2), .val (.int (0 : Int32))] [(.ref a1), (.int (0 : Int32))])) rfl rfl (hb hby d5_4)
  have pre2 : ∀ t, Steps p.tables e below (T1.setTop (mkF m 7 #[.val (.ref a1), .val (.ref a2), .val (.int (0 : Int32))] [(.int pn), (.int (0 : Int32))])) t → Steps p.tables e below (s₁.setTop (entryFrame m #[(.ref a1), (.ref a2)] 3)) t := by
    intro t kt
    refine pre0 _ ?_
    show Steps p.tables e below (s₁.setTop (mkF m 0 #[.val (.ref a1), .val (.ref a2), .unset] [])) _
    refine XS.iconst X0.here hx rfl (hb hby d5_0) ?_
    show Steps p.tables e below (s₁.setTop (mkF m 1 #[.val (.ref a1), .val (.ref a2), .unset] [(.int (0 : Int32))])) _
    refine XS.istoreN X0.here hx rfl (hb hby d5_1) rfl (l' := #[.val (.ref a1), .val (.ref a2), .val (.int (0 : Int32))]) rfl ?_
    show Steps p.tables e below (s₁.setTop (mkF m 2 #[.val (.ref a1), .val (.ref a2), .val (.int (0 : Int32))] [])) _
    refine XS.iloadN X0.here hx rfl (hb hby d5_2) rfl ?_
    show Steps p.tables e below (s₁.setTop (mkF m 3 #[.val (.ref a1), .val (.ref a2), .val (.int (0 : Int32))] [(.int (0 : Int32))])) _
    refine XS.aloadN X0.here hx rfl (hb hby d5_3) rfl rfl ?_
    show Steps p.tables e below (s₁.setTop (mkF m 4 #[.val (.ref a1), .val (.ref a2), .val (.int (0 : Int32))] [(.ref a1), (.int (0 : Int32))])) _
    refine st1 _ ?_
    exact kt
  by_cases hc7_3 : (0 : Int32) < pn
  · skip
    have A_v := A_av.resolve_left (fun q => by rw [q] at hc7_3; exact absurd hc7_3 (by decide))
    obtain ⟨T4, X4, hE4, st4⟩ := getF X1 hx hZ hown (host := "") (Or.inl (hw _ (List.mem_of_getElem? (i := 21) rfl))) Via.refl hE1 F_values (g := (mkF m 12 #[.val (.ref a1), .val (.ref a2), .val (.int (0 : Int32))] [(.ref a1), (.ref a2)])) rfl rfl (hb hby d5_12)
    obtain ⟨T5, X5, hE5, st5⟩ := getF X4 hx hZ hown (host := "") (Or.inl (hw _ (List.mem_of_getElem? (i := 21) rfl))) Via.refl hE4 F_values (g := (mkF m 24 #[.val (.ref a1), .val (.ref a2), .val (.int (0 : Int32))] [(.ref a1), (.long (1 : Int64)), (.long (fz (own_kx (fv 0)))), (.int (((fv 0).toUInt32 >>> ((6 : Int32) &&& 31).toUInt32).toInt32)), (.ref a2)])) rfl rfl (hb hby d5_24)
    obtain ⟨T6, gh6, X6, hE6, W6, V6, st6⟩ := owStJ X5 hx hZ hE5 A_a2 (k := (own_kx (fv 0))) (j := (((fv 0).toUInt32 >>> ((6 : Int32) &&& 31).toUInt32).toInt32)) (own_kx1 (hfv 0)) (own_kx2 (hfv 0)) (g := (mkF m 31 #[.val (.ref a1), .val (.ref a2), .val (.int (0 : Int32))] [(.long ((fz (own_kx (fv 0))) ||| ((1 : Int64) <<< ((fv 0) &&& 0x3f).toInt64))), (.int (((fv 0).toUInt32 >>> ((6 : Int32) &&& 31).toUInt32).toInt32)), (.ref a2)])) rfl rfl (hb hby d5_31)
    have f7 := F_values.other W6 (Or.inl n12)
    have f8 := F_cardinality.other W6 (Or.inl n12)
    have f10 := A_v.other W6 nv2
    have Z11 := Nat.le_trans Z0 (Keep.of_wr W6).1
    have N12 := Fr.snoc X6 N0 g_a2
    have K13 := (Keep.refl h0 [a2]).wr W6 (Or.inl (List.mem_of_getElem? (i := 0) rfl))
    obtain ⟨T14, X14, hE14, st14⟩ := getF X6 hx hZ hown (host := "") (Or.inl (hw _ (List.mem_of_getElem? (i := 23) rfl))) Via.refl hE6 f8 (g := (mkF m 4 #[.val (.ref a1), .val (.ref a2), .val (.int (1 : Int32))] [(.ref a1), (.int (1 : Int32))])) rfl rfl (hb hby d5_4)
    have pre15 : ∀ t, Steps p.tables e below (T14.setTop (mkF m 7 #[.val (.ref a1), .val (.ref a2), .val (.int (1 : Int32))] [(.int pn), (.int (1 : Int32))])) t → Steps p.tables e below (s₁.setTop (entryFrame m #[(.ref a1), (.ref a2)] 3)) t := by
      intro t kt
      refine pre2 _ ?_
      show Steps p.tables e below (T1.setTop (mkF m 7 #[.val (.ref a1), .val (.ref a2), .val (.int (0 : Int32))] [(.int pn), (.int (0 : Int32))])) _
      refine XS.icmpNo X1.here hx rfl (hb hby d5_7) rfl (XT.ii_ge_f hc7_3) ?_
      show Steps p.tables e below (T1.setTop (mkF m 10 #[.val (.ref a1), .val (.ref a2), .val (.int (0 : Int32))] [])) _
      refine XS.aloadN X1.here hx rfl (hb hby d5_10) rfl rfl ?_
      show Steps p.tables e below (T1.setTop (mkF m 11 #[.val (.ref a1), .val (.ref a2), .val (.int (0 : Int32))] [(.ref a2)])) _
      refine XS.aloadN X1.here hx rfl (hb hby d5_11) rfl rfl ?_
      show Steps p.tables e below (T1.setTop (mkF m 12 #[.val (.ref a1), .val (.ref a2), .val (.int (0 : Int32))] [(.ref a1), (.ref a2)])) _
      refine st4 _ ?_
      show Steps p.tables e below (T4.setTop (mkF m 15 #[.val (.ref a1), .val (.ref a2), .val (.int (0 : Int32))] [(.ref av), (.ref a2)])) _
      refine XS.iloadN X4.here hx rfl (hb hby d5_15) rfl ?_
      show Steps p.tables e below (T4.setTop (mkF m 16 #[.val (.ref a1), .val (.ref a2), .val (.int (0 : Int32))] [(.int (0 : Int32)), (.ref av), (.ref a2)])) _
      refine owLdC (k := 0) X4 hx hZ hE4 A_v (j := (0 : Int32)) rfl (by decide) (g := (mkF m 16 #[.val (.ref a1), .val (.ref a2), .val (.int (0 : Int32))] [(.int (0 : Int32)), (.ref av), (.ref a2)])) rfl rfl (hb hby d5_16) _ ?_
      show Steps p.tables e below (T4.setTop (mkF m 17 #[.val (.ref a1), .val (.ref a2), .val (.int (0 : Int32))] [(.int (fv 0)), (.ref a2)])) _
      refine XS.bipush X4.here hx rfl (hb hby d5_17) ?_
      show Steps p.tables e below (T4.setTop (mkF m 19 #[.val (.ref a1), .val (.ref a2), .val (.int (0 : Int32))] [(.int (6 : Int32)), (.int (fv 0)), (.ref a2)])) _
      refine XS.iushr X4.here hx rfl (hb hby d5_19) rfl ?_
      show Steps p.tables e below (T4.setTop (mkF m 20 #[.val (.ref a1), .val (.ref a2), .val (.int (0 : Int32))] [(.int (((fv 0).toUInt32 >>> ((6 : Int32) &&& 31).toUInt32).toInt32)), (.ref a2)])) _
      refine XT.dup2 X4.here hx rfl (hb hby d5_20) rfl rfl rfl ?_
      show Steps p.tables e below (T4.setTop (mkF m 21 #[.val (.ref a1), .val (.ref a2), .val (.int (0 : Int32))] [(.int (((fv 0).toUInt32 >>> ((6 : Int32) &&& 31).toUInt32).toInt32)), (.ref a2), (.int (((fv 0).toUInt32 >>> ((6 : Int32) &&& 31).toUInt32).toInt32)), (.ref a2)])) _
      refine owLdJ (k := (own_kx (fv 0))) X4 hx hZ hE4 A_a2 (j := (((fv 0).toUInt32 >>> ((6 : Int32) &&& 31).toUInt32).toInt32)) (own_kx1 (hfv 0)) (own_kx2 (hfv 0)) (g := (mkF m 21 #[.val (.ref a1), .val (.ref a2), .val (.int (0 : Int32))] [(.int (((fv 0).toUInt32 >>> ((6 : Int32) &&& 31).toUInt32).toInt32)), (.ref a2), (.int (((fv 0).toUInt32 >>> ((6 : Int32) &&& 31).toUInt32).toInt32)), (.ref a2)])) rfl rfl (hb hby d5_21) _ ?_
      show Steps p.tables e below (T4.setTop (mkF m 22 #[.val (.ref a1), .val (.ref a2), .val (.int (0 : Int32))] [(.long (fz (own_kx (fv 0)))), (.int (((fv 0).toUInt32 >>> ((6 : Int32) &&& 31).toUInt32).toInt32)), (.ref a2)])) _
      refine XS.lconst X4.here hx rfl (hb hby d5_22) ?_
      show Steps p.tables e below (T4.setTop (mkF m 23 #[.val (.ref a1), .val (.ref a2), .val (.int (0 : Int32))] [(.long (1 : Int64)), (.long (fz (own_kx (fv 0)))), (.int (((fv 0).toUInt32 >>> ((6 : Int32) &&& 31).toUInt32).toInt32)), (.ref a2)])) _
      refine XS.aloadN X4.here hx rfl (hb hby d5_23) rfl rfl ?_
      show Steps p.tables e below (T4.setTop (mkF m 24 #[.val (.ref a1), .val (.ref a2), .val (.int (0 : Int32))] [(.ref a1), (.long (1 : Int64)), (.long (fz (own_kx (fv 0)))), (.int (((fv 0).toUInt32 >>> ((6 : Int32) &&& 31).toUInt32).toInt32)), (.ref a2)])) _
      refine st5 _ ?_
      show Steps p.tables e below (T5.setTop (mkF m 27 #[.val (.ref a1), .val (.ref a2), .val (.int (0 : Int32))] [(.ref av), (.long (1 : Int64)), (.long (fz (own_kx (fv 0)))), (.int (((fv 0).toUInt32 >>> ((6 : Int32) &&& 31).toUInt32).toInt32)), (.ref a2)])) _
      refine XS.iloadN X5.here hx rfl (hb hby d5_27) rfl ?_
      show Steps p.tables e below (T5.setTop (mkF m 28 #[.val (.ref a1), .val (.ref a2), .val (.int (0 : Int32))] [(.int (0 : Int32)), (.ref av), (.long (1 : Int64)), (.long (fz (own_kx (fv 0)))), (.int (((fv 0).toUInt32 >>> ((6 : Int32) &&& 31).toUInt32).toInt32)), (.ref a2)])) _
      refine owLdC (k := 0) X5 hx hZ hE5 A_v (j := (0 : Int32)) rfl (by decide) (g := (mkF m 28 #[.val (.ref a1), .val (.ref a2), .val (.int (0 : Int32))] [(.int (0 : Int32)), (.ref av), (.long (1 : Int64)), (.long (fz (own_kx (fv 0)))), (.int (((fv 0).toUInt32 >>> ((6 : Int32) &&& 31).toUInt32).toInt32)), (.ref a2)])) rfl rfl (hb hby d5_28) _ ?_
      show Steps p.tables e below (T5.setTop (mkF m 29 #[.val (.ref a1), .val (.ref a2), .val (.int (0 : Int32))] [(.int (fv 0)), (.long (1 : Int64)), (.long (fz (own_kx (fv 0)))), (.int (((fv 0).toUInt32 >>> ((6 : Int32) &&& 31).toUInt32).toInt32)), (.ref a2)])) _
      refine XS.lshl X5.here hx rfl (hb hby d5_29) rfl ?_
      show Steps p.tables e below (T5.setTop (mkF m 30 #[.val (.ref a1), .val (.ref a2), .val (.int (0 : Int32))] [(.long ((1 : Int64) <<< ((fv 0) &&& 0x3f).toInt64)), (.long (fz (own_kx (fv 0)))), (.int (((fv 0).toUInt32 >>> ((6 : Int32) &&& 31).toUInt32).toInt32)), (.ref a2)])) _
      refine XS.lor X5.here hx rfl (hb hby d5_30) rfl ?_
      show Steps p.tables e below (T5.setTop (mkF m 31 #[.val (.ref a1), .val (.ref a2), .val (.int (0 : Int32))] [(.long ((fz (own_kx (fv 0))) ||| ((1 : Int64) <<< ((fv 0) &&& 0x3f).toInt64))), (.int (((fv 0).toUInt32 >>> ((6 : Int32) &&& 31).toUInt32).toInt32)), (.ref a2)])) _
      refine st6 _ ?_
      show Steps p.tables e below (T6.setTop (mkF m 32 #[.val (.ref a1), .val (.ref a2), .val (.int (0 : Int32))] [])) _
      refine XS.iinc X6.here hx rfl (hb hby d5_32) rfl (l' := #[.val (.ref a1), .val (.ref a2), .val (.int (1 : Int32))]) rfl ?_
      show Steps p.tables e below (T6.setTop (mkF m 35 #[.val (.ref a1), .val (.ref a2), .val (.int (1 : Int32))] [])) _
      refine XS.goto X6.here hx rfl (pc0 := 35) (pc' := 2) rfl (hb hby d5_35) (by decide) (by decide) ?_
      show Steps p.tables e below (T6.setTop (mkF m 2 #[.val (.ref a1), .val (.ref a2), .val (.int (1 : Int32))] [])) _
      refine XS.iloadN X6.here hx rfl (hb hby d5_2) rfl ?_
      show Steps p.tables e below (T6.setTop (mkF m 3 #[.val (.ref a1), .val (.ref a2), .val (.int (1 : Int32))] [(.int (1 : Int32))])) _
      refine XS.aloadN X6.here hx rfl (hb hby d5_3) rfl rfl ?_
      show Steps p.tables e below (T6.setTop (mkF m 4 #[.val (.ref a1), .val (.ref a2), .val (.int (1 : Int32))] [(.ref a1), (.int (1 : Int32))])) _
      refine st14 _ ?_
      exact kt
    by_cases hc7_16 : (1 : Int32) < pn
    · skip
      obtain ⟨T17, X17, hE17, st17⟩ := getF X14 hx hZ hown (host := "") (Or.inl (hw _ (List.mem_of_getElem? (i := 21) rfl))) Via.refl hE14 f7 (g := (mkF m 12 #[.val (.ref a1), .val (.ref a2), .val (.int (1 : Int32))] [(.ref a1), (.ref a2)])) rfl rfl (hb hby d5_12)
      obtain ⟨T18, X18, hE18, st18⟩ := getF X17 hx hZ hown (host := "") (Or.inl (hw _ (List.mem_of_getElem? (i := 21) rfl))) Via.refl hE17 f7 (g := (mkF m 24 #[.val (.ref a1), .val (.ref a2), .val (.int (1 : Int32))] [(.ref a1), (.long (1 : Int64)), (.long ((owUp fz (own_kx (fv 0)) ((fz (own_kx (fv 0))) ||| ((1 : Int64) <<< ((fv 0) &&& 0x3f).toInt64))) (own_kx (fv 1)))), (.int (((fv 1).toUInt32 >>> ((6 : Int32) &&& 31).toUInt32).toInt32)), (.ref a2)])) rfl rfl (hb hby d5_24)
      obtain ⟨T19, gh19, X19, hE19, W19, V19, st19⟩ := owStJ X18 hx hZ hE18 V6 (k := (own_kx (fv 1))) (j := (((fv 1).toUInt32 >>> ((6 : Int32) &&& 31).toUInt32).toInt32)) (own_kx1 (hfv 1)) (own_kx2 (hfv 1)) (g := (mkF m 31 #[.val (.ref a1), .val (.ref a2), .val (.int (1 : Int32))] [(.long (((owUp fz (own_kx (fv 0)) ((fz (own_kx (fv 0))) ||| ((1 : Int64) <<< ((fv 0) &&& 0x3f).toInt64))) (own_kx (fv 1))) ||| ((1 : Int64) <<< ((fv 1) &&& 0x3f).toInt64))), (.int (((fv 1).toUInt32 >>> ((6 : Int32) &&& 31).toUInt32).toInt32)), (.ref a2)])) rfl rfl (hb hby d5_31)
      have f20 := f7.other W19 (Or.inl n12)
      have f21 := f8.other W19 (Or.inl n12)
      have f23 := f10.other W19 nv2
      have Z24 := Nat.le_trans Z11 (Keep.of_wr W19).1
      have N25 := Fr.snoc X19 N12 g_a2
      have K26 := K13.wr W19 (Or.inl (List.mem_of_getElem? (i := 0) rfl))
      obtain ⟨T27, X27, hE27, st27⟩ := getF X19 hx hZ hown (host := "") (Or.inl (hw _ (List.mem_of_getElem? (i := 23) rfl))) Via.refl hE19 f21 (g := (mkF m 4 #[.val (.ref a1), .val (.ref a2), .val (.int (2 : Int32))] [(.ref a1), (.int (2 : Int32))])) rfl rfl (hb hby d5_4)
      have pre28 : ∀ t, Steps p.tables e below (T27.setTop (mkF m 7 #[.val (.ref a1), .val (.ref a2), .val (.int (2 : Int32))] [(.int pn), (.int (2 : Int32))])) t → Steps p.tables e below (s₁.setTop (entryFrame m #[(.ref a1), (.ref a2)] 3)) t := by
        intro t kt
        refine pre15 _ ?_
        show Steps p.tables e below (T14.setTop (mkF m 7 #[.val (.ref a1), .val (.ref a2), .val (.int (1 : Int32))] [(.int pn), (.int (1 : Int32))])) _
        refine XS.icmpNo X14.here hx rfl (hb hby d5_7) rfl (XT.ii_ge_f hc7_16) ?_
        show Steps p.tables e below (T14.setTop (mkF m 10 #[.val (.ref a1), .val (.ref a2), .val (.int (1 : Int32))] [])) _
        refine XS.aloadN X14.here hx rfl (hb hby d5_10) rfl rfl ?_
        show Steps p.tables e below (T14.setTop (mkF m 11 #[.val (.ref a1), .val (.ref a2), .val (.int (1 : Int32))] [(.ref a2)])) _
        refine XS.aloadN X14.here hx rfl (hb hby d5_11) rfl rfl ?_
        show Steps p.tables e below (T14.setTop (mkF m 12 #[.val (.ref a1), .val (.ref a2), .val (.int (1 : Int32))] [(.ref a1), (.ref a2)])) _
        refine st17 _ ?_
        show Steps p.tables e below (T17.setTop (mkF m 15 #[.val (.ref a1), .val (.ref a2), .val (.int (1 : Int32))] [(.ref av), (.ref a2)])) _
        refine XS.iloadN X17.here hx rfl (hb hby d5_15) rfl ?_
        show Steps p.tables e below (T17.setTop (mkF m 16 #[.val (.ref a1), .val (.ref a2), .val (.int (1 : Int32))] [(.int (1 : Int32)), (.ref av), (.ref a2)])) _
        refine owLdC (k := 1) X17 hx hZ hE17 f10 (j := (1 : Int32)) rfl (by decide) (g := (mkF m 16 #[.val (.ref a1), .val (.ref a2), .val (.int (1 : Int32))] [(.int (1 : Int32)), (.ref av), (.ref a2)])) rfl rfl (hb hby d5_16) _ ?_
        show Steps p.tables e below (T17.setTop (mkF m 17 #[.val (.ref a1), .val (.ref a2), .val (.int (1 : Int32))] [(.int (fv 1)), (.ref a2)])) _
        refine XS.bipush X17.here hx rfl (hb hby d5_17) ?_
        show Steps p.tables e below (T17.setTop (mkF m 19 #[.val (.ref a1), .val (.ref a2), .val (.int (1 : Int32))] [(.int (6 : Int32)), (.int (fv 1)), (.ref a2)])) _
        refine XS.iushr X17.here hx rfl (hb hby d5_19) rfl ?_
        show Steps p.tables e below (T17.setTop (mkF m 20 #[.val (.ref a1), .val (.ref a2), .val (.int (1 : Int32))] [(.int (((fv 1).toUInt32 >>> ((6 : Int32) &&& 31).toUInt32).toInt32)), (.ref a2)])) _
        refine XT.dup2 X17.here hx rfl (hb hby d5_20) rfl rfl rfl ?_
        show Steps p.tables e below (T17.setTop (mkF m 21 #[.val (.ref a1), .val (.ref a2), .val (.int (1 : Int32))] [(.int (((fv 1).toUInt32 >>> ((6 : Int32) &&& 31).toUInt32).toInt32)), (.ref a2), (.int (((fv 1).toUInt32 >>> ((6 : Int32) &&& 31).toUInt32).toInt32)), (.ref a2)])) _
        refine owLdJ (k := (own_kx (fv 1))) X17 hx hZ hE17 V6 (j := (((fv 1).toUInt32 >>> ((6 : Int32) &&& 31).toUInt32).toInt32)) (own_kx1 (hfv 1)) (own_kx2 (hfv 1)) (g := (mkF m 21 #[.val (.ref a1), .val (.ref a2), .val (.int (1 : Int32))] [(.int (((fv 1).toUInt32 >>> ((6 : Int32) &&& 31).toUInt32).toInt32)), (.ref a2), (.int (((fv 1).toUInt32 >>> ((6 : Int32) &&& 31).toUInt32).toInt32)), (.ref a2)])) rfl rfl (hb hby d5_21) _ ?_
        show Steps p.tables e below (T17.setTop (mkF m 22 #[.val (.ref a1), .val (.ref a2), .val (.int (1 : Int32))] [(.long ((owUp fz (own_kx (fv 0)) ((fz (own_kx (fv 0))) ||| ((1 : Int64) <<< ((fv 0) &&& 0x3f).toInt64))) (own_kx (fv 1)))), (.int (((fv 1).toUInt32 >>> ((6 : Int32) &&& 31).toUInt32).toInt32)), (.ref a2)])) _
        refine XS.lconst X17.here hx rfl (hb hby d5_22) ?_
        show Steps p.tables e below (T17.setTop (mkF m 23 #[.val (.ref a1), .val (.ref a2), .val (.int (1 : Int32))] [(.long (1 : Int64)), (.long ((owUp fz (own_kx (fv 0)) ((fz (own_kx (fv 0))) ||| ((1 : Int64) <<< ((fv 0) &&& 0x3f).toInt64))) (own_kx (fv 1)))), (.int (((fv 1).toUInt32 >>> ((6 : Int32) &&& 31).toUInt32).toInt32)), (.ref a2)])) _
        refine XS.aloadN X17.here hx rfl (hb hby d5_23) rfl rfl ?_
        show Steps p.tables e below (T17.setTop (mkF m 24 #[.val (.ref a1), .val (.ref a2), .val (.int (1 : Int32))] [(.ref a1), (.long (1 : Int64)), (.long ((owUp fz (own_kx (fv 0)) ((fz (own_kx (fv 0))) ||| ((1 : Int64) <<< ((fv 0) &&& 0x3f).toInt64))) (own_kx (fv 1)))), (.int (((fv 1).toUInt32 >>> ((6 : Int32) &&& 31).toUInt32).toInt32)), (.ref a2)])) _
        refine st18 _ ?_
        show Steps p.tables e below (T18.setTop (mkF m 27 #[.val (.ref a1), .val (.ref a2), .val (.int (1 : Int32))] [(.ref av), (.long (1 : Int64)), (.long ((owUp fz (own_kx (fv 0)) ((fz (own_kx (fv 0))) ||| ((1 : Int64) <<< ((fv 0) &&& 0x3f).toInt64))) (own_kx (fv 1)))), (.int (((fv 1).toUInt32 >>> ((6 : Int32) &&& 31).toUInt32).toInt32)), (.ref a2)])) _
        refine XS.iloadN X18.here hx rfl (hb hby d5_27) rfl ?_
        show Steps p.tables e below (T18.setTop (mkF m 28 #[.val (.ref a1), .val (.ref a2), .val (.int (1 : Int32))] [(.int (1 : Int32)), (.ref av), (.long (1 : Int64)), (.long ((owUp fz (own_kx (fv 0)) ((fz (own_kx (fv 0))) ||| ((1 : Int64) <<< ((fv 0) &&& 0x3f).toInt64))) (own_kx (fv 1)))), (.int (((fv 1).toUInt32 >>> ((6 : Int32) &&& 31).toUInt32).toInt32)), (.ref a2)])) _
        refine owLdC (k := 1) X18 hx hZ hE18 f10 (j := (1 : Int32)) rfl (by decide) (g := (mkF m 28 #[.val (.ref a1), .val (.ref a2), .val (.int (1 : Int32))] [(.int (1 : Int32)), (.ref av), (.long (1 : Int64)), (.long ((owUp fz (own_kx (fv 0)) ((fz (own_kx (fv 0))) ||| ((1 : Int64) <<< ((fv 0) &&& 0x3f).toInt64))) (own_kx (fv 1)))), (.int (((fv 1).toUInt32 >>> ((6 : Int32) &&& 31).toUInt32).toInt32)), (.ref a2)])) rfl rfl (hb hby d5_28) _ ?_
        show Steps p.tables e below (T18.setTop (mkF m 29 #[.val (.ref a1), .val (.ref a2), .val (.int (1 : Int32))] [(.int (fv 1)), (.long (1 : Int64)), (.long ((owUp fz (own_kx (fv 0)) ((fz (own_kx (fv 0))) ||| ((1 : Int64) <<< ((fv 0) &&& 0x3f).toInt64))) (own_kx (fv 1)))), (.int (((fv 1).toUInt32 >>> ((6 : Int32) &&& 31).toUInt32).toInt32)), (.ref a2)])) _
        refine XS.lshl X18.here hx rfl (hb hby d5_29) rfl ?_
        show Steps p.tables e below (T18.setTop (mkF m 30 #[.val (.ref a1), .val (.ref a2), .val (.int (1 : Int32))] [(.long ((1 : Int64) <<< ((fv 1) &&& 0x3f).toInt64)), (.long ((owUp fz (own_kx (fv 0)) ((fz (own_kx (fv 0))) ||| ((1 : Int64) <<< ((fv 0) &&& 0x3f).toInt64))) (own_kx (fv 1)))), (.int (((fv 1).toUInt32 >>> ((6 : Int32) &&& 31).toUInt32).toInt32)), (.ref a2)])) _
        refine XS.lor X18.here hx rfl (hb hby d5_30) rfl ?_
        show Steps p.tables e below (T18.setTop (mkF m 31 #[.val (.ref a1), .val (.ref a2), .val (.int (1 : Int32))] [(.long (((owUp fz (own_kx (fv 0)) ((fz (own_kx (fv 0))) ||| ((1 : Int64) <<< ((fv 0) &&& 0x3f).toInt64))) (own_kx (fv 1))) ||| ((1 : Int64) <<< ((fv 1) &&& 0x3f).toInt64))), (.int (((fv 1).toUInt32 >>> ((6 : Int32) &&& 31).toUInt32).toInt32)), (.ref a2)])) _
        refine st19 _ ?_
        show Steps p.tables e below (T19.setTop (mkF m 32 #[.val (.ref a1), .val (.ref a2), .val (.int (1 : Int32))] [])) _
        refine XS.iinc X19.here hx rfl (hb hby d5_32) rfl (l' := #[.val (.ref a1), .val (.ref a2), .val (.int (2 : Int32))]) rfl ?_
        show Steps p.tables e below (T19.setTop (mkF m 35 #[.val (.ref a1), .val (.ref a2), .val (.int (2 : Int32))] [])) _
        refine XS.goto X19.here hx rfl (pc0 := 35) (pc' := 2) rfl (hb hby d5_35) (by decide) (by decide) ?_
        show Steps p.tables e below (T19.setTop (mkF m 2 #[.val (.ref a1), .val (.ref a2), .val (.int (2 : Int32))] [])) _
        refine XS.iloadN X19.here hx rfl (hb hby d5_2) rfl ?_
        show Steps p.tables e below (T19.setTop (mkF m 3 #[.val (.ref a1), .val (.ref a2), .val (.int (2 : Int32))] [(.int (2 : Int32))])) _
        refine XS.aloadN X19.here hx rfl (hb hby d5_3) rfl rfl ?_
        show Steps p.tables e below (T19.setTop (mkF m 4 #[.val (.ref a1), .val (.ref a2), .val (.int (2 : Int32))] [(.ref a1), (.int (2 : Int32))])) _
        refine st27 _ ?_
        exact kt
      by_cases hc7_29 : (2 : Int32) < pn
      · skip
        obtain ⟨T30, X30, hE30, st30⟩ := getF X27 hx hZ hown (host := "") (Or.inl (hw _ (List.mem_of_getElem? (i := 21) rfl))) Via.refl hE27 f20 (g := (mkF m 12 #[.val (.ref a1), .val (.ref a2), .val (.int (2 : Int32))] [(.ref a1), (.ref a2)])) rfl rfl (hb hby d5_12)
        obtain ⟨T31, X31, hE31, st31⟩ := getF X30 hx hZ hown (host := "") (Or.inl (hw _ (List.mem_of_getElem? (i := 21) rfl))) Via.refl hE30 f20 (g := (mkF m 24 #[.val (.ref a1), .val (.ref a2), .val (.int (2 : Int32))] [(.ref a1), (.long (1 : Int64)), (.long ((owUp (owUp fz (own_kx (fv 0)) ((fz (own_kx (fv 0))) ||| ((1 : Int64) <<< ((fv 0) &&& 0x3f).toInt64))) (own_kx (fv 1)) (((owUp fz (own_kx (fv 0)) ((fz (own_kx (fv 0))) ||| ((1 : Int64) <<< ((fv 0) &&& 0x3f).toInt64))) (own_kx (fv 1))) ||| ((1 : Int64) <<< ((fv 1) &&& 0x3f).toInt64))) (own_kx (fv 2)))), (.int (((fv 2).toUInt32 >>> ((6 : Int32) &&& 31).toUInt32).toInt32)), (.ref a2)])) rfl rfl (hb hby d5_24)
        obtain ⟨T32, gh32, X32, hE32, W32, V32, st32⟩ := owStJ X31 hx hZ hE31 V19 (k := (own_kx (fv 2))) (j := (((fv 2).toUInt32 >>> ((6 : Int32) &&& 31).toUInt32).toInt32)) (own_kx1 (hfv 2)) (own_kx2 (hfv 2)) (g := (mkF m 31 #[.val (.ref a1), .val (.ref a2), .val (.int (2 : Int32))] [(.long (((owUp (owUp fz (own_kx (fv 0)) ((fz (own_kx (fv 0))) ||| ((1 : Int64) <<< ((fv 0) &&& 0x3f).toInt64))) (own_kx (fv 1)) (((owUp fz (own_kx (fv 0)) ((fz (own_kx (fv 0))) ||| ((1 : Int64) <<< ((fv 0) &&& 0x3f).toInt64))) (own_kx (fv 1))) ||| ((1 : Int64) <<< ((fv 1) &&& 0x3f).toInt64))) (own_kx (fv 2))) ||| ((1 : Int64) <<< ((fv 2) &&& 0x3f).toInt64))), (.int (((fv 2).toUInt32 >>> ((6 : Int32) &&& 31).toUInt32).toInt32)), (.ref a2)])) rfl rfl (hb hby d5_31)
        have f33 := f20.other W32 (Or.inl n12)
        have f34 := f21.other W32 (Or.inl n12)
        have f36 := f23.other W32 nv2
        have Z37 := Nat.le_trans Z24 (Keep.of_wr W32).1
        have N38 := Fr.snoc X32 N25 g_a2
        have K39 := K26.wr W32 (Or.inl (List.mem_of_getElem? (i := 0) rfl))
        obtain ⟨T40, X40, hE40, st40⟩ := getF X32 hx hZ hown (host := "") (Or.inl (hw _ (List.mem_of_getElem? (i := 23) rfl))) Via.refl hE32 f34 (g := (mkF m 4 #[.val (.ref a1), .val (.ref a2), .val (.int (3 : Int32))] [(.ref a1), (.int (3 : Int32))])) rfl rfl (hb hby d5_4)
        have pre41 : ∀ t, Steps p.tables e below (T40.setTop (mkF m 38 #[.val (.ref a1), .val (.ref a2), .val (.int (3 : Int32))] [])) t → Steps p.tables e below (s₁.setTop (entryFrame m #[(.ref a1), (.ref a2)] 3)) t := by
          intro t kt
          refine pre28 _ ?_
          show Steps p.tables e below (T27.setTop (mkF m 7 #[.val (.ref a1), .val (.ref a2), .val (.int (2 : Int32))] [(.int pn), (.int (2 : Int32))])) _
          refine XS.icmpNo X27.here hx rfl (hb hby d5_7) rfl (XT.ii_ge_f hc7_29) ?_
          show Steps p.tables e below (T27.setTop (mkF m 10 #[.val (.ref a1), .val (.ref a2), .val (.int (2 : Int32))] [])) _
          refine XS.aloadN X27.here hx rfl (hb hby d5_10) rfl rfl ?_
          show Steps p.tables e below (T27.setTop (mkF m 11 #[.val (.ref a1), .val (.ref a2), .val (.int (2 : Int32))] [(.ref a2)])) _
          refine XS.aloadN X27.here hx rfl (hb hby d5_11) rfl rfl ?_
          show Steps p.tables e below (T27.setTop (mkF m 12 #[.val (.ref a1), .val (.ref a2), .val (.int (2 : Int32))] [(.ref a1), (.ref a2)])) _
          refine st30 _ ?_
          show Steps p.tables e below (T30.setTop (mkF m 15 #[.val (.ref a1), .val (.ref a2), .val (.int (2 : Int32))] [(.ref av), (.ref a2)])) _
          refine XS.iloadN X30.here hx rfl (hb hby d5_15) rfl ?_
          show Steps p.tables e below (T30.setTop (mkF m 16 #[.val (.ref a1), .val (.ref a2), .val (.int (2 : Int32))] [(.int (2 : Int32)), (.ref av), (.ref a2)])) _
          refine owLdC (k := 2) X30 hx hZ hE30 f23 (j := (2 : Int32)) rfl (by decide) (g := (mkF m 16 #[.val (.ref a1), .val (.ref a2), .val (.int (2 : Int32))] [(.int (2 : Int32)), (.ref av), (.ref a2)])) rfl rfl (hb hby d5_16) _ ?_
          show Steps p.tables e below (T30.setTop (mkF m 17 #[.val (.ref a1), .val (.ref a2), .val (.int (2 : Int32))] [(.int (fv 2)), (.ref a2)])) _
          refine XS.bipush X30.here hx rfl (hb hby d5_17) ?_
          show Steps p.tables e below (T30.setTop (mkF m 19 #[.val (.ref a1), .val (.ref a2), .val (.int (2 : Int32))] [(.int (6 : Int32)), (.int (fv 2)), (.ref a2)])) _
          refine XS.iushr X30.here hx rfl (hb hby d5_19) rfl ?_
          show Steps p.tables e below (T30.setTop (mkF m 20 #[.val (.ref a1), .val (.ref a2), .val (.int (2 : Int32))] [(.int (((fv 2).toUInt32 >>> ((6 : Int32) &&& 31).toUInt32).toInt32)), (.ref a2)])) _
          refine XT.dup2 X30.here hx rfl (hb hby d5_20) rfl rfl rfl ?_
          show Steps p.tables e below (T30.setTop (mkF m 21 #[.val (.ref a1), .val (.ref a2), .val (.int (2 : Int32))] [(.int (((fv 2).toUInt32 >>> ((6 : Int32) &&& 31).toUInt32).toInt32)), (.ref a2), (.int (((fv 2).toUInt32 >>> ((6 : Int32) &&& 31).toUInt32).toInt32)), (.ref a2)])) _
          refine owLdJ (k := (own_kx (fv 2))) X30 hx hZ hE30 V19 (j := (((fv 2).toUInt32 >>> ((6 : Int32) &&& 31).toUInt32).toInt32)) (own_kx1 (hfv 2)) (own_kx2 (hfv 2)) (g := (mkF m 21 #[.val (.ref a1), .val (.ref a2), .val (.int (2 : Int32))] [(.int (((fv 2).toUInt32 >>> ((6 : Int32) &&& 31).toUInt32).toInt32)), (.ref a2), (.int (((fv 2).toUInt32 >>> ((6 : Int32) &&& 31).toUInt32).toInt32)), (.ref a2)])) rfl rfl (hb hby d5_21) _ ?_
          show Steps p.tables e below (T30.setTop (mkF m 22 #[.val (.ref a1), .val (.ref a2), .val (.int (2 : Int32))] [(.long ((owUp (owUp fz (own_kx (fv 0)) ((fz (own_kx (fv 0))) ||| ((1 : Int64) <<< ((fv 0) &&& 0x3f).toInt64))) (own_kx (fv 1)) (((owUp fz (own_kx (fv 0)) ((fz (own_kx (fv 0))) ||| ((1 : Int64) <<< ((fv 0) &&& 0x3f).toInt64))) (own_kx (fv 1))) ||| ((1 : Int64) <<< ((fv 1) &&& 0x3f).toInt64))) (own_kx (fv 2)))), (.int (((fv 2).toUInt32 >>> ((6 : Int32) &&& 31).toUInt32).toInt32)), (.ref a2)])) _
          refine XS.lconst X30.here hx rfl (hb hby d5_22) ?_
          show Steps p.tables e below (T30.setTop (mkF m 23 #[.val (.ref a1), .val (.ref a2), .val (.int (2 : Int32))] [(.long (1 : Int64)), (.long ((owUp (owUp fz (own_kx (fv 0)) ((fz (own_kx (fv 0))) ||| ((1 : Int64) <<< ((fv 0) &&& 0x3f).toInt64))) (own_kx (fv 1)) (((owUp fz (own_kx (fv 0)) ((fz (own_kx (fv 0))) ||| ((1 : Int64) <<< ((fv 0) &&& 0x3f).toInt64))) (own_kx (fv 1))) ||| ((1 : Int64) <<< ((fv 1) &&& 0x3f).toInt64))) (own_kx (fv 2)))), (.int (((fv 2).toUInt32 >>> ((6 : Int32) &&& 31).toUInt32).toInt32)), (.ref a2)])) _
          refine XS.aloadN X30.here hx rfl (hb hby d5_23) rfl rfl ?_
          show Steps p.tables e below (T30.setTop (mkF m 24 #[.val (.ref a1), .val (.ref a2), .val (.int (2 : Int32))] [(.ref a1), (.long (1 : Int64)), (.long ((owUp (owUp fz (own_kx (fv 0)) ((fz (own_kx (fv 0))) ||| ((1 : Int64) <<< ((fv 0) &&& 0x3f).toInt64))) (own_kx (fv 1)) (((owUp fz (own_kx (fv 0)) ((fz (own_kx (fv 0))) ||| ((1 : Int64) <<< ((fv 0) &&& 0x3f).toInt64))) (own_kx (fv 1))) ||| ((1 : Int64) <<< ((fv 1) &&& 0x3f).toInt64))) (own_kx (fv 2)))), (.int (((fv 2).toUInt32 >>> ((6 : Int32) &&& 31).toUInt32).toInt32)), (.ref a2)])) _
          refine st31 _ ?_
          show Steps p.tables e below (T31.setTop (mkF m 27 #[.val (.ref a1), .val (.ref a2), .val (.int (2 : Int32))] [(.ref av), (.long (1 : Int64)), (.long ((owUp (owUp fz (own_kx (fv 0)) ((fz (own_kx (fv 0))) ||| ((1 : Int64) <<< ((fv 0) &&& 0x3f).toInt64))) (own_kx (fv 1)) (((owUp fz (own_kx (fv 0)) ((fz (own_kx (fv 0))) ||| ((1 : Int64) <<< ((fv 0) &&& 0x3f).toInt64))) (own_kx (fv 1))) ||| ((1 : Int64) <<< ((fv 1) &&& 0x3f).toInt64))) (own_kx (fv 2)))), (.int (((fv 2).toUInt32 >>> ((6 : Int32) &&& 31).toUInt32).toInt32)), (.ref a2)])) _
          refine XS.iloadN X31.here hx rfl (hb hby d5_27) rfl ?_
          show Steps p.tables e below (T31.setTop (mkF m 28 #[.val (.ref a1), .val (.ref a2), .val (.int (2 : Int32))] [(.int (2 : Int32)), (.ref av), (.long (1 : Int64)), (.long ((owUp (owUp fz (own_kx (fv 0)) ((fz (own_kx (fv 0))) ||| ((1 : Int64) <<< ((fv 0) &&& 0x3f).toInt64))) (own_kx (fv 1)) (((owUp fz (own_kx (fv 0)) ((fz (own_kx (fv 0))) ||| ((1 : Int64) <<< ((fv 0) &&& 0x3f).toInt64))) (own_kx (fv 1))) ||| ((1 : Int64) <<< ((fv 1) &&& 0x3f).toInt64))) (own_kx (fv 2)))), (.int (((fv 2).toUInt32 >>> ((6 : Int32) &&& 31).toUInt32).toInt32)), (.ref a2)])) _
          refine owLdC (k := 2) X31 hx hZ hE31 f23 (j := (2 : Int32)) rfl (by decide) (g := (mkF m 28 #[.val (.ref a1), .val (.ref a2), .val (.int (2 : Int32))] [(.int (2 : Int32)), (.ref av), (.long (1 : Int64)), (.long ((owUp (owUp fz (own_kx (fv 0)) ((fz (own_kx (fv 0))) ||| ((1 : Int64) <<< ((fv 0) &&& 0x3f).toInt64))) (own_kx (fv 1)) (((owUp fz (own_kx (fv 0)) ((fz (own_kx (fv 0))) ||| ((1 : Int64) <<< ((fv 0) &&& 0x3f).toInt64))) (own_kx (fv 1))) ||| ((1 : Int64) <<< ((fv 1) &&& 0x3f).toInt64))) (own_kx (fv 2)))), (.int (((fv 2).toUInt32 >>> ((6 : Int32) &&& 31).toUInt32).toInt32)), (.ref a2)])) rfl rfl (hb hby d5_28) _ ?_
          show Steps p.tables e below (T31.setTop (mkF m 29 #[.val (.ref a1), .val (.ref a2), .val (.int (2 : Int32))] [(.int (fv 2)), (.long (1 : Int64)), (.long ((owUp (owUp fz (own_kx (fv 0)) ((fz (own_kx (fv 0))) ||| ((1 : Int64) <<< ((fv 0) &&& 0x3f).toInt64))) (own_kx (fv 1)) (((owUp fz (own_kx (fv 0)) ((fz (own_kx (fv 0))) ||| ((1 : Int64) <<< ((fv 0) &&& 0x3f).toInt64))) (own_kx (fv 1))) ||| ((1 : Int64) <<< ((fv 1) &&& 0x3f).toInt64))) (own_kx (fv 2)))), (.int (((fv 2).toUInt32 >>> ((6 : Int32) &&& 31).toUInt32).toInt32)), (.ref a2)])) _
          refine XS.lshl X31.here hx rfl (hb hby d5_29) rfl ?_
          show Steps p.tables e below (T31.setTop (mkF m 30 #[.val (.ref a1), .val (.ref a2), .val (.int (2 : Int32))] [(.long ((1 : Int64) <<< ((fv 2) &&& 0x3f).toInt64)), (.long ((owUp (owUp fz (own_kx (fv 0)) ((fz (own_kx (fv 0))) ||| ((1 : Int64) <<< ((fv 0) &&& 0x3f).toInt64))) (own_kx (fv 1)) (((owUp fz (own_kx (fv 0)) ((fz (own_kx (fv 0))) ||| ((1 : Int64) <<< ((fv 0) &&& 0x3f).toInt64))) (own_kx (fv 1))) ||| ((1 : Int64) <<< ((fv 1) &&& 0x3f).toInt64))) (own_kx (fv 2)))), (.int (((fv 2).toUInt32 >>> ((6 : Int32) &&& 31).toUInt32).toInt32)), (.ref a2)])) _
          refine XS.lor X31.here hx rfl (hb hby d5_30) rfl ?_
          show Steps p.tables e below (T31.setTop (mkF m 31 #[.val (.ref a1), .val (.ref a2), .val (.int (2 : Int32))] [(.long (((owUp (owUp fz (own_kx (fv 0)) ((fz (own_kx (fv 0))) ||| ((1 : Int64) <<< ((fv 0) &&& 0x3f).toInt64))) (own_kx (fv 1)) (((owUp fz (own_kx (fv 0)) ((fz (own_kx (fv 0))) ||| ((1 : Int64) <<< ((fv 0) &&& 0x3f).toInt64))) (own_kx (fv 1))) ||| ((1 : Int64) <<< ((fv 1) &&& 0x3f).toInt64))) (own_kx (fv 2))) ||| ((1 : Int64) <<< ((fv 2) &&& 0x3f).toInt64))), (.int (((fv 2).toUInt32 >>> ((6 : Int32) &&& 31).toUInt32).toInt32)), (.ref a2)])) _
          refine st32 _ ?_
          show Steps p.tables e below (T32.setTop (mkF m 32 #[.val (.ref a1), .val (.ref a2), .val (.int (2 : Int32))] [])) _
          refine XS.iinc X32.here hx rfl (hb hby d5_32) rfl (l' := #[.val (.ref a1), .val (.ref a2), .val (.int (3 : Int32))]) rfl ?_
          show Steps p.tables e below (T32.setTop (mkF m 35 #[.val (.ref a1), .val (.ref a2), .val (.int (3 : Int32))] [])) _
          refine XS.goto X32.here hx rfl (pc0 := 35) (pc' := 2) rfl (hb hby d5_35) (by decide) (by decide) ?_
          show Steps p.tables e below (T32.setTop (mkF m 2 #[.val (.ref a1), .val (.ref a2), .val (.int (3 : Int32))] [])) _
          refine XS.iloadN X32.here hx rfl (hb hby d5_2) rfl ?_
          show Steps p.tables e below (T32.setTop (mkF m 3 #[.val (.ref a1), .val (.ref a2), .val (.int (3 : Int32))] [(.int (3 : Int32))])) _
          refine XS.aloadN X32.here hx rfl (hb hby d5_3) rfl rfl ?_
          show Steps p.tables e below (T32.setTop (mkF m 4 #[.val (.ref a1), .val (.ref a2), .val (.int (3 : Int32))] [(.ref a1), (.int (3 : Int32))])) _
          refine st40 _ ?_
          show Steps p.tables e below (T40.setTop (mkF m 7 #[.val (.ref a1), .val (.ref a2), .val (.int (3 : Int32))] [(.int pn), (.int (3 : Int32))])) _
          refine XS.icmpYes X40.here hx rfl (pc0 := 7) (pc' := 38) rfl (hb hby d5_7) rfl (XT.ii_ge_t hp3) (by decide) (by decide) ?_
          exact kt
        obtain ⟨fs, hr, hrun, hended, hW, hsame⟩ := X40.leave (v := none) (fun _ => rfl)
        refine ⟨_, _, pre41 _ ?_, hrun, hended, _, _, rfl, ?_, ⟨_, rfl⟩, hW, hsame.mono (by decide) (by decide)⟩
        · show Steps p.tables e below (T40.setTop (mkF m 38 #[.val (.ref a1), .val (.ref a2), .val (.int (3 : Int32))] [])) _
          exact X40.returnOut hx Bd.returns (hb hby d5_38) hr
        · show Q5 Z a1 a2 av pn fv fz h0 n0 _ T40.heap _
          rw [hE40]
          exact ⟨rfl, N38, K39, (by unfold orf; rw [if_pos hc7_3, if_pos hc7_16, if_pos hc7_29]; exact V32)⟩
      · skip
        have pre42 : ∀ t, Steps p.tables e below (T27.setTop (mkF m 38 #[.val (.ref a1), .val (.ref a2), .val (.int (2 : Int32))] [])) t → Steps p.tables e below (s₁.setTop (entryFrame m #[(.ref a1), (.ref a2)] 3)) t := by
          intro t kt
          refine pre28 _ ?_
          show Steps p.tables e below (T27.setTop (mkF m 7 #[.val (.ref a1), .val (.ref a2), .val (.int (2 : Int32))] [(.int pn), (.int (2 : Int32))])) _
          refine XS.icmpYes X27.here hx rfl (pc0 := 7) (pc' := 38) rfl (hb hby d5_7) rfl (XT.ii_ge_t hc7_29) (by decide) (by decide) ?_
          exact kt
        obtain ⟨fs, hr, hrun, hended, hW, hsame⟩ := X27.leave (v := none) (fun _ => rfl)
        refine ⟨_, _, pre42 _ ?_, hrun, hended, _, _, rfl, ?_, ⟨_, rfl⟩, hW, hsame.mono (by decide) (by decide)⟩
        · show Steps p.tables e below (T27.setTop (mkF m 38 #[.val (.ref a1), .val (.ref a2), .val (.int (2 : Int32))] [])) _
          exact X27.returnOut hx Bd.returns (hb hby d5_38) hr
        · show Q5 Z a1 a2 av pn fv fz h0 n0 _ T27.heap _
          rw [hE27]
          exact ⟨rfl, N25, K26, (by unfold orf; rw [if_pos hc7_3, if_pos hc7_16, if_neg hc7_29]; exact V19)⟩
    · skip
      have pre43 : ∀ t, Steps p.tables e below (T14.setTop (mkF m 38 #[.val (.ref a1), .val (.ref a2), .val (.int (1 : Int32))] [])) t → Steps p.tables e below (s₁.setTop (entryFrame m #[(.ref a1), (.ref a2)] 3)) t := by
        intro t kt
        refine pre15 _ ?_
        show Steps p.tables e below (T14.setTop (mkF m 7 #[.val (.ref a1), .val (.ref a2), .val (.int (1 : Int32))] [(.int pn), (.int (1 : Int32))])) _
        refine XS.icmpYes X14.here hx rfl (pc0 := 7) (pc' := 38) rfl (hb hby d5_7) rfl (XT.ii_ge_t hc7_16) (by decide) (by decide) ?_
        exact kt
      obtain ⟨fs, hr, hrun, hended, hW, hsame⟩ := X14.leave (v := none) (fun _ => rfl)
      refine ⟨_, _, pre43 _ ?_, hrun, hended, _, _, rfl, ?_, ⟨_, rfl⟩, hW, hsame.mono (by decide) (by decide)⟩
      · show Steps p.tables e below (T14.setTop (mkF m 38 #[.val (.ref a1), .val (.ref a2), .val (.int (1 : Int32))] [])) _
        exact X14.returnOut hx Bd.returns (hb hby d5_38) hr
      · show Q5 Z a1 a2 av pn fv fz h0 n0 _ T14.heap _
        rw [hE14]
        exact ⟨rfl, N12, K13, (by unfold orf; rw [if_pos hc7_3, if_neg hc7_16]; exact V6)⟩
  · skip
    have pre44 : ∀ t, Steps p.tables e below (T1.setTop (mkF m 38 #[.val (.ref a1), .val (.ref a2), .val (.int (0 : Int32))] [])) t → Steps p.tables e below (s₁.setTop (entryFrame m #[(.ref a1), (.ref a2)] 3)) t := by
      intro t kt
      refine pre2 _ ?_
      show Steps p.tables e below (T1.setTop (mkF m 7 #[.val (.ref a1), .val (.ref a2), .val (.int (0 : Int32))] [(.int pn), (.int (0 : Int32))])) _
      refine XS.icmpYes X1.here hx rfl (pc0 := 7) (pc' := 38) rfl (hb hby d5_7) rfl (XT.ii_ge_t hc7_3) (by decide) (by decide) ?_
      exact kt
    obtain ⟨fs, hr, hrun, hended, hW, hsame⟩ := X1.leave (v := none) (fun _ => rfl)
    refine ⟨_, _, pre44 _ ?_, hrun, hended, _, _, rfl, ?_, ⟨_, rfl⟩, hW, hsame.mono (by decide) (by decide)⟩
    · show Steps p.tables e below (T1.setTop (mkF m 38 #[.val (.ref a1), .val (.ref a2), .val (.int (0 : Int32))] [])) _
      exact X1.returnOut hx Bd.returns (hb hby d5_38) hr
    · show Q5 Z a1 a2 av pn fv fz h0 n0 _ T1.heap _
      rw [hE1]
      exact ⟨rfl, N0, (Keep.refl h0 [a2]), (by unfold orf; rw [if_neg hc7_3]; exact A_a2)⟩
theorem d7_0 : decode method_3_code 0 = .ok (.iload_n 0, 1) := by decide +kernel
theorem d7_1 : decode method_3_code 1 = .ok (.iload_n 2, 1) := by decide +kernel
theorem d7_2 : decode method_3_code 2 = .ok (.if_icmp .ne 6, 3) := by decide +kernel
theorem d7_5 : decode method_3_code 5 = .ok (.lload 6, 2) := by decide +kernel
theorem d7_7 : decode method_3_code 7 = .ok (.lreturn, 1) := by decide +kernel
theorem d7_8 : decode method_3_code 8 = .ok (.iload_n 0, 1) := by decide +kernel
theorem d7_9 : decode method_3_code 9 = .ok (.iload_n 1, 1) := by decide +kernel
theorem d7_10 : decode method_3_code 10 = .ok (.if_icmp .ne 6, 3) := by decide +kernel
theorem d7_13 : decode method_3_code 13 = .ok (.lload 4, 2) := by decide +kernel
theorem d7_15 : decode method_3_code 15 = .ok (.lreturn, 1) := by decide +kernel
theorem d7_16 : decode method_3_code 16 = .ok (.iload_n 0, 1) := by decide +kernel
theorem d7_17 : decode method_3_code 17 = .ok (.iload_n 3, 1) := by decide +kernel
theorem d7_18 : decode method_3_code 18 = .ok (.if_icmp .ne 9, 3) := by decide +kernel
theorem d7_21 : decode method_3_code 21 = .ok (.lload 4, 2) := by decide +kernel
theorem d7_23 : decode method_3_code 23 = .ok (.lload 6, 2) := by decide +kernel
theorem d7_25 : decode method_3_code 25 = .ok (.lxor, 1) := by decide +kernel
theorem d7_26 : decode method_3_code 26 = .ok (.lreturn, 1) := by decide +kernel
theorem d7_27 : decode method_3_code 27 = .ok (.lconst 0, 1) := by decide +kernel
theorem d7_28 : decode method_3_code 28 = .ok (.lreturn, 1) := by decide +kernel
theorem pn_7 : plainName "com/example/bitweight/bitweight/chunk/ArrayChunkOrIntoPinLaw" = true := by first | (simp [plainName, overriddenIn]; done) | decide +kernel
theorem ef_7 (m : MethodId) (x0 : Int32) (x1 : Int32) (x2 : Int32) (x3 : Int32) (x4 : Int64) (x5 : Int64) : entryFrame m #[(.int x0), (.int x1), (.int x2), (.int x3), (.long x4), (.long x5)] 8 = mkF m 0 #[.val (.int x0), .val (.int x1), .val (.int x2), .val (.int x3), .val (.long x4), .second, .val (.long x5), .second] [] := by first | (simp [entryFrame, mkF, argsToLocals, Value.category]; done) | rfl
def fn7 (p1 : Int32) (p2 : Int32) (p3 : Int32) (p4 : Int32) (q5 : Int64) (q6 : Int64) : Int64 := (if p1 = p3 then q6 else (if p1 = p2 then q5 else (if p1 = p4 then (q5 ^^^ q6) else (0 : Int64))))
def Q7 (Z : State) (p1 : Int32) (p2 : Int32) (p3 : Int32) (p4 : Int32) (q5 : Int64) (q6 : Int64) (h0 : Heap) (n0 : Nat) (v : Option Value) (h : Heap) (L : List Loc) : Prop := v = some (.long (fn7 p1 p2 p3 p4 q5 q6)) ∧ Fr n0 L ∧ h = h0
set_option maxRecDepth 65536 in
set_option maxHeartbeats 40000000 in
theorem rm7 (l : Launch) (Z : State) (a0 : Array Value) (hw : ∀ d ∈ tables_1, d.before a0 Z = true) (ws : List Jvm.Cond) (p1 : Int32) (p2 : Int32) (p3 : Int32) (p4 : Int32) (q5 : Int64) (q6 : Int64) (h0 : Heap) (n0 : Nat) (Z0 : n0 ≤ h0.size) :
    MetFree l (⟨"com/example/bitweight/bitweight/chunk/ArrayChunkOrIntoPinLaw", "pre", "(IIIIJJ)J"⟩ : MethodName) (head1 (Jvm.Cond.code (⟨"com/example/bitweight/bitweight/chunk/ArrayChunkOrIntoPinLaw", "pre", "(IIIIJJ)J"⟩ : MethodName) method_3_code 8 (some .long) :: ws) ({ frames := 0, cells := 0, slots := 0, locals := 0 } : Room)) (fun a U => a = #[(.int p1), (.int p2), (.int p3), (.int p4), (.long q5), (.long q6)] ∧ Z.Warmed39 U.vm ∧ U.heap = h0) (fun _ _ _ _ _ => True) (fun _ U o U' => ∃ v L, o = .returned v ∧ Q7 Z p1 p2 p3 p4 q5 q6 h0 n0 v U'.heap L ∧ FrameEnd U o U' L ({ frames := 0, cells := 0, slots := 0, locals := 0 } : Room).cells ({ frames := 0, cells := 0, slots := 0, locals := 0 } : Room).slots) := by
  refine MetFree.of_bodySF (plainFor_of_name pn_7) hisR ?_
  intro p e s m args below meth c s₁ Bd hml0 hP hK
  obtain ⟨rfl, hZ, hh⟩ := hP
  have hx := Bd.exec
  have hby := Bd.bytes
  have hml : c.maxLocals = 8 := hml0
  have hown : s.vm.findClass "com/example/bitweight/bitweight/chunk/ArrayChunkOrIntoPinLaw" = some m.cls := findClass_of_methodNamed Bd.named
  have hnm := (name_of_methodNamed Bd.named Bd.method).1
  have X0 : Stand p l e ({ frames := 0, cells := 0, slots := 0, locals := 0 } : Room) s m #[(.int p1), (.int p2), (.int p3), (.int p4), (.long q5), (.long q6)] below meth c s₁ [] 0 0 := Stand.of_body Bd
  have e0 : s₁.heap = h0 := by rw [← hh, Bd.state]; rfl
  have N0 := Fr.nil n0
  have pre0 : ∀ t, Steps p.tables e below (s₁.setTop (mkF m 0 #[.val (.int p1), .val (.int p2), .val (.int p3), .val (.int p4), .val (.long q5), .second, .val (.long q6), .second] [])) t → Steps p.tables e below (s₁.setTop (entryFrame m #[(.int p1), (.int p2), (.int p3), (.int p4), (.long q5), (.long q6)] 8)) t := fun t k => castTop (ef_7 m p1 p2 p3 p4 q5 q6) k
  have pre1 : ∀ t, Steps p.tables e below (s₁.setTop (mkF m 2 #[.val (.int p1), .val (.int p2), .val (.int p3), .val (.int p4), .val (.long q5), .second, .val (.long q6), .second] [(.int p3), (.int p1)])) t → Steps p.tables e below (s₁.setTop (entryFrame m #[(.int p1), (.int p2), (.int p3), (.int p4), (.long q5), (.long q6)] 8)) t := by
    intro t kt
    refine pre0 _ ?_
    show Steps p.tables e below (s₁.setTop (mkF m 0 #[.val (.int p1), .val (.int p2), .val (.int p3), .val (.int p4), .val (.long q5), .second, .val (.long q6), .second] [])) _
    refine XS.iloadN X0.here hx rfl (hb hby d7_0) rfl ?_
    show Steps p.tables e below (s₁.setTop (mkF m 1 #[.val (.int p1), .val (.int p2), .val (.int p3), .val (.int p4), .val (.long q5), .second, .val (.long q6), .second] [(.int p1)])) _
    refine XS.iloadN X0.here hx rfl (hb hby d7_1) rfl ?_
    exact kt
  by_cases hc2_2 : p1 = p3
  · skip
    have pre3 : ∀ t, Steps p.tables e below (s₁.setTop (mkF m 7 #[.val (.int p1), .val (.int p2), .val (.int p3), .val (.int p4), .val (.long q5), .second, .val (.long q6), .second] [(.long q6)])) t → Steps p.tables e below (s₁.setTop (entryFrame m #[(.int p1), (.int p2), (.int p3), (.int p4), (.long q5), (.long q6)] 8)) t := by
      intro t kt
      refine pre1 _ ?_
      show Steps p.tables e below (s₁.setTop (mkF m 2 #[.val (.int p1), .val (.int p2), .val (.int p3), .val (.int p4), .val (.long q5), .second, .val (.long q6), .second] [(.int p3), (.int p1)])) _
      refine XS.icmpNo X0.here hx rfl (hb hby d7_2) rfl (XT.ii_ne_f hc2_2) ?_
      show Steps p.tables e below (s₁.setTop (mkF m 5 #[.val (.int p1), .val (.int p2), .val (.int p3), .val (.int p4), .val (.long q5), .second, .val (.long q6), .second] [])) _
      refine XS.lload X0.here hx rfl (hb hby d7_5) rfl ?_
      exact kt
    obtain ⟨fs, hr, hrun, hended, hW, hsame⟩ := X0.leave (v := some (.long q6)) (fun h => by rw [Bd.returns] at h; cases h)
    refine ⟨_, _, pre3 _ ?_, hrun, hended, _, _, rfl, ?_, ⟨_, rfl⟩, hW, hsame.mono (by decide) (by decide)⟩
    · show Steps p.tables e below (s₁.setTop (mkF m 7 #[.val (.int p1), .val (.int p2), .val (.int p3), .val (.int p4), .val (.long q5), .second, .val (.long q6), .second] [(.long q6)])) _
      exact X0.lreturnOut hx Bd.returns (hb hby d7_7) hr
    · show Q7 Z p1 p2 p3 p4 q5 q6 h0 n0 _ s₁.heap _
      rw [e0]
      exact ⟨by unfold fn7; rw [if_pos hc2_2], N0, rfl⟩
  · skip
    have pre4 : ∀ t, Steps p.tables e below (s₁.setTop (mkF m 10 #[.val (.int p1), .val (.int p2), .val (.int p3), .val (.int p4), .val (.long q5), .second, .val (.long q6), .second] [(.int p2), (.int p1)])) t → Steps p.tables e below (s₁.setTop (entryFrame m #[(.int p1), (.int p2), (.int p3), (.int p4), (.long q5), (.long q6)] 8)) t := by
      intro t kt
      refine pre1 _ ?_
      show Steps p.tables e below (s₁.setTop (mkF m 2 #[.val (.int p1), .val (.int p2), .val (.int p3), .val (.int p4), .val (.long q5), .second, .val (.long q6), .second] [(.int p3), (.int p1)])) _
      refine XS.icmpYes X0.here hx rfl (pc0 := 2) (pc' := 8) rfl (hb hby d7_2) rfl (XT.ii_ne_t hc2_2) (by decide) (by decide) ?_
      show Steps p.tables e below (s₁.setTop (mkF m 8 #[.val (.int p1), .val (.int p2), .val (.int p3), .val (.int p4), .val (.long q5), .second, .val (.long q6), .second] [])) _
      refine XS.iloadN X0.here hx rfl (hb hby d7_8) rfl ?_
      show Steps p.tables e below (s₁.setTop (mkF m 9 #[.val (.int p1), .val (.int p2), .val (.int p3), .val (.int p4), .val (.long q5), .second, .val (.long q6), .second] [(.int p1)])) _
      refine XS.iloadN X0.here hx rfl (hb hby d7_9) rfl ?_
      exact kt
    by_cases hc10_5 : p1 = p2
    · skip
      have pre6 : ∀ t, Steps p.tables e below (s₁.setTop (mkF m 15 #[.val (.int p1), .val (.int p2), .val (.int p3), .val (.int p4), .val (.long q5), .second, .val (.long q6), .second] [(.long q5)])) t → Steps p.tables e below (s₁.setTop (entryFrame m #[(.int p1), (.int p2), (.int p3), (.int p4), (.long q5), (.long q6)] 8)) t := by
        intro t kt
        refine pre4 _ ?_
        show Steps p.tables e below (s₁.setTop (mkF m 10 #[.val (.int p1), .val (.int p2), .val (.int p3), .val (.int p4), .val (.long q5), .second, .val (.long q6), .second] [(.int p2), (.int p1)])) _
        refine XS.icmpNo X0.here hx rfl (hb hby d7_10) rfl (XT.ii_ne_f hc10_5) ?_
        show Steps p.tables e below (s₁.setTop (mkF m 13 #[.val (.int p1), .val (.int p2), .val (.int p3), .val (.int p4), .val (.long q5), .second, .val (.long q6), .second] [])) _
        refine XS.lload X0.here hx rfl (hb hby d7_13) rfl ?_
        exact kt
      obtain ⟨fs, hr, hrun, hended, hW, hsame⟩ := X0.leave (v := some (.long q5)) (fun h => by rw [Bd.returns] at h; cases h)
      refine ⟨_, _, pre6 _ ?_, hrun, hended, _, _, rfl, ?_, ⟨_, rfl⟩, hW, hsame.mono (by decide) (by decide)⟩
      · show Steps p.tables e below (s₁.setTop (mkF m 15 #[.val (.int p1), .val (.int p2), .val (.int p3), .val (.int p4), .val (.long q5), .second, .val (.long q6), .second] [(.long q5)])) _
        exact X0.lreturnOut hx Bd.returns (hb hby d7_15) hr
      · show Q7 Z p1 p2 p3 p4 q5 q6 h0 n0 _ s₁.heap _
        rw [e0]
        exact ⟨by unfold fn7; rw [if_neg hc2_2, if_pos hc10_5], N0, rfl⟩
    · skip
      have pre7 : ∀ t, Steps p.tables e below (s₁.setTop (mkF m 18 #[.val (.int p1), .val (.int p2), .val (.int p3), .val (.int p4), .val (.long q5), .second, .val (.long q6), .second] [(.int p4), (.int p1)])) t → Steps p.tables e below (s₁.setTop (entryFrame m #[(.int p1), (.int p2), (.int p3), (.int p4), (.long q5), (.long q6)] 8)) t := by
        intro t kt
        refine pre4 _ ?_
        show Steps p.tables e below (s₁.setTop (mkF m 10 #[.val (.int p1), .val (.int p2), .val (.int p3), .val (.int p4), .val (.long q5), .second, .val (.long q6), .second] [(.int p2), (.int p1)])) _
        refine XS.icmpYes X0.here hx rfl (pc0 := 10) (pc' := 16) rfl (hb hby d7_10) rfl (XT.ii_ne_t hc10_5) (by decide) (by decide) ?_
        show Steps p.tables e below (s₁.setTop (mkF m 16 #[.val (.int p1), .val (.int p2), .val (.int p3), .val (.int p4), .val (.long q5), .second, .val (.long q6), .second] [])) _
        refine XS.iloadN X0.here hx rfl (hb hby d7_16) rfl ?_
        show Steps p.tables e below (s₁.setTop (mkF m 17 #[.val (.int p1), .val (.int p2), .val (.int p3), .val (.int p4), .val (.long q5), .second, .val (.long q6), .second] [(.int p1)])) _
        refine XS.iloadN X0.here hx rfl (hb hby d7_17) rfl ?_
        exact kt
      by_cases hc18_8 : p1 = p4
      · skip
        have pre9 : ∀ t, Steps p.tables e below (s₁.setTop (mkF m 26 #[.val (.int p1), .val (.int p2), .val (.int p3), .val (.int p4), .val (.long q5), .second, .val (.long q6), .second] [(.long (q5 ^^^ q6))])) t → Steps p.tables e below (s₁.setTop (entryFrame m #[(.int p1), (.int p2), (.int p3), (.int p4), (.long q5), (.long q6)] 8)) t := by
          intro t kt
          refine pre7 _ ?_
          show Steps p.tables e below (s₁.setTop (mkF m 18 #[.val (.int p1), .val (.int p2), .val (.int p3), .val (.int p4), .val (.long q5), .second, .val (.long q6), .second] [(.int p4), (.int p1)])) _
          refine XS.icmpNo X0.here hx rfl (hb hby d7_18) rfl (XT.ii_ne_f hc18_8) ?_
          show Steps p.tables e below (s₁.setTop (mkF m 21 #[.val (.int p1), .val (.int p2), .val (.int p3), .val (.int p4), .val (.long q5), .second, .val (.long q6), .second] [])) _
          refine XS.lload X0.here hx rfl (hb hby d7_21) rfl ?_
          show Steps p.tables e below (s₁.setTop (mkF m 23 #[.val (.int p1), .val (.int p2), .val (.int p3), .val (.int p4), .val (.long q5), .second, .val (.long q6), .second] [(.long q5)])) _
          refine XS.lload X0.here hx rfl (hb hby d7_23) rfl ?_
          show Steps p.tables e below (s₁.setTop (mkF m 25 #[.val (.int p1), .val (.int p2), .val (.int p3), .val (.int p4), .val (.long q5), .second, .val (.long q6), .second] [(.long q6), (.long q5)])) _
          refine XS.lxor X0.here hx rfl (hb hby d7_25) rfl ?_
          exact kt
        obtain ⟨fs, hr, hrun, hended, hW, hsame⟩ := X0.leave (v := some (.long (q5 ^^^ q6))) (fun h => by rw [Bd.returns] at h; cases h)
        refine ⟨_, _, pre9 _ ?_, hrun, hended, _, _, rfl, ?_, ⟨_, rfl⟩, hW, hsame.mono (by decide) (by decide)⟩
        · show Steps p.tables e below (s₁.setTop (mkF m 26 #[.val (.int p1), .val (.int p2), .val (.int p3), .val (.int p4), .val (.long q5), .second, .val (.long q6), .second] [(.long (q5 ^^^ q6))])) _
          exact X0.lreturnOut hx Bd.returns (hb hby d7_26) hr
        · show Q7 Z p1 p2 p3 p4 q5 q6 h0 n0 _ s₁.heap _
          rw [e0]
          exact ⟨by unfold fn7; rw [if_neg hc2_2, if_neg hc10_5, if_pos hc18_8], N0, rfl⟩
      · skip
        have pre10 : ∀ t, Steps p.tables e below (s₁.setTop (mkF m 28 #[.val (.int p1), .val (.int p2), .val (.int p3), .val (.int p4), .val (.long q5), .second, .val (.long q6), .second] [(.long (0 : Int64))])) t → Steps p.tables e below (s₁.setTop (entryFrame m #[(.int p1), (.int p2), (.int p3), (.int p4), (.long q5), (.long q6)] 8)) t := by
          intro t kt
          refine pre7 _ ?_
          show Steps p.tables e below (s₁.setTop (mkF m 18 #[.val (.int p1), .val (.int p2), .val (.int p3), .val (.int p4), .val (.long q5), .second, .val (.long q6), .second] [(.int p4), (.int p1)])) _
          refine XS.icmpYes X0.here hx rfl (pc0 := 18) (pc' := 27) rfl (hb hby d7_18) rfl (XT.ii_ne_t hc18_8) (by decide) (by decide) ?_
          show Steps p.tables e below (s₁.setTop (mkF m 27 #[.val (.int p1), .val (.int p2), .val (.int p3), .val (.int p4), .val (.long q5), .second, .val (.long q6), .second] [])) _
          refine XS.lconst X0.here hx rfl (hb hby d7_27) ?_
          exact kt
        obtain ⟨fs, hr, hrun, hended, hW, hsame⟩ := X0.leave (v := some (.long (0 : Int64))) (fun h => by rw [Bd.returns] at h; cases h)
        refine ⟨_, _, pre10 _ ?_, hrun, hended, _, _, rfl, ?_, ⟨_, rfl⟩, hW, hsame.mono (by decide) (by decide)⟩
        · show Steps p.tables e below (s₁.setTop (mkF m 28 #[.val (.int p1), .val (.int p2), .val (.int p3), .val (.int p4), .val (.long q5), .second, .val (.long q6), .second] [(.long (0 : Int64))])) _
          exact X0.lreturnOut hx Bd.returns (hb hby d7_28) hr
        · show Q7 Z p1 p2 p3 p4 q5 q6 h0 n0 _ s₁.heap _
          rw [e0]
          exact ⟨by unfold fn7; rw [if_neg hc2_2, if_neg hc10_5, if_neg hc18_8], N0, rfl⟩
theorem d8_0 : decode method_2_code 0 = .ok (.iload_n 1, 1) := by decide +kernel
theorem d8_1 : decode method_2_code 1 = .ok (.ifCond .eq 20, 3) := by decide +kernel
theorem d8_4 : decode method_2_code 4 = .ok (.iload_n 0, 1) := by decide +kernel
theorem d8_5 : decode method_2_code 5 = .ok (.bipush 6, 2) := by decide +kernel
theorem d8_7 : decode method_2_code 7 = .ok (.iushr, 1) := by decide +kernel
theorem d8_8 : decode method_2_code 8 = .ok (.iload_n 2, 1) := by decide +kernel
theorem d8_9 : decode method_2_code 9 = .ok (.if_icmp .ne 12, 3) := by decide +kernel
theorem d8_12 : decode method_2_code 12 = .ok (.lconst 1, 1) := by decide +kernel
theorem d8_13 : decode method_2_code 13 = .ok (.iload_n 0, 1) := by decide +kernel
theorem d8_14 : decode method_2_code 14 = .ok (.bipush 63, 2) := by decide +kernel
theorem d8_16 : decode method_2_code 16 = .ok (.iand, 1) := by decide +kernel
theorem d8_17 : decode method_2_code 17 = .ok (.lshl, 1) := by decide +kernel
theorem d8_18 : decode method_2_code 18 = .ok (.goto 4, 3) := by decide +kernel
theorem d8_21 : decode method_2_code 21 = .ok (.lconst 0, 1) := by decide +kernel
theorem d8_22 : decode method_2_code 22 = .ok (.lreturn, 1) := by decide +kernel
theorem pn_8 : plainName "com/example/bitweight/bitweight/chunk/ArrayChunkOrIntoPinLaw" = true := by first | (simp [plainName, overriddenIn]; done) | decide +kernel
theorem ef_8 (m : MethodId) (x0 : Int32) (x1 : Int32) (x2 : Int32) : entryFrame m #[(.int x0), (.int x1), (.int x2)] 3 = mkF m 0 #[.val (.int x0), .val (.int x1), .val (.int x2)] [] := by first | (simp [entryFrame, mkF, argsToLocals, Value.category]; done) | rfl
def fn8 (p1 : Int32) (p2 : Int32) (p3 : Int32) : Int64 := (if p2 = (0 : Int32) then (0 : Int64) else (if ((p1.toUInt32 >>> ((6 : Int32) &&& 31).toUInt32).toInt32) = p3 then ((1 : Int64) <<< ((p1 &&& (63 : Int32)) &&& 0x3f).toInt64) else (0 : Int64)))
def Q8 (Z : State) (p1 : Int32) (p2 : Int32) (p3 : Int32) (h0 : Heap) (n0 : Nat) (v : Option Value) (h : Heap) (L : List Loc) : Prop := v = some (.long (fn8 p1 p2 p3)) ∧ Fr n0 L ∧ h = h0
set_option maxRecDepth 65536 in
set_option maxHeartbeats 40000000 in
theorem rm8 (l : Launch) (Z : State) (a0 : Array Value) (hw : ∀ d ∈ tables_1, d.before a0 Z = true) (ws : List Jvm.Cond) (p1 : Int32) (p2 : Int32) (p3 : Int32) (h0 : Heap) (n0 : Nat) (Z0 : n0 ≤ h0.size) :
    MetFree l (⟨"com/example/bitweight/bitweight/chunk/ArrayChunkOrIntoPinLaw", "bit", "(IZI)J"⟩ : MethodName) (head1 (Jvm.Cond.code (⟨"com/example/bitweight/bitweight/chunk/ArrayChunkOrIntoPinLaw", "bit", "(IZI)J"⟩ : MethodName) method_2_code 3 (some .long) :: ws) ({ frames := 0, cells := 0, slots := 0, locals := 0 } : Room)) (fun a U => a = #[(.int p1), (.int p2), (.int p3)] ∧ Z.Warmed39 U.vm ∧ U.heap = h0) (fun _ _ _ _ _ => True) (fun _ U o U' => ∃ v L, o = .returned v ∧ Q8 Z p1 p2 p3 h0 n0 v U'.heap L ∧ FrameEnd U o U' L ({ frames := 0, cells := 0, slots := 0, locals := 0 } : Room).cells ({ frames := 0, cells := 0, slots := 0, locals := 0 } : Room).slots) := by
  refine MetFree.of_bodySF (plainFor_of_name pn_8) hisR ?_
  intro p e s m args below meth c s₁ Bd hml0 hP hK
  obtain ⟨rfl, hZ, hh⟩ := hP
  have hx := Bd.exec
  have hby := Bd.bytes
  have hml : c.maxLocals = 3 := hml0
  have hown : s.vm.findClass "com/example/bitweight/bitweight/chunk/ArrayChunkOrIntoPinLaw" = some m.cls := findClass_of_methodNamed Bd.named
  have hnm := (name_of_methodNamed Bd.named Bd.method).1
  have X0 : Stand p l e ({ frames := 0, cells := 0, slots := 0, locals := 0 } : Room) s m #[(.int p1), (.int p2), (.int p3)] below meth c s₁ [] 0 0 := Stand.of_body Bd
  have e0 : s₁.heap = h0 := by rw [← hh, Bd.state]; rfl
  have N0 := Fr.nil n0
  have pre0 : ∀ t, Steps p.tables e below (s₁.setTop (mkF m 0 #[.val (.int p1), .val (.int p2), .val (.int p3)] [])) t → Steps p.tables e below (s₁.setTop (entryFrame m #[(.int p1), (.int p2), (.int p3)] 3)) t := fun t k => castTop (ef_8 m p1 p2 p3) k
  have pre1 : ∀ t, Steps p.tables e below (s₁.setTop (mkF m 1 #[.val (.int p1), .val (.int p2), .val (.int p3)] [(.int p2)])) t → Steps p.tables e below (s₁.setTop (entryFrame m #[(.int p1), (.int p2), (.int p3)] 3)) t := by
    intro t kt
    refine pre0 _ ?_
    show Steps p.tables e below (s₁.setTop (mkF m 0 #[.val (.int p1), .val (.int p2), .val (.int p3)] [])) _
    refine XS.iloadN X0.here hx rfl (hb hby d8_0) rfl ?_
    exact kt
  by_cases hc1_2 : p2 = (0 : Int32)
  · skip
    have pre3 : ∀ t, Steps p.tables e below (s₁.setTop (mkF m 22 #[.val (.int p1), .val (.int p2), .val (.int p3)] [(.long (0 : Int64))])) t → Steps p.tables e below (s₁.setTop (entryFrame m #[(.int p1), (.int p2), (.int p3)] 3)) t := by
      intro t kt
      refine pre1 _ ?_
      show Steps p.tables e below (s₁.setTop (mkF m 1 #[.val (.int p1), .val (.int p2), .val (.int p3)] [(.int p2)])) _
      refine XS.ifYes X0.here hx rfl (pc0 := 1) (pc' := 21) rfl (hb hby d8_1) rfl (XT.i0_eq_t hc1_2) (by decide) (by decide) ?_
      show Steps p.tables e below (s₁.setTop (mkF m 21 #[.val (.int p1), .val (.int p2), .val (.int p3)] [])) _
      refine XS.lconst X0.here hx rfl (hb hby d8_21) ?_
      exact kt
    obtain ⟨fs, hr, hrun, hended, hW, hsame⟩ := X0.leave (v := some (.long (0 : Int64))) (fun h => by rw [Bd.returns] at h; cases h)
    refine ⟨_, _, pre3 _ ?_, hrun, hended, _, _, rfl, ?_, ⟨_, rfl⟩, hW, hsame.mono (by decide) (by decide)⟩
    · show Steps p.tables e below (s₁.setTop (mkF m 22 #[.val (.int p1), .val (.int p2), .val (.int p3)] [(.long (0 : Int64))])) _
      exact X0.lreturnOut hx Bd.returns (hb hby d8_22) hr
    · show Q8 Z p1 p2 p3 h0 n0 _ s₁.heap _
      rw [e0]
      exact ⟨by unfold fn8; rw [if_pos hc1_2], N0, rfl⟩
  · skip
    have pre4 : ∀ t, Steps p.tables e below (s₁.setTop (mkF m 9 #[.val (.int p1), .val (.int p2), .val (.int p3)] [(.int p3), (.int ((p1.toUInt32 >>> ((6 : Int32) &&& 31).toUInt32).toInt32))])) t → Steps p.tables e below (s₁.setTop (entryFrame m #[(.int p1), (.int p2), (.int p3)] 3)) t := by
      intro t kt
      refine pre1 _ ?_
      show Steps p.tables e below (s₁.setTop (mkF m 1 #[.val (.int p1), .val (.int p2), .val (.int p3)] [(.int p2)])) _
      refine XS.ifNo X0.here hx rfl (hb hby d8_1) rfl (XT.i0_eq_f hc1_2) ?_
      show Steps p.tables e below (s₁.setTop (mkF m 4 #[.val (.int p1), .val (.int p2), .val (.int p3)] [])) _
      refine XS.iloadN X0.here hx rfl (hb hby d8_4) rfl ?_
      show Steps p.tables e below (s₁.setTop (mkF m 5 #[.val (.int p1), .val (.int p2), .val (.int p3)] [(.int p1)])) _
      refine XS.bipush X0.here hx rfl (hb hby d8_5) ?_
      show Steps p.tables e below (s₁.setTop (mkF m 7 #[.val (.int p1), .val (.int p2), .val (.int p3)] [(.int (6 : Int32)), (.int p1)])) _
      refine XS.iushr X0.here hx rfl (hb hby d8_7) rfl ?_
      show Steps p.tables e below (s₁.setTop (mkF m 8 #[.val (.int p1), .val (.int p2), .val (.int p3)] [(.int ((p1.toUInt32 >>> ((6 : Int32) &&& 31).toUInt32).toInt32))])) _
      refine XS.iloadN X0.here hx rfl (hb hby d8_8) rfl ?_
      exact kt
    by_cases hc9_5 : ((p1.toUInt32 >>> ((6 : Int32) &&& 31).toUInt32).toInt32) = p3
    · skip
      have pre6 : ∀ t, Steps p.tables e below (s₁.setTop (mkF m 22 #[.val (.int p1), .val (.int p2), .val (.int p3)] [(.long ((1 : Int64) <<< ((p1 &&& (63 : Int32)) &&& 0x3f).toInt64))])) t → Steps p.tables e below (s₁.setTop (entryFrame m #[(.int p1), (.int p2), (.int p3)] 3)) t := by
        intro t kt
        refine pre4 _ ?_
        show Steps p.tables e below (s₁.setTop (mkF m 9 #[.val (.int p1), .val (.int p2), .val (.int p3)] [(.int p3), (.int ((p1.toUInt32 >>> ((6 : Int32) &&& 31).toUInt32).toInt32))])) _
        refine XS.icmpNo X0.here hx rfl (hb hby d8_9) rfl (XT.ii_ne_f hc9_5) ?_
        show Steps p.tables e below (s₁.setTop (mkF m 12 #[.val (.int p1), .val (.int p2), .val (.int p3)] [])) _
        refine XS.lconst X0.here hx rfl (hb hby d8_12) ?_
        show Steps p.tables e below (s₁.setTop (mkF m 13 #[.val (.int p1), .val (.int p2), .val (.int p3)] [(.long (1 : Int64))])) _
        refine XS.iloadN X0.here hx rfl (hb hby d8_13) rfl ?_
        show Steps p.tables e below (s₁.setTop (mkF m 14 #[.val (.int p1), .val (.int p2), .val (.int p3)] [(.int p1), (.long (1 : Int64))])) _
        refine XS.bipush X0.here hx rfl (hb hby d8_14) ?_
        show Steps p.tables e below (s₁.setTop (mkF m 16 #[.val (.int p1), .val (.int p2), .val (.int p3)] [(.int (63 : Int32)), (.int p1), (.long (1 : Int64))])) _
        refine XS.iand X0.here hx rfl (hb hby d8_16) rfl ?_
        show Steps p.tables e below (s₁.setTop (mkF m 17 #[.val (.int p1), .val (.int p2), .val (.int p3)] [(.int (p1 &&& (63 : Int32))), (.long (1 : Int64))])) _
        refine XS.lshl X0.here hx rfl (hb hby d8_17) rfl ?_
        show Steps p.tables e below (s₁.setTop (mkF m 18 #[.val (.int p1), .val (.int p2), .val (.int p3)] [(.long ((1 : Int64) <<< ((p1 &&& (63 : Int32)) &&& 0x3f).toInt64))])) _
        refine XS.goto X0.here hx rfl (pc0 := 18) (pc' := 22) rfl (hb hby d8_18) (by decide) (by decide) ?_
        exact kt
      obtain ⟨fs, hr, hrun, hended, hW, hsame⟩ := X0.leave (v := some (.long ((1 : Int64) <<< ((p1 &&& (63 : Int32)) &&& 0x3f).toInt64))) (fun h => by rw [Bd.returns] at h; cases h)
      refine ⟨_, _, pre6 _ ?_, hrun, hended, _, _, rfl, ?_, ⟨_, rfl⟩, hW, hsame.mono (by decide) (by decide)⟩
      · show Steps p.tables e below (s₁.setTop (mkF m 22 #[.val (.int p1), .val (.int p2), .val (.int p3)] [(.long ((1 : Int64) <<< ((p1 &&& (63 : Int32)) &&& 0x3f).toInt64))])) _
        exact X0.lreturnOut hx Bd.returns (hb hby d8_22) hr
      · show Q8 Z p1 p2 p3 h0 n0 _ s₁.heap _
        rw [e0]
        exact ⟨by unfold fn8; rw [if_neg hc1_2, if_pos hc9_5], N0, rfl⟩
    · skip
      have pre7 : ∀ t, Steps p.tables e below (s₁.setTop (mkF m 22 #[.val (.int p1), .val (.int p2), .val (.int p3)] [(.long (0 : Int64))])) t → Steps p.tables e below (s₁.setTop (entryFrame m #[(.int p1), (.int p2), (.int p3)] 3)) t := by
        intro t kt
        refine pre4 _ ?_
        show Steps p.tables e below (s₁.setTop (mkF m 9 #[.val (.int p1), .val (.int p2), .val (.int p3)] [(.int p3), (.int ((p1.toUInt32 >>> ((6 : Int32) &&& 31).toUInt32).toInt32))])) _
        refine XS.icmpYes X0.here hx rfl (pc0 := 9) (pc' := 21) rfl (hb hby d8_9) rfl (XT.ii_ne_t hc9_5) (by decide) (by decide) ?_
        show Steps p.tables e below (s₁.setTop (mkF m 21 #[.val (.int p1), .val (.int p2), .val (.int p3)] [])) _
        refine XS.lconst X0.here hx rfl (hb hby d8_21) ?_
        exact kt
      obtain ⟨fs, hr, hrun, hended, hW, hsame⟩ := X0.leave (v := some (.long (0 : Int64))) (fun h => by rw [Bd.returns] at h; cases h)
      refine ⟨_, _, pre7 _ ?_, hrun, hended, _, _, rfl, ?_, ⟨_, rfl⟩, hW, hsame.mono (by decide) (by decide)⟩
      · show Steps p.tables e below (s₁.setTop (mkF m 22 #[.val (.int p1), .val (.int p2), .val (.int p3)] [(.long (0 : Int64))])) _
        exact X0.lreturnOut hx Bd.returns (hb hby d8_22) hr
      · show Q8 Z p1 p2 p3 h0 n0 _ s₁.heap _
        rw [e0]
        exact ⟨by unfold fn8; rw [if_neg hc1_2, if_neg hc9_5], N0, rfl⟩
theorem d6_0 : decode method_4_code 0 = .ok (.iload_n 0, 1) := by decide +kernel
theorem d6_1 : decode method_4_code 1 = .ok (.iload 5, 2) := by decide +kernel
theorem d6_3 : decode method_4_code 3 = .ok (.iload 6, 2) := by decide +kernel
theorem d6_5 : decode method_4_code 5 = .ok (.iload 7, 2) := by decide +kernel
theorem d6_7 : decode method_4_code 7 = .ok (.lload 8, 2) := by decide +kernel
theorem d6_9 : decode method_4_code 9 = .ok (.lload 10, 2) := by decide +kernel
theorem d6_11 : decode method_4_code 11 = .ok (.invokestatic 7, 3) := by decide +kernel
theorem d6_14 : decode method_4_code 14 = .ok (.iload_n 1, 1) := by decide +kernel
theorem d6_15 : decode method_4_code 15 = .ok (.iload 4, 2) := by decide +kernel
theorem d6_17 : decode method_4_code 17 = .ok (.iconst 1, 1) := by decide +kernel
theorem d6_18 : decode method_4_code 18 = .ok (.if_icmp .lt 7, 3) := by decide +kernel
theorem d6_21 : decode method_4_code 21 = .ok (.iconst 1, 1) := by decide +kernel
theorem d6_22 : decode method_4_code 22 = .ok (.goto 4, 3) := by decide +kernel
theorem d6_25 : decode method_4_code 25 = .ok (.iconst 0, 1) := by decide +kernel
theorem d6_26 : decode method_4_code 26 = .ok (.iload_n 0, 1) := by decide +kernel
theorem d6_27 : decode method_4_code 27 = .ok (.invokestatic 13, 3) := by decide +kernel
theorem d6_30 : decode method_4_code 30 = .ok (.lor, 1) := by decide +kernel
theorem d6_31 : decode method_4_code 31 = .ok (.iload_n 2, 1) := by decide +kernel
theorem d6_32 : decode method_4_code 32 = .ok (.iload 4, 2) := by decide +kernel
theorem d6_34 : decode method_4_code 34 = .ok (.iconst 2, 1) := by decide +kernel
theorem d6_35 : decode method_4_code 35 = .ok (.if_icmp .lt 7, 3) := by decide +kernel
theorem d6_38 : decode method_4_code 38 = .ok (.iconst 1, 1) := by decide +kernel
theorem d6_39 : decode method_4_code 39 = .ok (.goto 4, 3) := by decide +kernel
theorem d6_42 : decode method_4_code 42 = .ok (.iconst 0, 1) := by decide +kernel
theorem d6_43 : decode method_4_code 43 = .ok (.iload_n 0, 1) := by decide +kernel
theorem d6_44 : decode method_4_code 44 = .ok (.invokestatic 13, 3) := by decide +kernel
theorem d6_47 : decode method_4_code 47 = .ok (.lor, 1) := by decide +kernel
theorem d6_48 : decode method_4_code 48 = .ok (.iload_n 3, 1) := by decide +kernel
theorem d6_49 : decode method_4_code 49 = .ok (.iload 4, 2) := by decide +kernel
theorem d6_51 : decode method_4_code 51 = .ok (.iconst 3, 1) := by decide +kernel
theorem d6_52 : decode method_4_code 52 = .ok (.if_icmp .lt 7, 3) := by decide +kernel
theorem d6_55 : decode method_4_code 55 = .ok (.iconst 1, 1) := by decide +kernel
theorem d6_56 : decode method_4_code 56 = .ok (.goto 4, 3) := by decide +kernel
theorem d6_59 : decode method_4_code 59 = .ok (.iconst 0, 1) := by decide +kernel
theorem d6_60 : decode method_4_code 60 = .ok (.iload_n 0, 1) := by decide +kernel
theorem d6_61 : decode method_4_code 61 = .ok (.invokestatic 13, 3) := by decide +kernel
theorem d6_64 : decode method_4_code 64 = .ok (.lor, 1) := by decide +kernel
theorem d6_65 : decode method_4_code 65 = .ok (.lreturn, 1) := by decide +kernel
theorem pn_6 : plainName "com/example/bitweight/bitweight/chunk/ArrayChunkOrIntoPinLaw" = true := by first | (simp [plainName, overriddenIn]; done) | decide +kernel
theorem ef_6 (m : MethodId) (x0 : Int32) (x1 : Int32) (x2 : Int32) (x3 : Int32) (x4 : Int32) (x5 : Int32) (x6 : Int32) (x7 : Int32) (x8 : Int64) (x9 : Int64) : entryFrame m #[(.int x0), (.int x1), (.int x2), (.int x3), (.int x4), (.int x5), (.int x6), (.int x7), (.long x8), (.long x9)] 12 = mkF m 0 #[.val (.int x0), .val (.int x1), .val (.int x2), .val (.int x3), .val (.int x4), .val (.int x5), .val (.int x6), .val (.int x7), .val (.long x8), .second, .val (.long x9), .second] [] := by first | (simp [entryFrame, mkF, argsToLocals, Value.category]; done) | rfl
theorem pd_9 : parseMethodDescriptor "(IIIIJJ)J" = some ⟨[.int, .int, .int, .int, .long, .long], some .long⟩ := by decide +kernel
theorem pd_10 : parseMethodDescriptor "(IZI)J" = some ⟨[.int, .boolean, .int], some .long⟩ := by decide +kernel
def fn6 (kk : Int32) (xx : Int32) (yy : Int32) (zz : Int32) (nn : Int32) (ia : Int32) (ib : Int32) (ip : Int32) (w1 : Int64) (w2 : Int64) : Int64 := ((((fn7 kk ia ib ip w1 w2) ||| (fn8 xx (if nn < (1 : Int32) then (0 : Int32) else (1 : Int32)) kk)) ||| (fn8 yy (if nn < (2 : Int32) then (0 : Int32) else (1 : Int32)) kk)) ||| (fn8 zz (if nn < (3 : Int32) then (0 : Int32) else (1 : Int32)) kk))
def Q6 (Z : State) (kk : Int32) (xx : Int32) (yy : Int32) (zz : Int32) (nn : Int32) (ia : Int32) (ib : Int32) (ip : Int32) (w1 : Int64) (w2 : Int64) (h0 : Heap) (n0 : Nat) (v : Option Value) (h : Heap) (L : List Loc) : Prop := v = some (.long (fn6 kk xx yy zz nn ia ib ip w1 w2)) ∧ Fr n0 L ∧ h = h0
set_option maxRecDepth 65536 in
set_option maxHeartbeats 40000000 in
theorem rm6 (l : Launch) (Z : State) (a0 : Array Value) (hw : ∀ d ∈ tables_1, d.before a0 Z = true) (ws : List Jvm.Cond) (kk : Int32) (xx : Int32) (yy : Int32) (zz : Int32) (nn : Int32) (ia : Int32) (ib : Int32) (ip : Int32) (w1 : Int64) (w2 : Int64) (h0 : Heap) (n0 : Nat) (Z0 : n0 ≤ h0.size) :
    MetFree l (⟨"com/example/bitweight/bitweight/chunk/ArrayChunkOrIntoPinLaw", "expected", "(IIIIIIIIJJ)J"⟩ : MethodName) (head1 (Jvm.Cond.code (⟨"com/example/bitweight/bitweight/chunk/ArrayChunkOrIntoPinLaw", "expected", "(IIIIIIIIJJ)J"⟩ : MethodName) method_4_code 12 (some .long) :: ws) ({ frames := 1, cells := 0, slots := 0, locals := 19 } : Room)) (fun a U => a = #[(.int kk), (.int xx), (.int yy), (.int zz), (.int nn), (.int ia), (.int ib), (.int ip), (.long w1), (.long w2)] ∧ Z.Warmed39 U.vm ∧ U.heap = h0) (fun _ _ _ _ _ => True) (fun _ U o U' => ∃ v L, o = .returned v ∧ Q6 Z kk xx yy zz nn ia ib ip w1 w2 h0 n0 v U'.heap L ∧ FrameEnd U o U' L ({ frames := 1, cells := 0, slots := 0, locals := 19 } : Room).cells ({ frames := 1, cells := 0, slots := 0, locals := 19 } : Room).slots) := by
  refine MetFree.of_bodySF (plainFor_of_name pn_6) hisR ?_
  intro p e s m args below meth c s₁ Bd hml0 hP hK
  obtain ⟨rfl, hZ, hh⟩ := hP
  have hx := Bd.exec
  have hby := Bd.bytes
  have hml : c.maxLocals = 12 := hml0
  have hown : s.vm.findClass "com/example/bitweight/bitweight/chunk/ArrayChunkOrIntoPinLaw" = some m.cls := findClass_of_methodNamed Bd.named
  have hnm := (name_of_methodNamed Bd.named Bd.method).1
  have X0 : Stand p l e ({ frames := 1, cells := 0, slots := 0, locals := 19 } : Room) s m #[(.int kk), (.int xx), (.int yy), (.int zz), (.int nn), (.int ia), (.int ib), (.int ip), (.long w1), (.long w2)] below meth c s₁ [] 0 0 := Stand.of_body Bd
  have e0 : s₁.heap = h0 := by rw [← hh, Bd.state]; rfl
  have N0 := Fr.nil n0
  have pre0 : ∀ t, Steps p.tables e below (s₁.setTop (mkF m 0 #[.val (.int kk), .val (.int xx), .val (.int yy), .val (.int zz), .val (.int nn), .val (.int ia), .val (.int ib), .val (.int ip), .val (.long w1), .second, .val (.long w2), .second] [])) t → Steps p.tables e below (s₁.setTop (entryFrame m #[(.int kk), (.int xx), (.int yy), (.int zz), (.int nn), (.int ia), (.int ib), (.int ip), (.long w1), (.long w2)] 12)) t := fun t k => castTop (ef_6 m kk xx yy zz nn ia ib ip w1 w2) k
  obtain ⟨_, _, ⟨T1, L1, k1, n1⟩, -, X1, ⟨Lc1, hQ1, l1, y1, z1⟩, st1⟩ := Jvm.LawKit.callS X0 hx (y := (⟨"com/example/bitweight/bitweight/chunk/ArrayChunkOrIntoPinLaw", "pre", "(IIIIJJ)J"⟩ : MethodName)) hown (mvT hZ (hw _ (List.mem_of_getElem? (i := 36) rfl))) (mvT hZ (hw _ (List.mem_of_getElem? (i := 37) rfl))) (mvT hZ (hw _ (List.mem_of_getElem? (i := 34) rfl))) (mvT hZ (hw _ (List.mem_of_getElem? (i := 38) rfl))) (by decide) (backOf (W := 0) (rm7 l Z a0 hw [] kk ia ib ip w1 w2 h0 n0 Z0) hZ (hw _ (List.mem_of_getElem? (i := 38) rfl)) (hw _ (List.mem_of_getElem? (i := 34) rfl)) (by decide) (by decide)) (g := (mkF m 11 #[.val (.int kk), .val (.int xx), .val (.int yy), .val (.int zz), .val (.int nn), .val (.int ia), .val (.int ib), .val (.int ip), .val (.long w1), .second, .val (.long w2), .second] [(.long w2), (.long w1), (.int ip), (.int ib), (.int ia), (.int kk)])) rfl (by rw [hml]; rfl) (argsL := [(.int kk), (.int ia), (.int ib), (.int ip), (.long w1), (.long w2)]) (rest := []) (lenOf pd_9 rfl) rfl (by show 2 * 0 + _ ≤ _; exact Nat.le_of_eq rfl) (hb hby d6_11) (fun _ _ => ⟨rfl, e0, (by decide : 0 + 0 ≤ _), (by decide : 0 + 0 ≤ _)⟩)
  dsimp only [Pt.U, Pt.locs, Pt.cells, Pt.slots] at X1 l1 y1 z1 st1 hQ1
  subst l1 y1 z1
  obtain ⟨rfl, N1q, hE1⟩ := hQ1
  have N1 := Fr.app N0 N1q
  have pre2 : ∀ t, Steps p.tables e below (T1.setTop (mkF m 18 #[.val (.int kk), .val (.int xx), .val (.int yy), .val (.int zz), .val (.int nn), .val (.int ia), .val (.int ib), .val (.int ip), .val (.long w1), .second, .val (.long w2), .second] [(.int (1 : Int32)), (.int nn), (.int xx), (.long (fn7 kk ia ib ip w1 w2))])) t → Steps p.tables e below (s₁.setTop (entryFrame m #[(.int kk), (.int xx), (.int yy), (.int zz), (.int nn), (.int ia), (.int ib), (.int ip), (.long w1), (.long w2)] 12)) t := by
    intro t kt
    refine pre0 _ ?_
    show Steps p.tables e below (s₁.setTop (mkF m 0 #[.val (.int kk), .val (.int xx), .val (.int yy), .val (.int zz), .val (.int nn), .val (.int ia), .val (.int ib), .val (.int ip), .val (.long w1), .second, .val (.long w2), .second] [])) _
    refine XS.iloadN X0.here hx rfl (hb hby d6_0) rfl ?_
    show Steps p.tables e below (s₁.setTop (mkF m 1 #[.val (.int kk), .val (.int xx), .val (.int yy), .val (.int zz), .val (.int nn), .val (.int ia), .val (.int ib), .val (.int ip), .val (.long w1), .second, .val (.long w2), .second] [(.int kk)])) _
    refine XS.iload X0.here hx rfl (hb hby d6_1) rfl ?_
    show Steps p.tables e below (s₁.setTop (mkF m 3 #[.val (.int kk), .val (.int xx), .val (.int yy), .val (.int zz), .val (.int nn), .val (.int ia), .val (.int ib), .val (.int ip), .val (.long w1), .second, .val (.long w2), .second] [(.int ia), (.int kk)])) _
    refine XS.iload X0.here hx rfl (hb hby d6_3) rfl ?_
    show Steps p.tables e below (s₁.setTop (mkF m 5 #[.val (.int kk), .val (.int xx), .val (.int yy), .val (.int zz), .val (.int nn), .val (.int ia), .val (.int ib), .val (.int ip), .val (.long w1), .second, .val (.long w2), .second] [(.int ib), (.int ia), (.int kk)])) _
    refine XS.iload X0.here hx rfl (hb hby d6_5) rfl ?_
    show Steps p.tables e below (s₁.setTop (mkF m 7 #[.val (.int kk), .val (.int xx), .val (.int yy), .val (.int zz), .val (.int nn), .val (.int ia), .val (.int ib), .val (.int ip), .val (.long w1), .second, .val (.long w2), .second] [(.int ip), (.int ib), (.int ia), (.int kk)])) _
    refine XS.lload X0.here hx rfl (hb hby d6_7) rfl ?_
    show Steps p.tables e below (s₁.setTop (mkF m 9 #[.val (.int kk), .val (.int xx), .val (.int yy), .val (.int zz), .val (.int nn), .val (.int ia), .val (.int ib), .val (.int ip), .val (.long w1), .second, .val (.long w2), .second] [(.long w1), (.int ip), (.int ib), (.int ia), (.int kk)])) _
    refine XS.lload X0.here hx rfl (hb hby d6_9) rfl ?_
    show Steps p.tables e below (s₁.setTop (mkF m 11 #[.val (.int kk), .val (.int xx), .val (.int yy), .val (.int zz), .val (.int nn), .val (.int ia), .val (.int ib), .val (.int ip), .val (.long w1), .second, .val (.long w2), .second] [(.long w2), (.long w1), (.int ip), (.int ib), (.int ia), (.int kk)])) _
    refine st1 _ ?_
    show Steps p.tables e below (T1.setTop (mkF m 14 #[.val (.int kk), .val (.int xx), .val (.int yy), .val (.int zz), .val (.int nn), .val (.int ia), .val (.int ib), .val (.int ip), .val (.long w1), .second, .val (.long w2), .second] [(.long (fn7 kk ia ib ip w1 w2))])) _
    refine XS.iloadN X1.here hx rfl (hb hby d6_14) rfl ?_
    show Steps p.tables e below (T1.setTop (mkF m 15 #[.val (.int kk), .val (.int xx), .val (.int yy), .val (.int zz), .val (.int nn), .val (.int ia), .val (.int ib), .val (.int ip), .val (.long w1), .second, .val (.long w2), .second] [(.int xx), (.long (fn7 kk ia ib ip w1 w2))])) _
    refine XS.iload X1.here hx rfl (hb hby d6_15) rfl ?_
    show Steps p.tables e below (T1.setTop (mkF m 17 #[.val (.int kk), .val (.int xx), .val (.int yy), .val (.int zz), .val (.int nn), .val (.int ia), .val (.int ib), .val (.int ip), .val (.long w1), .second, .val (.long w2), .second] [(.int nn), (.int xx), (.long (fn7 kk ia ib ip w1 w2))])) _
    refine XS.iconst X1.here hx rfl (hb hby d6_17) ?_
    exact kt
  obtain ⟨j4, h_j4⟩ : ∃ z : Int32, z = (if nn < (1 : Int32) then (0 : Int32) else (1 : Int32)) := ⟨_, rfl⟩
  have pre5 : ∀ t, Steps p.tables e below (T1.setTop (mkF m 26 #[.val (.int kk), .val (.int xx), .val (.int yy), .val (.int zz), .val (.int nn), .val (.int ia), .val (.int ib), .val (.int ip), .val (.long w1), .second, .val (.long w2), .second] [(.int j4), (.int xx), (.long (fn7 kk ia ib ip w1 w2))])) t → Steps p.tables e below (s₁.setTop (entryFrame m #[(.int kk), (.int xx), (.int yy), (.int zz), (.int nn), (.int ia), (.int ib), (.int ip), (.long w1), (.long w2)] 12)) t := by
    intro t kt
    refine pre2 _ ?_
    by_cases hc18_3 : nn < (1 : Int32)
    · skip
      have q_j4 : j4 = (0 : Int32) := by rw [h_j4, if_pos hc18_3]
      rw [q_j4] at kt
      show Steps p.tables e below (T1.setTop (mkF m 18 #[.val (.int kk), .val (.int xx), .val (.int yy), .val (.int zz), .val (.int nn), .val (.int ia), .val (.int ib), .val (.int ip), .val (.long w1), .second, .val (.long w2), .second] [(.int (1 : Int32)), (.int nn), (.int xx), (.long (fn7 kk ia ib ip w1 w2))])) _
      refine XS.icmpYes X1.here hx rfl (pc0 := 18) (pc' := 25) rfl (hb hby d6_18) rfl (XT.ii_lt_t hc18_3) (by decide) (by decide) ?_
      show Steps p.tables e below (T1.setTop (mkF m 25 #[.val (.int kk), .val (.int xx), .val (.int yy), .val (.int zz), .val (.int nn), .val (.int ia), .val (.int ib), .val (.int ip), .val (.long w1), .second, .val (.long w2), .second] [(.int xx), (.long (fn7 kk ia ib ip w1 w2))])) _
      refine XS.iconst X1.here hx rfl (hb hby d6_25) ?_
      exact kt
    · skip
      have q_j4 : j4 = (1 : Int32) := by rw [h_j4, if_neg hc18_3]
      rw [q_j4] at kt
      show Steps p.tables e below (T1.setTop (mkF m 18 #[.val (.int kk), .val (.int xx), .val (.int yy), .val (.int zz), .val (.int nn), .val (.int ia), .val (.int ib), .val (.int ip), .val (.long w1), .second, .val (.long w2), .second] [(.int (1 : Int32)), (.int nn), (.int xx), (.long (fn7 kk ia ib ip w1 w2))])) _
      refine XS.icmpNo X1.here hx rfl (hb hby d6_18) rfl (XT.ii_lt_f hc18_3) ?_
      show Steps p.tables e below (T1.setTop (mkF m 21 #[.val (.int kk), .val (.int xx), .val (.int yy), .val (.int zz), .val (.int nn), .val (.int ia), .val (.int ib), .val (.int ip), .val (.long w1), .second, .val (.long w2), .second] [(.int xx), (.long (fn7 kk ia ib ip w1 w2))])) _
      refine XS.iconst X1.here hx rfl (hb hby d6_21) ?_
      show Steps p.tables e below (T1.setTop (mkF m 22 #[.val (.int kk), .val (.int xx), .val (.int yy), .val (.int zz), .val (.int nn), .val (.int ia), .val (.int ib), .val (.int ip), .val (.long w1), .second, .val (.long w2), .second] [(.int (1 : Int32)), (.int xx), (.long (fn7 kk ia ib ip w1 w2))])) _
      refine XS.goto X1.here hx rfl (pc0 := 22) (pc' := 26) rfl (hb hby d6_22) (by decide) (by decide) ?_
      exact kt
  obtain ⟨_, _, ⟨T6, L6, k6, n6⟩, -, X6, ⟨Lc6, hQ6, l6, y6, z6⟩, st6⟩ := Jvm.LawKit.callS X1 hx (y := (⟨"com/example/bitweight/bitweight/chunk/ArrayChunkOrIntoPinLaw", "bit", "(IZI)J"⟩ : MethodName)) hown (mvT hZ (hw _ (List.mem_of_getElem? (i := 39) rfl))) (mvT hZ (hw _ (List.mem_of_getElem? (i := 40) rfl))) (mvT hZ (hw _ (List.mem_of_getElem? (i := 34) rfl))) (mvT hZ (hw _ (List.mem_of_getElem? (i := 41) rfl))) (by decide) (backOf (W := 2) (rm8 l Z a0 hw [] xx j4 kk h0 n0 Z0) hZ (hw _ (List.mem_of_getElem? (i := 41) rfl)) (hw _ (List.mem_of_getElem? (i := 34) rfl)) (by decide) (by decide)) (g := (mkF m 27 #[.val (.int kk), .val (.int xx), .val (.int yy), .val (.int zz), .val (.int nn), .val (.int ia), .val (.int ib), .val (.int ip), .val (.long w1), .second, .val (.long w2), .second] [(.int kk), (.int j4), (.int xx), (.long (fn7 kk ia ib ip w1 w2))])) rfl (by rw [hml]; rfl) (argsL := [(.int xx), (.int j4), (.int kk)]) (rest := [(.long (fn7 kk ia ib ip w1 w2))]) (lenOf pd_10 rfl) rfl (by show 2 * 0 + _ ≤ _; exact Nat.le_of_eq rfl) (hb hby d6_27) (fun _ _ => ⟨rfl, hE1, (by decide : 0 + 0 ≤ _), (by decide : 0 + 0 ≤ _)⟩)
  dsimp only [Pt.U, Pt.locs, Pt.cells, Pt.slots] at X6 l6 y6 z6 st6 hQ6
  subst l6 y6 z6
  obtain ⟨rfl, N6q, hE6⟩ := hQ6
  have N6 := Fr.app N1 N6q
  have pre7 : ∀ t, Steps p.tables e below (T6.setTop (mkF m 35 #[.val (.int kk), .val (.int xx), .val (.int yy), .val (.int zz), .val (.int nn), .val (.int ia), .val (.int ib), .val (.int ip), .val (.long w1), .second, .val (.long w2), .second] [(.int (2 : Int32)), (.int nn), (.int yy), (.long ((fn7 kk ia ib ip w1 w2) ||| (fn8 xx j4 kk)))])) t → Steps p.tables e below (s₁.setTop (entryFrame m #[(.int kk), (.int xx), (.int yy), (.int zz), (.int nn), (.int ia), (.int ib), (.int ip), (.long w1), (.long w2)] 12)) t := by
    intro t kt
    refine pre5 _ ?_
    show Steps p.tables e below (T1.setTop (mkF m 26 #[.val (.int kk), .val (.int xx), .val (.int yy), .val (.int zz), .val (.int nn), .val (.int ia), .val (.int ib), .val (.int ip), .val (.long w1), .second, .val (.long w2), .second] [(.int j4), (.int xx), (.long (fn7 kk ia ib ip w1 w2))])) _
    refine XS.iloadN X1.here hx rfl (hb hby d6_26) rfl ?_
    show Steps p.tables e below (T1.setTop (mkF m 27 #[.val (.int kk), .val (.int xx), .val (.int yy), .val (.int zz), .val (.int nn), .val (.int ia), .val (.int ib), .val (.int ip), .val (.long w1), .second, .val (.long w2), .second] [(.int kk), (.int j4), (.int xx), (.long (fn7 kk ia ib ip w1 w2))])) _
    refine st6 _ ?_
    show Steps p.tables e below (T6.setTop (mkF m 30 #[.val (.int kk), .val (.int xx), .val (.int yy), .val (.int zz), .val (.int nn), .val (.int ia), .val (.int ib), .val (.int ip), .val (.long w1), .second, .val (.long w2), .second] [(.long (fn8 xx j4 kk)), (.long (fn7 kk ia ib ip w1 w2))])) _
    refine XS.lor X6.here hx rfl (hb hby d6_30) rfl ?_
    show Steps p.tables e below (T6.setTop (mkF m 31 #[.val (.int kk), .val (.int xx), .val (.int yy), .val (.int zz), .val (.int nn), .val (.int ia), .val (.int ib), .val (.int ip), .val (.long w1), .second, .val (.long w2), .second] [(.long ((fn7 kk ia ib ip w1 w2) ||| (fn8 xx j4 kk)))])) _
    refine XS.iloadN X6.here hx rfl (hb hby d6_31) rfl ?_
    show Steps p.tables e below (T6.setTop (mkF m 32 #[.val (.int kk), .val (.int xx), .val (.int yy), .val (.int zz), .val (.int nn), .val (.int ia), .val (.int ib), .val (.int ip), .val (.long w1), .second, .val (.long w2), .second] [(.int yy), (.long ((fn7 kk ia ib ip w1 w2) ||| (fn8 xx j4 kk)))])) _
    refine XS.iload X6.here hx rfl (hb hby d6_32) rfl ?_
    show Steps p.tables e below (T6.setTop (mkF m 34 #[.val (.int kk), .val (.int xx), .val (.int yy), .val (.int zz), .val (.int nn), .val (.int ia), .val (.int ib), .val (.int ip), .val (.long w1), .second, .val (.long w2), .second] [(.int nn), (.int yy), (.long ((fn7 kk ia ib ip w1 w2) ||| (fn8 xx j4 kk)))])) _
    refine XS.iconst X6.here hx rfl (hb hby d6_34) ?_
    exact kt
  obtain ⟨j9, h_j9⟩ : ∃ z : Int32, z = (if nn < (2 : Int32) then (0 : Int32) else (1 : Int32)) := ⟨_, rfl⟩
  have pre10 : ∀ t, Steps p.tables e below (T6.setTop (mkF m 43 #[.val (.int kk), .val (.int xx), .val (.int yy), .val (.int zz), .val (.int nn), .val (.int ia), .val (.int ib), .val (.int ip), .val (.long w1), .second, .val (.long w2), .second] [(.int j9), (.int yy), (.long ((fn7 kk ia ib ip w1 w2) ||| (fn8 xx j4 kk)))])) t → Steps p.tables e below (s₁.setTop (entryFrame m #[(.int kk), (.int xx), (.int yy), (.int zz), (.int nn), (.int ia), (.int ib), (.int ip), (.long w1), (.long w2)] 12)) t := by
    intro t kt
    refine pre7 _ ?_
    by_cases hc35_8 : nn < (2 : Int32)
    · skip
      have q_j9 : j9 = (0 : Int32) := by rw [h_j9, if_pos hc35_8]
      rw [q_j9] at kt
      show Steps p.tables e below (T6.setTop (mkF m 35 #[.val (.int kk), .val (.int xx), .val (.int yy), .val (.int zz), .val (.int nn), .val (.int ia), .val (.int ib), .val (.int ip), .val (.long w1), .second, .val (.long w2), .second] [(.int (2 : Int32)), (.int nn), (.int yy), (.long ((fn7 kk ia ib ip w1 w2) ||| (fn8 xx j4 kk)))])) _
      refine XS.icmpYes X6.here hx rfl (pc0 := 35) (pc' := 42) rfl (hb hby d6_35) rfl (XT.ii_lt_t hc35_8) (by decide) (by decide) ?_
      show Steps p.tables e below (T6.setTop (mkF m 42 #[.val (.int kk), .val (.int xx), .val (.int yy), .val (.int zz), .val (.int nn), .val (.int ia), .val (.int ib), .val (.int ip), .val (.long w1), .second, .val (.long w2), .second] [(.int yy), (.long ((fn7 kk ia ib ip w1 w2) ||| (fn8 xx j4 kk)))])) _
      refine XS.iconst X6.here hx rfl (hb hby d6_42) ?_
      exact kt
    · skip
      have q_j9 : j9 = (1 : Int32) := by rw [h_j9, if_neg hc35_8]
      rw [q_j9] at kt
      show Steps p.tables e below (T6.setTop (mkF m 35 #[.val (.int kk), .val (.int xx), .val (.int yy), .val (.int zz), .val (.int nn), .val (.int ia), .val (.int ib), .val (.int ip), .val (.long w1), .second, .val (.long w2), .second] [(.int (2 : Int32)), (.int nn), (.int yy), (.long ((fn7 kk ia ib ip w1 w2) ||| (fn8 xx j4 kk)))])) _
      refine XS.icmpNo X6.here hx rfl (hb hby d6_35) rfl (XT.ii_lt_f hc35_8) ?_
      show Steps p.tables e below (T6.setTop (mkF m 38 #[.val (.int kk), .val (.int xx), .val (.int yy), .val (.int zz), .val (.int nn), .val (.int ia), .val (.int ib), .val (.int ip), .val (.long w1), .second, .val (.long w2), .second] [(.int yy), (.long ((fn7 kk ia ib ip w1 w2) ||| (fn8 xx j4 kk)))])) _
      refine XS.iconst X6.here hx rfl (hb hby d6_38) ?_
      show Steps p.tables e below (T6.setTop (mkF m 39 #[.val (.int kk), .val (.int xx), .val (.int yy), .val (.int zz), .val (.int nn), .val (.int ia), .val (.int ib), .val (.int ip), .val (.long w1), .second, .val (.long w2), .second] [(.int (1 : Int32)), (.int yy), (.long ((fn7 kk ia ib ip w1 w2) ||| (fn8 xx j4 kk)))])) _
      refine XS.goto X6.here hx rfl (pc0 := 39) (pc' := 43) rfl (hb hby d6_39) (by decide) (by decide) ?_
      exact kt
  obtain ⟨_, _, ⟨T11, L11, k11, n11⟩, -, X11, ⟨Lc11, hQ11, l11, y11, z11⟩, st11⟩ := Jvm.LawKit.callS X6 hx (y := (⟨"com/example/bitweight/bitweight/chunk/ArrayChunkOrIntoPinLaw", "bit", "(IZI)J"⟩ : MethodName)) hown (mvT hZ (hw _ (List.mem_of_getElem? (i := 39) rfl))) (mvT hZ (hw _ (List.mem_of_getElem? (i := 40) rfl))) (mvT hZ (hw _ (List.mem_of_getElem? (i := 34) rfl))) (mvT hZ (hw _ (List.mem_of_getElem? (i := 41) rfl))) (by decide) (backOf (W := 2) (rm8 l Z a0 hw [] yy j9 kk h0 n0 Z0) hZ (hw _ (List.mem_of_getElem? (i := 41) rfl)) (hw _ (List.mem_of_getElem? (i := 34) rfl)) (by decide) (by decide)) (g := (mkF m 44 #[.val (.int kk), .val (.int xx), .val (.int yy), .val (.int zz), .val (.int nn), .val (.int ia), .val (.int ib), .val (.int ip), .val (.long w1), .second, .val (.long w2), .second] [(.int kk), (.int j9), (.int yy), (.long ((fn7 kk ia ib ip w1 w2) ||| (fn8 xx j4 kk)))])) rfl (by rw [hml]; rfl) (argsL := [(.int yy), (.int j9), (.int kk)]) (rest := [(.long ((fn7 kk ia ib ip w1 w2) ||| (fn8 xx j4 kk)))]) (lenOf pd_10 rfl) rfl (by show 2 * 0 + _ ≤ _; exact Nat.le_of_eq rfl) (hb hby d6_44) (fun _ _ => ⟨rfl, hE6, (by decide : 0 + 0 ≤ _), (by decide : 0 + 0 ≤ _)⟩)
  dsimp only [Pt.U, Pt.locs, Pt.cells, Pt.slots] at X11 l11 y11 z11 st11 hQ11
  subst l11 y11 z11
  obtain ⟨rfl, N11q, hE11⟩ := hQ11
  have N11 := Fr.app N6 N11q
  have pre12 : ∀ t, Steps p.tables e below (T11.setTop (mkF m 52 #[.val (.int kk), .val (.int xx), .val (.int yy), .val (.int zz), .val (.int nn), .val (.int ia), .val (.int ib), .val (.int ip), .val (.long w1), .second, .val (.long w2), .second] [(.int (3 : Int32)), (.int nn), (.int zz), (.long (((fn7 kk ia ib ip w1 w2) ||| (fn8 xx j4 kk)) ||| (fn8 yy j9 kk)))])) t → Steps p.tables e below (s₁.setTop (entryFrame m #[(.int kk), (.int xx), (.int yy), (.int zz), (.int nn), (.int ia), (.int ib), (.int ip), (.long w1), (.long w2)] 12)) t := by
    intro t kt
    refine pre10 _ ?_
    show Steps p.tables e below (T6.setTop (mkF m 43 #[.val (.int kk), .val (.int xx), .val (.int yy), .val (.int zz), .val (.int nn), .val (.int ia), .val (.int ib), .val (.int ip), .val (.long w1), .second, .val (.long w2), .second] [(.int j9), (.int yy), (.long ((fn7 kk ia ib ip w1 w2) ||| (fn8 xx j4 kk)))])) _
    refine XS.iloadN X6.here hx rfl (hb hby d6_43) rfl ?_
    show Steps p.tables e below (T6.setTop (mkF m 44 #[.val (.int kk), .val (.int xx), .val (.int yy), .val (.int zz), .val (.int nn), .val (.int ia), .val (.int ib), .val (.int ip), .val (.long w1), .second, .val (.long w2), .second] [(.int kk), (.int j9), (.int yy), (.long ((fn7 kk ia ib ip w1 w2) ||| (fn8 xx j4 kk)))])) _
    refine st11 _ ?_
    show Steps p.tables e below (T11.setTop (mkF m 47 #[.val (.int kk), .val (.int xx), .val (.int yy), .val (.int zz), .val (.int nn), .val (.int ia), .val (.int ib), .val (.int ip), .val (.long w1), .second, .val (.long w2), .second] [(.long (fn8 yy j9 kk)), (.long ((fn7 kk ia ib ip w1 w2) ||| (fn8 xx j4 kk)))])) _
    refine XS.lor X11.here hx rfl (hb hby d6_47) rfl ?_
    show Steps p.tables e below (T11.setTop (mkF m 48 #[.val (.int kk), .val (.int xx), .val (.int yy), .val (.int zz), .val (.int nn), .val (.int ia), .val (.int ib), .val (.int ip), .val (.long w1), .second, .val (.long w2), .second] [(.long (((fn7 kk ia ib ip w1 w2) ||| (fn8 xx j4 kk)) ||| (fn8 yy j9 kk)))])) _
    refine XS.iloadN X11.here hx rfl (hb hby d6_48) rfl ?_
    show Steps p.tables e below (T11.setTop (mkF m 49 #[.val (.int kk), .val (.int xx), .val (.int yy), .val (.int zz), .val (.int nn), .val (.int ia), .val (.int ib), .val (.int ip), .val (.long w1), .second, .val (.long w2), .second] [(.int zz), (.long (((fn7 kk ia ib ip w1 w2) ||| (fn8 xx j4 kk)) ||| (fn8 yy j9 kk)))])) _
    refine XS.iload X11.here hx rfl (hb hby d6_49) rfl ?_
    show Steps p.tables e below (T11.setTop (mkF m 51 #[.val (.int kk), .val (.int xx), .val (.int yy), .val (.int zz), .val (.int nn), .val (.int ia), .val (.int ib), .val (.int ip), .val (.long w1), .second, .val (.long w2), .second] [(.int nn), (.int zz), (.long (((fn7 kk ia ib ip w1 w2) ||| (fn8 xx j4 kk)) ||| (fn8 yy j9 kk)))])) _
    refine XS.iconst X11.here hx rfl (hb hby d6_51) ?_
    exact kt
  obtain ⟨j14, h_j14⟩ : ∃ z : Int32, z = (if nn < (3 : Int32) then (0 : Int32) else (1 : Int32)) := ⟨_, rfl⟩
  have pre15 : ∀ t, Steps p.tables e below (T11.setTop (mkF m 60 #[.val (.int kk), .val (.int xx), .val (.int yy), .val (.int zz), .val (.int nn), .val (.int ia), .val (.int ib), .val (.int ip), .val (.long w1), .second, .val (.long w2), .second] [(.int j14), (.int zz), (.long (((fn7 kk ia ib ip w1 w2) ||| (fn8 xx j4 kk)) ||| (fn8 yy j9 kk)))])) t → Steps p.tables e below (s₁.setTop (entryFrame m #[(.int kk), (.int xx), (.int yy), (.int zz), (.int nn), (.int ia), (.int ib), (.int ip), (.long w1), (.long w2)] 12)) t := by
    intro t kt
    refine pre12 _ ?_
    by_cases hc52_13 : nn < (3 : Int32)
    · skip
      have q_j14 : j14 = (0 : Int32) := by rw [h_j14, if_pos hc52_13]
      rw [q_j14] at kt
      show Steps p.tables e below (T11.setTop (mkF m 52 #[.val (.int kk), .val (.int xx), .val (.int yy), .val (.int zz), .val (.int nn), .val (.int ia), .val (.int ib), .val (.int ip), .val (.long w1), .second, .val (.long w2), .second] [(.int (3 : Int32)), (.int nn), (.int zz), (.long (((fn7 kk ia ib ip w1 w2) ||| (fn8 xx j4 kk)) ||| (fn8 yy j9 kk)))])) _
      refine XS.icmpYes X11.here hx rfl (pc0 := 52) (pc' := 59) rfl (hb hby d6_52) rfl (XT.ii_lt_t hc52_13) (by decide) (by decide) ?_
      show Steps p.tables e below (T11.setTop (mkF m 59 #[.val (.int kk), .val (.int xx), .val (.int yy), .val (.int zz), .val (.int nn), .val (.int ia), .val (.int ib), .val (.int ip), .val (.long w1), .second, .val (.long w2), .second] [(.int zz), (.long (((fn7 kk ia ib ip w1 w2) ||| (fn8 xx j4 kk)) ||| (fn8 yy j9 kk)))])) _
      refine XS.iconst X11.here hx rfl (hb hby d6_59) ?_
      exact kt
    · skip
      have q_j14 : j14 = (1 : Int32) := by rw [h_j14, if_neg hc52_13]
      rw [q_j14] at kt
      show Steps p.tables e below (T11.setTop (mkF m 52 #[.val (.int kk), .val (.int xx), .val (.int yy), .val (.int zz), .val (.int nn), .val (.int ia), .val (.int ib), .val (.int ip), .val (.long w1), .second, .val (.long w2), .second] [(.int (3 : Int32)), (.int nn), (.int zz), (.long (((fn7 kk ia ib ip w1 w2) ||| (fn8 xx j4 kk)) ||| (fn8 yy j9 kk)))])) _
      refine XS.icmpNo X11.here hx rfl (hb hby d6_52) rfl (XT.ii_lt_f hc52_13) ?_
      show Steps p.tables e below (T11.setTop (mkF m 55 #[.val (.int kk), .val (.int xx), .val (.int yy), .val (.int zz), .val (.int nn), .val (.int ia), .val (.int ib), .val (.int ip), .val (.long w1), .second, .val (.long w2), .second] [(.int zz), (.long (((fn7 kk ia ib ip w1 w2) ||| (fn8 xx j4 kk)) ||| (fn8 yy j9 kk)))])) _
      refine XS.iconst X11.here hx rfl (hb hby d6_55) ?_
      show Steps p.tables e below (T11.setTop (mkF m 56 #[.val (.int kk), .val (.int xx), .val (.int yy), .val (.int zz), .val (.int nn), .val (.int ia), .val (.int ib), .val (.int ip), .val (.long w1), .second, .val (.long w2), .second] [(.int (1 : Int32)), (.int zz), (.long (((fn7 kk ia ib ip w1 w2) ||| (fn8 xx j4 kk)) ||| (fn8 yy j9 kk)))])) _
      refine XS.goto X11.here hx rfl (pc0 := 56) (pc' := 60) rfl (hb hby d6_56) (by decide) (by decide) ?_
      exact kt
  obtain ⟨_, _, ⟨T16, L16, k16, n16⟩, -, X16, ⟨Lc16, hQ16, l16, y16, z16⟩, st16⟩ := Jvm.LawKit.callS X11 hx (y := (⟨"com/example/bitweight/bitweight/chunk/ArrayChunkOrIntoPinLaw", "bit", "(IZI)J"⟩ : MethodName)) hown (mvT hZ (hw _ (List.mem_of_getElem? (i := 39) rfl))) (mvT hZ (hw _ (List.mem_of_getElem? (i := 40) rfl))) (mvT hZ (hw _ (List.mem_of_getElem? (i := 34) rfl))) (mvT hZ (hw _ (List.mem_of_getElem? (i := 41) rfl))) (by decide) (backOf (W := 2) (rm8 l Z a0 hw [] zz j14 kk h0 n0 Z0) hZ (hw _ (List.mem_of_getElem? (i := 41) rfl)) (hw _ (List.mem_of_getElem? (i := 34) rfl)) (by decide) (by decide)) (g := (mkF m 61 #[.val (.int kk), .val (.int xx), .val (.int yy), .val (.int zz), .val (.int nn), .val (.int ia), .val (.int ib), .val (.int ip), .val (.long w1), .second, .val (.long w2), .second] [(.int kk), (.int j14), (.int zz), (.long (((fn7 kk ia ib ip w1 w2) ||| (fn8 xx j4 kk)) ||| (fn8 yy j9 kk)))])) rfl (by rw [hml]; rfl) (argsL := [(.int zz), (.int j14), (.int kk)]) (rest := [(.long (((fn7 kk ia ib ip w1 w2) ||| (fn8 xx j4 kk)) ||| (fn8 yy j9 kk)))]) (lenOf pd_10 rfl) rfl (by show 2 * 0 + _ ≤ _; exact Nat.le_of_eq rfl) (hb hby d6_61) (fun _ _ => ⟨rfl, hE11, (by decide : 0 + 0 ≤ _), (by decide : 0 + 0 ≤ _)⟩)
  dsimp only [Pt.U, Pt.locs, Pt.cells, Pt.slots] at X16 l16 y16 z16 st16 hQ16
  subst l16 y16 z16
  obtain ⟨rfl, N16q, hE16⟩ := hQ16
  have N16 := Fr.app N11 N16q
  have pre17 : ∀ t, Steps p.tables e below (T16.setTop (mkF m 65 #[.val (.int kk), .val (.int xx), .val (.int yy), .val (.int zz), .val (.int nn), .val (.int ia), .val (.int ib), .val (.int ip), .val (.long w1), .second, .val (.long w2), .second] [(.long ((((fn7 kk ia ib ip w1 w2) ||| (fn8 xx j4 kk)) ||| (fn8 yy j9 kk)) ||| (fn8 zz j14 kk)))])) t → Steps p.tables e below (s₁.setTop (entryFrame m #[(.int kk), (.int xx), (.int yy), (.int zz), (.int nn), (.int ia), (.int ib), (.int ip), (.long w1), (.long w2)] 12)) t := by
    intro t kt
    refine pre15 _ ?_
    show Steps p.tables e below (T11.setTop (mkF m 60 #[.val (.int kk), .val (.int xx), .val (.int yy), .val (.int zz), .val (.int nn), .val (.int ia), .val (.int ib), .val (.int ip), .val (.long w1), .second, .val (.long w2), .second] [(.int j14), (.int zz), (.long (((fn7 kk ia ib ip w1 w2) ||| (fn8 xx j4 kk)) ||| (fn8 yy j9 kk)))])) _
    refine XS.iloadN X11.here hx rfl (hb hby d6_60) rfl ?_
    show Steps p.tables e below (T11.setTop (mkF m 61 #[.val (.int kk), .val (.int xx), .val (.int yy), .val (.int zz), .val (.int nn), .val (.int ia), .val (.int ib), .val (.int ip), .val (.long w1), .second, .val (.long w2), .second] [(.int kk), (.int j14), (.int zz), (.long (((fn7 kk ia ib ip w1 w2) ||| (fn8 xx j4 kk)) ||| (fn8 yy j9 kk)))])) _
    refine st16 _ ?_
    show Steps p.tables e below (T16.setTop (mkF m 64 #[.val (.int kk), .val (.int xx), .val (.int yy), .val (.int zz), .val (.int nn), .val (.int ia), .val (.int ib), .val (.int ip), .val (.long w1), .second, .val (.long w2), .second] [(.long (fn8 zz j14 kk)), (.long (((fn7 kk ia ib ip w1 w2) ||| (fn8 xx j4 kk)) ||| (fn8 yy j9 kk)))])) _
    refine XS.lor X16.here hx rfl (hb hby d6_64) rfl ?_
    exact kt
  obtain ⟨fs, hr, hrun, hended, hW, hsame⟩ := X16.leave (v := some (.long ((((fn7 kk ia ib ip w1 w2) ||| (fn8 xx j4 kk)) ||| (fn8 yy j9 kk)) ||| (fn8 zz j14 kk)))) (fun h => by rw [Bd.returns] at h; cases h)
  refine ⟨_, _, pre17 _ ?_, hrun, hended, _, _, rfl, ?_, ⟨_, rfl⟩, hW, hsame.mono (by decide) (by decide)⟩
  · show Steps p.tables e below (T16.setTop (mkF m 65 #[.val (.int kk), .val (.int xx), .val (.int yy), .val (.int zz), .val (.int nn), .val (.int ia), .val (.int ib), .val (.int ip), .val (.long w1), .second, .val (.long w2), .second] [(.long ((((fn7 kk ia ib ip w1 w2) ||| (fn8 xx j4 kk)) ||| (fn8 yy j9 kk)) ||| (fn8 zz j14 kk)))])) _
    exact X16.lreturnOut hx Bd.returns (hb hby d6_65) hr
  · show Q6 Z kk xx yy zz nn ia ib ip w1 w2 h0 n0 _ T16.heap _
    rw [hE16]
    exact ⟨by subst h_j4 h_j9 h_j14; rfl, N16, rfl⟩
theorem own_mod64 (q : Int32) : ((q.toBitVec.toNat % 64 : Nat) : Int) = q.toInt % 64 := by
  have h : q.toInt = q.toBitVec.toInt := rfl
  rw [h, BitVec.toInt_eq_toNat_cond]
  split <;> omega
theorem own_one (q : Int32) (b : Nat) (hb : b < 64) : ((1 : Int64) <<< (q &&& 0x3f).toInt64).toBitVec.getLsbD b = decide (q.toInt % 64 = (b : Int)) := by
  obtain ⟨h2, h3⟩ := sm64 q _ rfl
  have h4 := own_mod64 q
  show ((1 : Int64).toBitVec <<< ((q &&& 0x3f).toInt64.toBitVec.smod 64)).getLsbD b = _
  rw [BitVec.shiftLeft_eq', h2, smod64 _ h3, show (1 : Int64).toBitVec = 1#64 from by decide, BitVec.getLsbD_shiftLeft, BitVec.getLsbD_one]
  generalize q.toBitVec.toNat % 64 = k at *
  rw [← h4]
  by_cases e : k = b
  · subst e; simp [hb]
  · have e1 : ¬ ((k : Int) = (b : Int)) := by omega
    by_cases e2 : b < k
    · simp [e1, e2]
    · have e3 : ¬ b - k = 0 := by omega
      simp [e1, e2, e3]
theorem own_or (x y : Int64) (b : Nat) : (x ||| y).toBitVec.getLsbD b = (x.toBitVec.getLsbD b || y.toBitVec.getLsbD b) := by
  show (x.toBitVec ||| y.toBitVec).getLsbD b = _
  rw [BitVec.getLsbD_or]
theorem own_zero (b : Nat) : (0 : Int64).toBitVec.getLsbD b = false := by
  rw [show (0 : Int64).toBitVec = 0#64 from by decide]; exact BitVec.getLsbD_zero
theorem own_step (w : Nat → Int64) (v : Int32) (k b : Nat) (hb : b < 64) : (owUp w (own_kx v) ((w (own_kx v)) ||| ((1 : Int64) <<< (v &&& 0x3f).toInt64)) k).toBitVec.getLsbD b = ((w k).toBitVec.getLsbD b || decide (own_kx v = k ∧ v.toInt % 64 = (b : Int))) := by
  by_cases e : k = own_kx v
  · subst e; rw [owUp_at, own_or, own_one _ _ hb]; simp
  · rw [owUp_ne e]
    have e1 : ¬ (own_kx v = k ∧ v.toInt % 64 = (b : Int)) := fun q => e q.1.symm
    simp [e1]
theorem own_orf (cd : Int32) (m : Nat) (F : Nat → Int32) (fz : Nat → Int64) (k b : Nat) (hb : b < 64) (hc : cd.toInt = (m : Int)) (hm : m ≤ 3) : (orf cd F fz k).toBitVec.getLsbD b = ((fz k).toBitVec.getLsbD b || decide (0 < m ∧ own_kx (F 0) = k ∧ (F 0).toInt % 64 = (b : Int)) || decide (1 < m ∧ own_kx (F 1) = k ∧ (F 1).toInt % 64 = (b : Int)) || decide (2 < m ∧ own_kx (F 2) = k ∧ (F 2).toInt % 64 = (b : Int))) := by
  have o0 : (0 : Int32).toInt = 0 := rfl
  have o1 : (1 : Int32).toInt = 1 := rfl
  have o2 : (2 : Int32).toInt = 2 := rfl
  have c0 : ((0 : Int32) < cd) ↔ 0 < m := by rw [Int32.lt_iff_toInt_lt]; omega
  have c1 : ((1 : Int32) < cd) ↔ 1 < m := by rw [Int32.lt_iff_toInt_lt]; omega
  have c2 : ((2 : Int32) < cd) ↔ 2 < m := by rw [Int32.lt_iff_toInt_lt]; omega
  unfold orf
  simp only [c0, c1, c2]
  have hm' : m = 0 ∨ m = 1 ∨ m = 2 ∨ m = 3 := by omega
  rcases hm' with rfl | rfl | rfl | rfl
  · simp
  · rw [if_pos (by decide), if_neg (by decide), own_step _ _ _ _ hb]; simp
  · rw [if_pos (by decide), if_pos (by decide), if_neg (by decide), own_step _ _ _ _ hb, own_step _ _ _ _ hb]; simp
  · rw [if_pos (by decide), if_pos (by decide), if_pos (by decide), own_step _ _ _ _ hb, own_step _ _ _ _ hb, own_step _ _ _ _ hb]; simp
theorem own_bitv (x i K : Int32) (k b : Nat) (hb : b < 64) (hx : 0 ≤ x.toInt ∧ x.toInt < 65536) (hK : K.toInt = (k : Int)) : (fn8 x i K).toBitVec.getLsbD b = decide (¬ i = (0 : Int32) ∧ own_kx x = k ∧ x.toInt % 64 = (b : Int)) := by
  have h1 := own_kx1 hx
  have h2 : ((x.toUInt32 >>> ((6 : Int32) &&& 31).toUInt32).toInt32) = K ↔ own_kx x = k := by rw [← Int32.toInt_inj, h1, hK]; omega
  have h3 := c_mask x 63 6 (by decide) (by decide)
  unfold fn8
  simp only [h2]
  by_cases a : i = (0 : Int32)
  · rw [if_pos a, own_zero]; simp [a]
  · rw [if_neg a]
    by_cases c : own_kx x = k
    · rw [if_pos c, own_one _ _ hb, h3]; simp [a, c]
    · rw [if_neg c, own_zero]; simp [c]
theorem own_pre (w1 w2 : Int64) (K ia ib ip : Int32) (k ka kb kp : Nat) (fz : Nat → Int64) (h_fz : fz = (owUp (owUp (owUp (fun _ => 0) kp (w1 ^^^ w2)) ka w1) kb w2)) (hK : K.toInt = (k : Int)) (ha : ia.toInt = (ka : Int)) (hb : ib.toInt = (kb : Int)) (hp : ip.toInt = (kp : Int)) : (fn7 K ia ib ip w1 w2) = fz k := by
  have e1 : (K = ib) ↔ k = kb := by rw [← Int32.toInt_inj]; omega
  have e2 : (K = ia) ↔ k = ka := by rw [← Int32.toInt_inj]; omega
  have e3 : (K = ip) ↔ k = kp := by rw [← Int32.toInt_inj]; omega
  rw [h_fz]; unfold fn7 owUp
  simp only [e1, e2, e3]
theorem own_law (xx yy zz nn ia ib ip K : Int32) (w1 w2 : Int64) (fz : Nat → Int64) (F : Nat → Int32) (cd : Int32) (m ka kb kp k : Nat) (ft : Nat → Int64) (h_ft : ft = (orf cd F fz)) (h_fz : fz = (owUp (owUp (owUp (fun _ => 0) kp (w1 ^^^ w2)) ka w1) kb w2)) (hK : K.toInt = (k : Int)) (ha : ia.toInt = (ka : Int)) (hb : ib.toInt = (kb : Int)) (hp : ip.toInt = (kp : Int)) (hc : cd.toInt = (m : Int)) (hm : m ≤ 3)
    (hx : 0 ≤ xx.toInt ∧ xx.toInt < 65536) (hy : 0 ≤ yy.toInt ∧ yy.toInt < 65536) (hz : 0 ≤ zz.toInt ∧ zz.toInt < 65536) (hs : ∀ v, own_mem F m v ↔ ((¬ nn < (1 : Int32) ∧ v = xx) ∨ (¬ nn < (2 : Int32) ∧ v = yy) ∨ (¬ nn < (3 : Int32) ∧ v = zz))) : (ft k) = (fn6 K xx yy zz nn ia ib ip w1 w2) := by
  rw [h_ft, ← Int64.toBitVec_inj]
  apply BitVec.eq_of_getLsbD_eq
  intro b hb64
  unfold fn6
  rw [own_orf cd m F fz k b hb64 hc hm, own_or, own_or, own_or, own_bitv _ _ _ k b hb64 hx hK, own_bitv _ _ _ k b hb64 hy hK, own_bitv _ _ _ k b hb64 hz hK, own_pre w1 w2 K ia ib ip k ka kb kp fz h_fz hK ha hb hp]
  have i1 : ¬ (if nn < (1 : Int32) then (0 : Int32) else (1 : Int32)) = (0 : Int32) ↔ ¬ nn < (1 : Int32) := by split <;> simp_all
  have i2 : ¬ (if nn < (2 : Int32) then (0 : Int32) else (1 : Int32)) = (0 : Int32) ↔ ¬ nn < (2 : Int32) := by split <;> simp_all
  have i3 : ¬ (if nn < (3 : Int32) then (0 : Int32) else (1 : Int32)) = (0 : Int32) ↔ ¬ nn < (3 : Int32) := by split <;> simp_all
  simp only [i1, i2, i3]
  rw [Bool.eq_iff_iff]
  simp only [Bool.or_eq_true, decide_eq_true_eq]
  have fwd : ∀ i, i < m → own_kx (F i) = k ∧ (F i).toInt % 64 = (b : Int) → (¬ nn < (1 : Int32) ∧ own_kx xx = k ∧ xx.toInt % 64 = (b : Int)) ∨ (¬ nn < (2 : Int32) ∧ own_kx yy = k ∧ yy.toInt % 64 = (b : Int)) ∨ (¬ nn < (3 : Int32) ∧ own_kx zz = k ∧ zz.toInt % 64 = (b : Int)) := by
    intro i hi hq
    rcases (hs (F i)).mp ⟨i, hi, rfl⟩ with ⟨a, e⟩ | ⟨a, e⟩ | ⟨a, e⟩ <;> rw [e] at hq
    · exact Or.inl ⟨a, hq⟩
    · exact Or.inr (Or.inl ⟨a, hq⟩)
    · exact Or.inr (Or.inr ⟨a, hq⟩)
  have bwd : ∀ v, own_mem F m v → own_kx v = k ∧ v.toInt % 64 = (b : Int) → (0 < m ∧ own_kx (F 0) = k ∧ (F 0).toInt % 64 = (b : Int)) ∨ (1 < m ∧ own_kx (F 1) = k ∧ (F 1).toInt % 64 = (b : Int)) ∨ (2 < m ∧ own_kx (F 2) = k ∧ (F 2).toInt % 64 = (b : Int)) := by
    rintro v ⟨i, hi, rfl⟩ hq
    have hi' : i = 0 ∨ i = 1 ∨ i = 2 := by omega
    rcases hi' with rfl | rfl | rfl
    · exact Or.inl ⟨hi, hq⟩
    · exact Or.inr (Or.inl ⟨hi, hq⟩)
    · exact Or.inr (Or.inr ⟨hi, hq⟩)
  constructor
  · rintro (((h | ⟨h1, h2⟩) | ⟨h1, h2⟩) | ⟨h1, h2⟩)
    · exact Or.inl (Or.inl (Or.inl h))
    · rcases fwd 0 h1 h2 with q | q | q
      · exact Or.inl (Or.inl (Or.inr q))
      · exact Or.inl (Or.inr q)
      · exact Or.inr q
    · rcases fwd 1 h1 h2 with q | q | q
      · exact Or.inl (Or.inl (Or.inr q))
      · exact Or.inl (Or.inr q)
      · exact Or.inr q
    · rcases fwd 2 h1 h2 with q | q | q
      · exact Or.inl (Or.inl (Or.inr q))
      · exact Or.inl (Or.inr q)
      · exact Or.inr q
  · rintro (((h | ⟨h1, h2⟩) | ⟨h1, h2⟩) | ⟨h1, h2⟩)
    · exact Or.inl (Or.inl (Or.inl h))
    · rcases bwd xx ((hs _).mpr (Or.inl ⟨h1, rfl⟩)) h2 with q | q | q
      · exact Or.inl (Or.inl (Or.inr q))
      · exact Or.inl (Or.inr q)
      · exact Or.inr q
    · rcases bwd yy ((hs _).mpr (Or.inr (Or.inl ⟨h1, rfl⟩))) h2 with q | q | q
      · exact Or.inl (Or.inl (Or.inr q))
      · exact Or.inl (Or.inr q)
      · exact Or.inr q
    · rcases bwd zz ((hs _).mpr (Or.inr (Or.inr ⟨h1, rfl⟩))) h2 with q | q | q
      · exact Or.inl (Or.inl (Or.inr q))
      · exact Or.inl (Or.inr q)
      · exact Or.inr q
theorem own_chr (x : Int32) : 0 ≤ (x.toUInt32.toUInt16.toUInt32.toInt32).toInt ∧ (x.toUInt32.toUInt16.toUInt32.toInt32).toInt < 65536 := (c_i2c x).2
theorem own_m16 (a xx : Int32) (h : xx = (a &&& (65535 : Int32))) : 0 ≤ xx.toInt ∧ xx.toInt < 65536 := by
  have h1 := c_mask a 65535 16 (by decide) (by decide)
  rw [← h] at h1
  omega
theorem own_sh {xx ia : Int32} (hx : 0 ≤ xx.toInt ∧ xx.toInt < 65536) (h : ia = ((xx.toUInt32 >>> ((6 : Int32) &&& 31).toUInt32).toInt32)) : ia.toInt = (own_kx xx : Int) := by rw [h]; exact own_kx1 hx
theorem own_kp (pd ip : Int32) (h : ip = (pd &&& (1023 : Int32))) : ∃ kp : Nat, ip.toInt = (kp : Int) ∧ kp < 1024 := by
  have h1 := c_mask pd 1023 10 (by decide) (by decide)
  rw [← h] at h1
  exact ⟨ip.toInt.toNat, by omega, by omega⟩
theorem own_n3 (pd nn : Int32) (h : nn = (((pd.toUInt32 >>> ((10 : Int32) &&& 31).toUInt32).toInt32) &&& (3 : Int32))) : 0 ≤ nn.toInt ∧ nn.toInt ≤ 3 := by
  have h1 := c_mask ((pd.toUInt32 >>> ((10 : Int32) &&& 31).toUInt32).toInt32) 3 2 (by decide) (by decide)
  rw [← h] at h1
  omega
theorem own_ok1 {v : Int32} (hv : 0 ≤ v.toInt ∧ v.toInt < 65536) : own_ok (owUp (fun _ => 0) 0 v) 1 := ⟨own_upok (fun _ => by decide) hv, fun i j hij hj => by omega⟩
theorem own_mem1 (v w : Int32) : own_mem (owUp (fun _ => 0) 0 v) 1 w ↔ w = v := by
  constructor
  · rintro ⟨i, hi, he⟩
    have e : i = 0 := by omega
    rw [e, owUp_at] at he; exact he.symm
  · intro h; exact ⟨0, by omega, by rw [owUp_at, h]⟩
theorem own_mem0 (f : Nat → Int32) (w : Int32) : ¬ own_mem f 0 w := fun ⟨i, hi, _⟩ => by omega
theorem own_le3 {c : Int32} {m : Nat} (h : c.toInt = (m : Int)) (hm : m ≤ 3) : ¬ ((3 : Int32) < c) := by
  have o : (3 : Int32).toInt = 3 := rfl
  rw [Int32.lt_iff_toInt_lt]; omega

theorem own_ord {args : Array Value} {Z : State} {t : Term} {a : Addr} {k : Int32} {C n d : String} (ht : t.eval args Z none [] Z = some (.ref a)) (h : (Cond.eq (.field t C n d) (.int k)).value args Z none Z [] = some true) : Fld Z Z.heap a C n d (.int k) := Fld.start ((fld_at ht).symm.trans (eqv_i (Term.int_eval k) h))
theorem own_len {args : Array Value} {s : State} {t : Term} {a : Addr} {c : Cell} {z : Int32} (ht : t.eval args s none [] s = some (.ref a)) (ha : s.arrayAt? a = some c) (h : (Term.length t).eval args s none [] s = some (.int z)) : (c.slots.size : Int) = z.toInt := by
  by_cases hl : c.slots.size < 2 ^ 31
  · have q := len_f ht ha hl
    have e := Value.int.inj (Option.some.inj (q.symm.trans h))
    rw [← e, len_toInt hl]
  · simp [Term.eval, ht, ha, hl] at h
theorem pn_0 : plainName "com/example/bitweight/bitweight/chunk/ArrayChunkOrIntoPinLaw" = true := by first | (simp [plainName, overriddenIn]; done) | decide +kernel
theorem ef_0 (m : MethodId) (x0 : Int32) (x1 : Int32) (x2 : Int32) (x3 : Int64) (x4 : Int64) (x5 : Int32) : entryFrame m #[(.int x0), (.int x1), (.int x2), (.long x3), (.long x4), (.int x5)] maxLocals = mkF m 0 #[.val (.int x0), .val (.int x1), .val (.int x2), .val (.long x3), .second, .val (.long x4), .second, .val (.int x5), .unset, .unset, .unset, .unset, .unset, .unset, .unset, .unset, .unset, .unset] [] := by first | (simp [entryFrame, mkF, argsToLocals, Value.category, maxLocals]; done) | rfl
theorem pd_11 : parseMethodDescriptor "([J)V" = some ⟨[(.array .long)], none⟩ := by decide +kernel
theorem pd_12 : parseMethodDescriptor "(IIIIIIIIJJ)J" = some ⟨[.int, .int, .int, .int, .int, .int, .int, .int, .long, .long], some .long⟩ := by decide +kernel
theorem pd_13 : parseMethodDescriptor "(C)Lcom/example/bitweight/bitweight/chunk/Chunk;" = some ⟨[.char], some (.object "com/example/bitweight/bitweight/chunk/Chunk")⟩ := by decide +kernel
def Q0 (Z : State) (pa : Int32) (pb : Int32) (pc_ : Int32) (w1 : Int64) (w2 : Int64) (pd : Int32) (an ar : Addr) (h0 : Heap) (n0 : Nat) (v : Option Value) (h : Heap) (L : List Loc) : Prop := v = some (.int 1) ∧ Fr n0 L
set_option maxRecDepth 65536 in
set_option maxHeartbeats 40000000 in
theorem rm0 (l : Launch) (Z : State) (a0 : Array Value) (hw : ∀ d ∈ tables_1, d.before a0 Z = true) (ws : List Jvm.Cond) (pa : Int32) (pb : Int32) (pc_ : Int32) (w1 : Int64) (w2 : Int64) (pd : Int32) (an ar : Addr) (h0 : Heap) (n0 : Nat) (Z0 : n0 ≤ h0.size) (O0 : Old Z n0 h0) (S_none : Sta Z Z.heap "com/example/bitweight/bitweight/chunk/ArrayChunk" "NONE" "[C" (.ref an)) (A_an : owAI Z Z.heap an .char 0 (fun _ => 0)) (S_room : Sta Z Z.heap "com/example/bitweight/bitweight/chunk/ArrayChunk" "ROOM" "Lcom/example/bitweight/bitweight/chunk/Room;" (.ref ar)) (E_ar : Exa Z Z.heap ar "com/example/bitweight/bitweight/chunk/Room") (R_least : Fld Z Z.heap ar "com/example/bitweight/bitweight/chunk/Room" "least" "I" (.int (4 : Int32))) (R_shift : Fld Z Z.heap ar "com/example/bitweight/bitweight/chunk/Room" "shift" "I" (.int (2 : Int32))) (R_most : Fld Z Z.heap ar "com/example/bitweight/bitweight/chunk/Room" "most" "I" (.int (4096 : Int32))) :
    MetFree l x (head1 (Jvm.Cond.code x code maxLocals ret :: ws) room_1) (fun a U => a = #[(.int pa), (.int pb), (.int pc_), (.long w1), (.long w2), (.int pd)] ∧ Z.Warmed39 U.vm ∧ U.heap = h0) (fun _ _ _ _ _ => True) (fun _ U o U' => ∃ v L, o = .returned v ∧ Q0 Z pa pb pc_ w1 w2 pd an ar h0 n0 v U'.heap L ∧ FrameEnd U o U' L room_1.cells room_1.slots) := by
  refine MetFree.of_bodySF (plainFor_of_name pn_0) hisR ?_
  intro p e s m args below meth c s₁ Bd hml0 hP hK
  obtain ⟨rfl, hZ, hh⟩ := hP
  have hx := Bd.exec
  have hby := Bd.bytes
  have hml : c.maxLocals = 18 := hml0
  have hown : s.vm.findClass "com/example/bitweight/bitweight/chunk/ArrayChunkOrIntoPinLaw" = some m.cls := findClass_of_methodNamed Bd.named
  have hnm := (name_of_methodNamed Bd.named Bd.method).1
  have X0 : Stand p l e room_1 s m #[(.int pa), (.int pb), (.int pc_), (.long w1), (.long w2), (.int pd)] below meth c s₁ [] 0 0 := Stand.of_body Bd
  have e0 : s₁.heap = h0 := by rw [← hh, Bd.state]; rfl
  have N0 := Fr.nil n0
  have pre0 : ∀ t, Steps p.tables e below (s₁.setTop (mkF m 0 #[.val (.int pa), .val (.int pb), .val (.int pc_), .val (.long w1), .second, .val (.long w2), .second, .val (.int pd), .unset, .unset, .unset, .unset, .unset, .unset, .unset, .unset, .unset, .unset] [])) t → Steps p.tables e below (s₁.setTop (entryFrame m #[(.int pa), (.int pb), (.int pc_), (.long w1), (.long w2), (.int pd)] maxLocals)) t := fun t k => castTop (ef_0 m pa pb pc_ w1 w2 pd) k
  have pre1 : ∀ t, Steps p.tables e below (s₁.setTop (mkF m 4 #[.val (.int pa), .val (.int pb), .val (.int pc_), .val (.long w1), .second, .val (.long w2), .second, .val (.int pd), .unset, .unset, .unset, .unset, .unset, .unset, .unset, .unset, .unset, .unset] [(.int (pa &&& (65535 : Int32)))])) t → Steps p.tables e below (s₁.setTop (entryFrame m #[(.int pa), (.int pb), (.int pc_), (.long w1), (.long w2), (.int pd)] maxLocals)) t := by
    intro t kt
    refine pre0 _ ?_
    show Steps p.tables e below (s₁.setTop (mkF m 0 #[.val (.int pa), .val (.int pb), .val (.int pc_), .val (.long w1), .second, .val (.long w2), .second, .val (.int pd), .unset, .unset, .unset, .unset, .unset, .unset, .unset, .unset, .unset, .unset] [])) _
    refine XS.iloadN X0.here hx rfl (hb hby at_0) rfl ?_
    show Steps p.tables e below (s₁.setTop (mkF m 1 #[.val (.int pa), .val (.int pb), .val (.int pc_), .val (.long w1), .second, .val (.long w2), .second, .val (.int pd), .unset, .unset, .unset, .unset, .unset, .unset, .unset, .unset, .unset, .unset] [(.int pa)])) _
    refine Stand.ldcI (g := (mkF m 1 #[.val (.int pa), .val (.int pb), .val (.int pc_), .val (.long w1), .second, .val (.long w2), .second, .val (.int pd), .unset, .unset, .unset, .unset, .unset, .unset, .unset, .unset, .unset, .unset] [(.int pa)])) X0 hx hown (mvT hZ (hw _ (List.mem_of_getElem? (i := 0) rfl))) rfl (hb hby at_1) ?_
    show Steps p.tables e below (s₁.setTop (mkF m 3 #[.val (.int pa), .val (.int pb), .val (.int pc_), .val (.long w1), .second, .val (.long w2), .second, .val (.int pd), .unset, .unset, .unset, .unset, .unset, .unset, .unset, .unset, .unset, .unset] [(.int (65535 : Int32)), (.int pa)])) _
    refine XS.iand X0.here hx rfl (hb hby at_3) rfl ?_
    exact kt
  obtain ⟨xx, h_xx⟩ : ∃ z : Int32, z = (pa &&& (65535 : Int32)) := ⟨_, rfl⟩
  have pre2 : ∀ t, Steps p.tables e below (s₁.setTop (mkF m 4 #[.val (.int pa), .val (.int pb), .val (.int pc_), .val (.long w1), .second, .val (.long w2), .second, .val (.int pd), .unset, .unset, .unset, .unset, .unset, .unset, .unset, .unset, .unset, .unset] [(.int xx)])) t → Steps p.tables e below (s₁.setTop (entryFrame m #[(.int pa), (.int pb), (.int pc_), (.long w1), (.long w2), (.int pd)] maxLocals)) t := by
    intro t kt
    rw [h_xx] at kt
    exact pre1 _ kt
  have pre3 : ∀ t, Steps p.tables e below (s₁.setTop (mkF m 10 #[.val (.int pa), .val (.int pb), .val (.int pc_), .val (.long w1), .second, .val (.long w2), .second, .val (.int pd), .val (.int xx), .unset, .unset, .unset, .unset, .unset, .unset, .unset, .unset, .unset] [(.int (pb &&& (65535 : Int32)))])) t → Steps p.tables e below (s₁.setTop (entryFrame m #[(.int pa), (.int pb), (.int pc_), (.long w1), (.long w2), (.int pd)] maxLocals)) t := by
    intro t kt
    refine pre2 _ ?_
    show Steps p.tables e below (s₁.setTop (mkF m 4 #[.val (.int pa), .val (.int pb), .val (.int pc_), .val (.long w1), .second, .val (.long w2), .second, .val (.int pd), .unset, .unset, .unset, .unset, .unset, .unset, .unset, .unset, .unset, .unset] [(.int xx)])) _
    refine XS.istore X0.here hx rfl (hb hby at_4) rfl (l' := #[.val (.int pa), .val (.int pb), .val (.int pc_), .val (.long w1), .second, .val (.long w2), .second, .val (.int pd), .val (.int xx), .unset, .unset, .unset, .unset, .unset, .unset, .unset, .unset, .unset]) rfl ?_
    show Steps p.tables e below (s₁.setTop (mkF m 6 #[.val (.int pa), .val (.int pb), .val (.int pc_), .val (.long w1), .second, .val (.long w2), .second, .val (.int pd), .val (.int xx), .unset, .unset, .unset, .unset, .unset, .unset, .unset, .unset, .unset] [])) _
    refine XS.iloadN X0.here hx rfl (hb hby at_6) rfl ?_
    show Steps p.tables e below (s₁.setTop (mkF m 7 #[.val (.int pa), .val (.int pb), .val (.int pc_), .val (.long w1), .second, .val (.long w2), .second, .val (.int pd), .val (.int xx), .unset, .unset, .unset, .unset, .unset, .unset, .unset, .unset, .unset] [(.int pb)])) _
    refine Stand.ldcI (g := (mkF m 7 #[.val (.int pa), .val (.int pb), .val (.int pc_), .val (.long w1), .second, .val (.long w2), .second, .val (.int pd), .val (.int xx), .unset, .unset, .unset, .unset, .unset, .unset, .unset, .unset, .unset] [(.int pb)])) X0 hx hown (mvT hZ (hw _ (List.mem_of_getElem? (i := 0) rfl))) rfl (hb hby at_7) ?_
    show Steps p.tables e below (s₁.setTop (mkF m 9 #[.val (.int pa), .val (.int pb), .val (.int pc_), .val (.long w1), .second, .val (.long w2), .second, .val (.int pd), .val (.int xx), .unset, .unset, .unset, .unset, .unset, .unset, .unset, .unset, .unset] [(.int (65535 : Int32)), (.int pb)])) _
    refine XS.iand X0.here hx rfl (hb hby at_9) rfl ?_
    exact kt
  obtain ⟨yy, h_yy⟩ : ∃ z : Int32, z = (pb &&& (65535 : Int32)) := ⟨_, rfl⟩
  have pre4 : ∀ t, Steps p.tables e below (s₁.setTop (mkF m 10 #[.val (.int pa), .val (.int pb), .val (.int pc_), .val (.long w1), .second, .val (.long w2), .second, .val (.int pd), .val (.int xx), .unset, .unset, .unset, .unset, .unset, .unset, .unset, .unset, .unset] [(.int yy)])) t → Steps p.tables e below (s₁.setTop (entryFrame m #[(.int pa), (.int pb), (.int pc_), (.long w1), (.long w2), (.int pd)] maxLocals)) t := by
    intro t kt
    rw [h_yy] at kt
    exact pre3 _ kt
  have pre5 : ∀ t, Steps p.tables e below (s₁.setTop (mkF m 16 #[.val (.int pa), .val (.int pb), .val (.int pc_), .val (.long w1), .second, .val (.long w2), .second, .val (.int pd), .val (.int xx), .val (.int yy), .unset, .unset, .unset, .unset, .unset, .unset, .unset, .unset] [(.int (pc_ &&& (65535 : Int32)))])) t → Steps p.tables e below (s₁.setTop (entryFrame m #[(.int pa), (.int pb), (.int pc_), (.long w1), (.long w2), (.int pd)] maxLocals)) t := by
    intro t kt
    refine pre4 _ ?_
    show Steps p.tables e below (s₁.setTop (mkF m 10 #[.val (.int pa), .val (.int pb), .val (.int pc_), .val (.long w1), .second, .val (.long w2), .second, .val (.int pd), .val (.int xx), .unset, .unset, .unset, .unset, .unset, .unset, .unset, .unset, .unset] [(.int yy)])) _
    refine XS.istore X0.here hx rfl (hb hby at_10) rfl (l' := #[.val (.int pa), .val (.int pb), .val (.int pc_), .val (.long w1), .second, .val (.long w2), .second, .val (.int pd), .val (.int xx), .val (.int yy), .unset, .unset, .unset, .unset, .unset, .unset, .unset, .unset]) rfl ?_
    show Steps p.tables e below (s₁.setTop (mkF m 12 #[.val (.int pa), .val (.int pb), .val (.int pc_), .val (.long w1), .second, .val (.long w2), .second, .val (.int pd), .val (.int xx), .val (.int yy), .unset, .unset, .unset, .unset, .unset, .unset, .unset, .unset] [])) _
    refine XS.iloadN X0.here hx rfl (hb hby at_12) rfl ?_
    show Steps p.tables e below (s₁.setTop (mkF m 13 #[.val (.int pa), .val (.int pb), .val (.int pc_), .val (.long w1), .second, .val (.long w2), .second, .val (.int pd), .val (.int xx), .val (.int yy), .unset, .unset, .unset, .unset, .unset, .unset, .unset, .unset] [(.int pc_)])) _
    refine Stand.ldcI (g := (mkF m 13 #[.val (.int pa), .val (.int pb), .val (.int pc_), .val (.long w1), .second, .val (.long w2), .second, .val (.int pd), .val (.int xx), .val (.int yy), .unset, .unset, .unset, .unset, .unset, .unset, .unset, .unset] [(.int pc_)])) X0 hx hown (mvT hZ (hw _ (List.mem_of_getElem? (i := 0) rfl))) rfl (hb hby at_13) ?_
    show Steps p.tables e below (s₁.setTop (mkF m 15 #[.val (.int pa), .val (.int pb), .val (.int pc_), .val (.long w1), .second, .val (.long w2), .second, .val (.int pd), .val (.int xx), .val (.int yy), .unset, .unset, .unset, .unset, .unset, .unset, .unset, .unset] [(.int (65535 : Int32)), (.int pc_)])) _
    refine XS.iand X0.here hx rfl (hb hby at_15) rfl ?_
    exact kt
  obtain ⟨zz, h_zz⟩ : ∃ z : Int32, z = (pc_ &&& (65535 : Int32)) := ⟨_, rfl⟩
  have pre6 : ∀ t, Steps p.tables e below (s₁.setTop (mkF m 16 #[.val (.int pa), .val (.int pb), .val (.int pc_), .val (.long w1), .second, .val (.long w2), .second, .val (.int pd), .val (.int xx), .val (.int yy), .unset, .unset, .unset, .unset, .unset, .unset, .unset, .unset] [(.int zz)])) t → Steps p.tables e below (s₁.setTop (entryFrame m #[(.int pa), (.int pb), (.int pc_), (.long w1), (.long w2), (.int pd)] maxLocals)) t := by
    intro t kt
    rw [h_zz] at kt
    exact pre5 _ kt
  have pre7 : ∀ t, Steps p.tables e below (s₁.setTop (mkF m 25 #[.val (.int pa), .val (.int pb), .val (.int pc_), .val (.long w1), .second, .val (.long w2), .second, .val (.int pd), .val (.int xx), .val (.int yy), .val (.int zz), .unset, .unset, .unset, .unset, .unset, .unset, .unset] [(.int (((pd.toUInt32 >>> ((10 : Int32) &&& 31).toUInt32).toInt32) &&& (3 : Int32)))])) t → Steps p.tables e below (s₁.setTop (entryFrame m #[(.int pa), (.int pb), (.int pc_), (.long w1), (.long w2), (.int pd)] maxLocals)) t := by
    intro t kt
    refine pre6 _ ?_
    show Steps p.tables e below (s₁.setTop (mkF m 16 #[.val (.int pa), .val (.int pb), .val (.int pc_), .val (.long w1), .second, .val (.long w2), .second, .val (.int pd), .val (.int xx), .val (.int yy), .unset, .unset, .unset, .unset, .unset, .unset, .unset, .unset] [(.int zz)])) _
    refine XS.istore X0.here hx rfl (hb hby at_16) rfl (l' := #[.val (.int pa), .val (.int pb), .val (.int pc_), .val (.long w1), .second, .val (.long w2), .second, .val (.int pd), .val (.int xx), .val (.int yy), .val (.int zz), .unset, .unset, .unset, .unset, .unset, .unset, .unset]) rfl ?_
    show Steps p.tables e below (s₁.setTop (mkF m 18 #[.val (.int pa), .val (.int pb), .val (.int pc_), .val (.long w1), .second, .val (.long w2), .second, .val (.int pd), .val (.int xx), .val (.int yy), .val (.int zz), .unset, .unset, .unset, .unset, .unset, .unset, .unset] [])) _
    refine XS.iload X0.here hx rfl (hb hby at_18) rfl ?_
    show Steps p.tables e below (s₁.setTop (mkF m 20 #[.val (.int pa), .val (.int pb), .val (.int pc_), .val (.long w1), .second, .val (.long w2), .second, .val (.int pd), .val (.int xx), .val (.int yy), .val (.int zz), .unset, .unset, .unset, .unset, .unset, .unset, .unset] [(.int pd)])) _
    refine XS.bipush X0.here hx rfl (hb hby at_20) ?_
    show Steps p.tables e below (s₁.setTop (mkF m 22 #[.val (.int pa), .val (.int pb), .val (.int pc_), .val (.long w1), .second, .val (.long w2), .second, .val (.int pd), .val (.int xx), .val (.int yy), .val (.int zz), .unset, .unset, .unset, .unset, .unset, .unset, .unset] [(.int (10 : Int32)), (.int pd)])) _
    refine XS.iushr X0.here hx rfl (hb hby at_22) rfl ?_
    show Steps p.tables e below (s₁.setTop (mkF m 23 #[.val (.int pa), .val (.int pb), .val (.int pc_), .val (.long w1), .second, .val (.long w2), .second, .val (.int pd), .val (.int xx), .val (.int yy), .val (.int zz), .unset, .unset, .unset, .unset, .unset, .unset, .unset] [(.int ((pd.toUInt32 >>> ((10 : Int32) &&& 31).toUInt32).toInt32))])) _
    refine XS.iconst X0.here hx rfl (hb hby at_23) ?_
    show Steps p.tables e below (s₁.setTop (mkF m 24 #[.val (.int pa), .val (.int pb), .val (.int pc_), .val (.long w1), .second, .val (.long w2), .second, .val (.int pd), .val (.int xx), .val (.int yy), .val (.int zz), .unset, .unset, .unset, .unset, .unset, .unset, .unset] [(.int (3 : Int32)), (.int ((pd.toUInt32 >>> ((10 : Int32) &&& 31).toUInt32).toInt32))])) _
    refine XS.iand X0.here hx rfl (hb hby at_24) rfl ?_
    exact kt
  obtain ⟨nn, h_nn⟩ : ∃ z : Int32, z = (((pd.toUInt32 >>> ((10 : Int32) &&& 31).toUInt32).toInt32) &&& (3 : Int32)) := ⟨_, rfl⟩
  have pre8 : ∀ t, Steps p.tables e below (s₁.setTop (mkF m 25 #[.val (.int pa), .val (.int pb), .val (.int pc_), .val (.long w1), .second, .val (.long w2), .second, .val (.int pd), .val (.int xx), .val (.int yy), .val (.int zz), .unset, .unset, .unset, .unset, .unset, .unset, .unset] [(.int nn)])) t → Steps p.tables e below (s₁.setTop (entryFrame m #[(.int pa), (.int pb), (.int pc_), (.long w1), (.long w2), (.int pd)] maxLocals)) t := by
    intro t kt
    rw [h_nn] at kt
    exact pre7 _ kt
  have pre9 : ∀ t, Steps p.tables e below (s₁.setTop (mkF m 33 #[.val (.int pa), .val (.int pb), .val (.int pc_), .val (.long w1), .second, .val (.long w2), .second, .val (.int pd), .val (.int xx), .val (.int yy), .val (.int zz), .val (.int nn), .unset, .unset, .unset, .unset, .unset, .unset] [(.int (pd &&& (1023 : Int32)))])) t → Steps p.tables e below (s₁.setTop (entryFrame m #[(.int pa), (.int pb), (.int pc_), (.long w1), (.long w2), (.int pd)] maxLocals)) t := by
    intro t kt
    refine pre8 _ ?_
    show Steps p.tables e below (s₁.setTop (mkF m 25 #[.val (.int pa), .val (.int pb), .val (.int pc_), .val (.long w1), .second, .val (.long w2), .second, .val (.int pd), .val (.int xx), .val (.int yy), .val (.int zz), .unset, .unset, .unset, .unset, .unset, .unset, .unset] [(.int nn)])) _
    refine XS.istore X0.here hx rfl (hb hby at_25) rfl (l' := #[.val (.int pa), .val (.int pb), .val (.int pc_), .val (.long w1), .second, .val (.long w2), .second, .val (.int pd), .val (.int xx), .val (.int yy), .val (.int zz), .val (.int nn), .unset, .unset, .unset, .unset, .unset, .unset]) rfl ?_
    show Steps p.tables e below (s₁.setTop (mkF m 27 #[.val (.int pa), .val (.int pb), .val (.int pc_), .val (.long w1), .second, .val (.long w2), .second, .val (.int pd), .val (.int xx), .val (.int yy), .val (.int zz), .val (.int nn), .unset, .unset, .unset, .unset, .unset, .unset] [])) _
    refine XS.iload X0.here hx rfl (hb hby at_27) rfl ?_
    show Steps p.tables e below (s₁.setTop (mkF m 29 #[.val (.int pa), .val (.int pb), .val (.int pc_), .val (.long w1), .second, .val (.long w2), .second, .val (.int pd), .val (.int xx), .val (.int yy), .val (.int zz), .val (.int nn), .unset, .unset, .unset, .unset, .unset, .unset] [(.int pd)])) _
    refine XS.sipush X0.here hx rfl (hb hby at_29) ?_
    show Steps p.tables e below (s₁.setTop (mkF m 32 #[.val (.int pa), .val (.int pb), .val (.int pc_), .val (.long w1), .second, .val (.long w2), .second, .val (.int pd), .val (.int xx), .val (.int yy), .val (.int zz), .val (.int nn), .unset, .unset, .unset, .unset, .unset, .unset] [(.int (1023 : Int32)), (.int pd)])) _
    refine XS.iand X0.here hx rfl (hb hby at_32) rfl ?_
    exact kt
  obtain ⟨ip, h_ip⟩ : ∃ z : Int32, z = (pd &&& (1023 : Int32)) := ⟨_, rfl⟩
  have pre10 : ∀ t, Steps p.tables e below (s₁.setTop (mkF m 33 #[.val (.int pa), .val (.int pb), .val (.int pc_), .val (.long w1), .second, .val (.long w2), .second, .val (.int pd), .val (.int xx), .val (.int yy), .val (.int zz), .val (.int nn), .unset, .unset, .unset, .unset, .unset, .unset] [(.int ip)])) t → Steps p.tables e below (s₁.setTop (entryFrame m #[(.int pa), (.int pb), (.int pc_), (.long w1), (.long w2), (.int pd)] maxLocals)) t := by
    intro t kt
    rw [h_ip] at kt
    exact pre9 _ kt
  have pre11 : ∀ t, Steps p.tables e below (s₁.setTop (mkF m 40 #[.val (.int pa), .val (.int pb), .val (.int pc_), .val (.long w1), .second, .val (.long w2), .second, .val (.int pd), .val (.int xx), .val (.int yy), .val (.int zz), .val (.int nn), .val (.int ip), .unset, .unset, .unset, .unset, .unset] [(.int ((xx.toUInt32 >>> ((6 : Int32) &&& 31).toUInt32).toInt32))])) t → Steps p.tables e below (s₁.setTop (entryFrame m #[(.int pa), (.int pb), (.int pc_), (.long w1), (.long w2), (.int pd)] maxLocals)) t := by
    intro t kt
    refine pre10 _ ?_
    show Steps p.tables e below (s₁.setTop (mkF m 33 #[.val (.int pa), .val (.int pb), .val (.int pc_), .val (.long w1), .second, .val (.long w2), .second, .val (.int pd), .val (.int xx), .val (.int yy), .val (.int zz), .val (.int nn), .unset, .unset, .unset, .unset, .unset, .unset] [(.int ip)])) _
    refine XS.istore X0.here hx rfl (hb hby at_33) rfl (l' := #[.val (.int pa), .val (.int pb), .val (.int pc_), .val (.long w1), .second, .val (.long w2), .second, .val (.int pd), .val (.int xx), .val (.int yy), .val (.int zz), .val (.int nn), .val (.int ip), .unset, .unset, .unset, .unset, .unset]) rfl ?_
    show Steps p.tables e below (s₁.setTop (mkF m 35 #[.val (.int pa), .val (.int pb), .val (.int pc_), .val (.long w1), .second, .val (.long w2), .second, .val (.int pd), .val (.int xx), .val (.int yy), .val (.int zz), .val (.int nn), .val (.int ip), .unset, .unset, .unset, .unset, .unset] [])) _
    refine XS.iload X0.here hx rfl (hb hby at_35) rfl ?_
    show Steps p.tables e below (s₁.setTop (mkF m 37 #[.val (.int pa), .val (.int pb), .val (.int pc_), .val (.long w1), .second, .val (.long w2), .second, .val (.int pd), .val (.int xx), .val (.int yy), .val (.int zz), .val (.int nn), .val (.int ip), .unset, .unset, .unset, .unset, .unset] [(.int xx)])) _
    refine XS.bipush X0.here hx rfl (hb hby at_37) ?_
    show Steps p.tables e below (s₁.setTop (mkF m 39 #[.val (.int pa), .val (.int pb), .val (.int pc_), .val (.long w1), .second, .val (.long w2), .second, .val (.int pd), .val (.int xx), .val (.int yy), .val (.int zz), .val (.int nn), .val (.int ip), .unset, .unset, .unset, .unset, .unset] [(.int (6 : Int32)), (.int xx)])) _
    refine XS.iushr X0.here hx rfl (hb hby at_39) rfl ?_
    exact kt
  obtain ⟨ia, h_ia⟩ : ∃ z : Int32, z = ((xx.toUInt32 >>> ((6 : Int32) &&& 31).toUInt32).toInt32) := ⟨_, rfl⟩
  have pre12 : ∀ t, Steps p.tables e below (s₁.setTop (mkF m 40 #[.val (.int pa), .val (.int pb), .val (.int pc_), .val (.long w1), .second, .val (.long w2), .second, .val (.int pd), .val (.int xx), .val (.int yy), .val (.int zz), .val (.int nn), .val (.int ip), .unset, .unset, .unset, .unset, .unset] [(.int ia)])) t → Steps p.tables e below (s₁.setTop (entryFrame m #[(.int pa), (.int pb), (.int pc_), (.long w1), (.long w2), (.int pd)] maxLocals)) t := by
    intro t kt
    rw [h_ia] at kt
    exact pre11 _ kt
  have pre13 : ∀ t, Steps p.tables e below (s₁.setTop (mkF m 47 #[.val (.int pa), .val (.int pb), .val (.int pc_), .val (.long w1), .second, .val (.long w2), .second, .val (.int pd), .val (.int xx), .val (.int yy), .val (.int zz), .val (.int nn), .val (.int ip), .val (.int ia), .unset, .unset, .unset, .unset] [(.int ((yy.toUInt32 >>> ((6 : Int32) &&& 31).toUInt32).toInt32))])) t → Steps p.tables e below (s₁.setTop (entryFrame m #[(.int pa), (.int pb), (.int pc_), (.long w1), (.long w2), (.int pd)] maxLocals)) t := by
    intro t kt
    refine pre12 _ ?_
    show Steps p.tables e below (s₁.setTop (mkF m 40 #[.val (.int pa), .val (.int pb), .val (.int pc_), .val (.long w1), .second, .val (.long w2), .second, .val (.int pd), .val (.int xx), .val (.int yy), .val (.int zz), .val (.int nn), .val (.int ip), .unset, .unset, .unset, .unset, .unset] [(.int ia)])) _
    refine XS.istore X0.here hx rfl (hb hby at_40) rfl (l' := #[.val (.int pa), .val (.int pb), .val (.int pc_), .val (.long w1), .second, .val (.long w2), .second, .val (.int pd), .val (.int xx), .val (.int yy), .val (.int zz), .val (.int nn), .val (.int ip), .val (.int ia), .unset, .unset, .unset, .unset]) rfl ?_
    show Steps p.tables e below (s₁.setTop (mkF m 42 #[.val (.int pa), .val (.int pb), .val (.int pc_), .val (.long w1), .second, .val (.long w2), .second, .val (.int pd), .val (.int xx), .val (.int yy), .val (.int zz), .val (.int nn), .val (.int ip), .val (.int ia), .unset, .unset, .unset, .unset] [])) _
    refine XS.iload X0.here hx rfl (hb hby at_42) rfl ?_
    show Steps p.tables e below (s₁.setTop (mkF m 44 #[.val (.int pa), .val (.int pb), .val (.int pc_), .val (.long w1), .second, .val (.long w2), .second, .val (.int pd), .val (.int xx), .val (.int yy), .val (.int zz), .val (.int nn), .val (.int ip), .val (.int ia), .unset, .unset, .unset, .unset] [(.int yy)])) _
    refine XS.bipush X0.here hx rfl (hb hby at_44) ?_
    show Steps p.tables e below (s₁.setTop (mkF m 46 #[.val (.int pa), .val (.int pb), .val (.int pc_), .val (.long w1), .second, .val (.long w2), .second, .val (.int pd), .val (.int xx), .val (.int yy), .val (.int zz), .val (.int nn), .val (.int ip), .val (.int ia), .unset, .unset, .unset, .unset] [(.int (6 : Int32)), (.int yy)])) _
    refine XS.iushr X0.here hx rfl (hb hby at_46) rfl ?_
    exact kt
  obtain ⟨ib, h_ib⟩ : ∃ z : Int32, z = ((yy.toUInt32 >>> ((6 : Int32) &&& 31).toUInt32).toInt32) := ⟨_, rfl⟩
  have pre14 : ∀ t, Steps p.tables e below (s₁.setTop (mkF m 47 #[.val (.int pa), .val (.int pb), .val (.int pc_), .val (.long w1), .second, .val (.long w2), .second, .val (.int pd), .val (.int xx), .val (.int yy), .val (.int zz), .val (.int nn), .val (.int ip), .val (.int ia), .unset, .unset, .unset, .unset] [(.int ib)])) t → Steps p.tables e below (s₁.setTop (entryFrame m #[(.int pa), (.int pb), (.int pc_), (.long w1), (.long w2), (.int pd)] maxLocals)) t := by
    intro t kt
    rw [h_ib] at kt
    exact pre13 _ kt
  have pre15 : ∀ t, Steps p.tables e below (s₁.setTop (mkF m 54 #[.val (.int pa), .val (.int pb), .val (.int pc_), .val (.long w1), .second, .val (.long w2), .second, .val (.int pd), .val (.int xx), .val (.int yy), .val (.int zz), .val (.int nn), .val (.int ip), .val (.int ia), .val (.int ib), .unset, .unset, .unset] [(.int ((zz.toUInt32 >>> ((6 : Int32) &&& 31).toUInt32).toInt32))])) t → Steps p.tables e below (s₁.setTop (entryFrame m #[(.int pa), (.int pb), (.int pc_), (.long w1), (.long w2), (.int pd)] maxLocals)) t := by
    intro t kt
    refine pre14 _ ?_
    show Steps p.tables e below (s₁.setTop (mkF m 47 #[.val (.int pa), .val (.int pb), .val (.int pc_), .val (.long w1), .second, .val (.long w2), .second, .val (.int pd), .val (.int xx), .val (.int yy), .val (.int zz), .val (.int nn), .val (.int ip), .val (.int ia), .unset, .unset, .unset, .unset] [(.int ib)])) _
    refine XS.istore X0.here hx rfl (hb hby at_47) rfl (l' := #[.val (.int pa), .val (.int pb), .val (.int pc_), .val (.long w1), .second, .val (.long w2), .second, .val (.int pd), .val (.int xx), .val (.int yy), .val (.int zz), .val (.int nn), .val (.int ip), .val (.int ia), .val (.int ib), .unset, .unset, .unset]) rfl ?_
    show Steps p.tables e below (s₁.setTop (mkF m 49 #[.val (.int pa), .val (.int pb), .val (.int pc_), .val (.long w1), .second, .val (.long w2), .second, .val (.int pd), .val (.int xx), .val (.int yy), .val (.int zz), .val (.int nn), .val (.int ip), .val (.int ia), .val (.int ib), .unset, .unset, .unset] [])) _
    refine XS.iload X0.here hx rfl (hb hby at_49) rfl ?_
    show Steps p.tables e below (s₁.setTop (mkF m 51 #[.val (.int pa), .val (.int pb), .val (.int pc_), .val (.long w1), .second, .val (.long w2), .second, .val (.int pd), .val (.int xx), .val (.int yy), .val (.int zz), .val (.int nn), .val (.int ip), .val (.int ia), .val (.int ib), .unset, .unset, .unset] [(.int zz)])) _
    refine XS.bipush X0.here hx rfl (hb hby at_51) ?_
    show Steps p.tables e below (s₁.setTop (mkF m 53 #[.val (.int pa), .val (.int pb), .val (.int pc_), .val (.long w1), .second, .val (.long w2), .second, .val (.int pd), .val (.int xx), .val (.int yy), .val (.int zz), .val (.int nn), .val (.int ip), .val (.int ia), .val (.int ib), .unset, .unset, .unset] [(.int (6 : Int32)), (.int zz)])) _
    refine XS.iushr X0.here hx rfl (hb hby at_53) rfl ?_
    exact kt
  obtain ⟨ic, h_ic⟩ : ∃ z : Int32, z = ((zz.toUInt32 >>> ((6 : Int32) &&& 31).toUInt32).toInt32) := ⟨_, rfl⟩
  have pre16 : ∀ t, Steps p.tables e below (s₁.setTop (mkF m 54 #[.val (.int pa), .val (.int pb), .val (.int pc_), .val (.long w1), .second, .val (.long w2), .second, .val (.int pd), .val (.int xx), .val (.int yy), .val (.int zz), .val (.int nn), .val (.int ip), .val (.int ia), .val (.int ib), .unset, .unset, .unset] [(.int ic)])) t → Steps p.tables e below (s₁.setTop (entryFrame m #[(.int pa), (.int pb), (.int pc_), (.long w1), (.long w2), (.int pd)] maxLocals)) t := by
    intro t kt
    rw [h_ic] at kt
    exact pre15 _ kt
  have hxx := own_m16 _ _ h_xx
  have hy := own_m16 _ _ h_yy
  have hz := own_m16 _ _ h_zz
  obtain ⟨kp, h_kp, h_kp2⟩ := own_kp _ _ h_ip
  have h_ka := own_sh hxx h_ia
  have h_kb := own_sh hy h_ib
  have h_kc := own_sh hz h_ic
  have h_n3 := own_n3 _ _ h_nn
  obtain ⟨T17, gh17, k17, X17, hE17, E17, A17, st17⟩ := newP X0 hx hZ (hw _ (List.mem_of_getElem? (i := 1) rfl)) e0 (g := (mkF m 59 #[.val (.int pa), .val (.int pb), .val (.int pc_), .val (.long w1), .second, .val (.long w2), .second, .val (.int pd), .val (.int xx), .val (.int yy), .val (.int zz), .val (.int nn), .val (.int ip), .val (.int ia), .val (.int ib), .val (.int ic), .unset, .unset] [(.int (1024 : Int32))])) rfl (hb hby at_59) rfl (by decide) (cap := 1024) (by decide) (by decide) (by decide) (by decide)
  obtain ⟨aw, g17⟩ : ∃ z, z = h0.size := ⟨_, rfl⟩
  rw [← g17] at A17 st17
  have g_aw : n0 ≤ aw := Nat.le_trans Z0 (Nat.le_of_eq g17.symm)
  have f18 := O0.ext E17
  have Z19 := Nat.le_trans Z0 E17.1
  have V17 : owAJ Z gh17 aw .long 1024 (fun _ => 0) := owAJ.new A17 rfl rfl
  obtain ⟨T20, gh20, X20, hE20, W20, V20, st20⟩ := owStJ X17 hx hZ hE17 V17 (k := kp) (j := ip) h_kp h_kp2 (g := (mkF m 71 #[.val (.int pa), .val (.int pb), .val (.int pc_), .val (.long w1), .second, .val (.long w2), .second, .val (.int pd), .val (.int xx), .val (.int yy), .val (.int zz), .val (.int nn), .val (.int ip), .val (.int ia), .val (.int ib), .val (.int ic), .val (.ref aw), .unset] [(.long (w1 ^^^ w2)), (.int ip), (.ref aw)])) rfl rfl (hb hby at_71)
  have f21 := f18.wr W20 g_aw
  have Z23 := Nat.le_trans Z19 (Keep.of_wr W20).1
  have N24 := Fr.snoc X20 N0 g_aw
  obtain ⟨T25, gh25, X25, hE25, W25, V25, st25⟩ := owStJ X20 hx hZ hE20 V20 (k := (own_kx xx)) (j := ia) h_ka (own_kx2 hxx) (g := (mkF m 77 #[.val (.int pa), .val (.int pb), .val (.int pc_), .val (.long w1), .second, .val (.long w2), .second, .val (.int pd), .val (.int xx), .val (.int yy), .val (.int zz), .val (.int nn), .val (.int ip), .val (.int ia), .val (.int ib), .val (.int ic), .val (.ref aw), .unset] [(.long w1), (.int ia), (.ref aw)])) rfl rfl (hb hby at_77)
  have f26 := f21.wr W25 g_aw
  have Z28 := Nat.le_trans Z23 (Keep.of_wr W25).1
  have N29 := Fr.snoc X25 N24 g_aw
  obtain ⟨T30, gh30, X30, hE30, W30, V30, st30⟩ := owStJ X25 hx hZ hE25 V25 (k := (own_kx yy)) (j := ib) h_kb (own_kx2 hy) (g := (mkF m 84 #[.val (.int pa), .val (.int pb), .val (.int pc_), .val (.long w1), .second, .val (.long w2), .second, .val (.int pd), .val (.int xx), .val (.int yy), .val (.int zz), .val (.int nn), .val (.int ip), .val (.int ia), .val (.int ib), .val (.int ic), .val (.ref aw), .unset] [(.long w2), (.int ib), (.ref aw)])) rfl rfl (hb hby at_84)
  have f31 := f26.wr W30 g_aw
  have Z33 := Nat.le_trans Z28 (Keep.of_wr W30).1
  have N34 := Fr.snoc X30 N29 g_aw
  obtain ⟨fz, h_fz⟩ : ∃ g : Nat → Int64, g = (owUp (owUp (owUp (fun _ => 0) kp (w1 ^^^ w2)) (own_kx xx) w1) (own_kx yy) w2) := ⟨_, rfl⟩
  rw [← h_fz] at V30
  obtain ⟨T35, gh35, X35, hE35, E35, A35, D35, -, st35⟩ := newO X30 hx hZ hown (hw _ (List.mem_of_getElem? (i := 2) rfl)) (hw _ (List.mem_of_getElem? (i := 3) rfl)) (hw _ (List.mem_of_getElem? (i := 4) rfl)) hE30 (g := (mkF m 85 #[.val (.int pa), .val (.int pb), .val (.int pc_), .val (.long w1), .second, .val (.long w2), .second, .val (.int pd), .val (.int xx), .val (.int yy), .val (.int zz), .val (.int nn), .val (.int ip), .val (.int ia), .val (.int ib), .val (.int ic), .val (.ref aw), .unset] [])) rfl (hb hby at_85) (by decide) (by decide)
  obtain ⟨ol, g35⟩ : ∃ z, z = gh30.size := ⟨_, rfl⟩
  rw [← g35] at A35 D35 st35
  have ne_aw_ol : aw ≠ ol := Nat.ne_of_lt (Nat.lt_of_lt_of_le V30.lt (Nat.le_of_eq g35.symm))
  have g_ol : n0 ≤ ol := Nat.le_trans Z33 (Nat.le_of_eq g35.symm)
  have f36 := f31.ext E35
  have f37 := V30.ext E35
  have Z38 := Nat.le_trans Z33 E35.1
  have F_values_ol : Fld Z gh35 ol "com/example/bitweight/bitweight/chunk/ArrayChunk" "values" "[C" .null := D35 (Or.inl (hw _ (List.mem_of_getElem? (i := 22) rfl))) (ty := (.array .char)) (by decide)
  have F_cardinality_ol : Fld Z gh35 ol "com/example/bitweight/bitweight/chunk/ArrayChunk" "cardinality" "I" (.int (0 : Int32)) := D35 (Or.inl (hw _ (List.mem_of_getElem? (i := 24) rfl))) (ty := .int) (by decide)
  have F_runs_ol : Fld Z gh35 ol "com/example/bitweight/bitweight/chunk/ArrayChunk" "runs" "I" (.int (0 : Int32)) := D35 (Or.inl (hw _ (List.mem_of_getElem? (i := 26) rfl))) (ty := .int) (by decide)
  obtain ⟨_, _, ⟨T39, L39, k39, n39⟩, -, X39, ⟨Lc39, hQ39, l39, y39, z39⟩, st39⟩ := X35.specialBack hx (y := (⟨"com/example/bitweight/bitweight/chunk/ArrayChunk", "<init>", "()V"⟩ : MethodName)) rfl hown (mvT hZ (hw _ (List.mem_of_getElem? (i := 5) rfl))) (mvT hZ (hw _ (List.mem_of_getElem? (i := 6) rfl))) (mvT hZ (hw _ (List.mem_of_getElem? (i := 7) rfl))) (by decide) (backOf (W := 1) (rm1 l Z a0 hw [] ol an gh35 n0 Z38 A35 F_values_ol F_cardinality_ol F_runs_ol g_ol (S_none.ext f36.2)) hZ (hw _ (List.mem_of_getElem? (i := 7) rfl)) (hw _ (List.mem_of_getElem? (i := 4) rfl)) (by decide) (by decide)) (g := (mkF m 89 #[.val (.int pa), .val (.int pb), .val (.int pc_), .val (.long w1), .second, .val (.long w2), .second, .val (.int pd), .val (.int xx), .val (.int yy), .val (.int zz), .val (.int nn), .val (.int ip), .val (.int ia), .val (.int ib), .val (.int ic), .val (.ref aw), .unset] [(.ref ol), (.ref ol)])) rfl (by rw [hml]; rfl) (Steps.refl _) (a := ol) (argsL := []) (rest := [(.ref ol)]) (lenOf pd_2 rfl) rfl (by show 2 * 0 + _ ≤ _; exact Nat.le_of_eq rfl) (hb hby at_89) (fun _ _ => ⟨rfl, hE35, (by decide : 2 + 0 ≤ _), (by decide : 1027 + 0 ≤ _)⟩)
  dsimp only [Pt.U, Pt.locs, Pt.cells, Pt.slots] at X39 l39 y39 z39 st39 hQ39
  subst l39 y39 z39
  obtain ⟨rfl, N39q, K39, p39_0, p39_1, p39_2, p39_3⟩ := hQ39
  have N39 := Fr.app N34 N39q
  have f40 := f36.keep K39 (allS g_ol all0)
  have f41 := f37.keep K39 (ninS ne_aw_ol nin0)
  have f42 := A35.keep K39
  have Z46 := Nat.le_trans Z38 K39.1
  have nol_n : ol ≠ an := Ne.symm (f40.ne A_an.lt g_ol)
  have nol_r : ol ≠ ar := Ne.symm (f40.ne E_ar.lt g_ol)
  have nan_w : an ≠ aw := f40.ne A_an.lt g_aw
  have pre47 : ∀ t, Steps p.tables e below (T39.setTop (mkF m 97 #[.val (.int pa), .val (.int pb), .val (.int pc_), .val (.long w1), .second, .val (.long w2), .second, .val (.int pd), .val (.int xx), .val (.int yy), .val (.int zz), .val (.int nn), .val (.int ip), .val (.int ia), .val (.int ib), .val (.int ic), .val (.ref aw), .val (.ref ol)] [(.int (1 : Int32)), (.int nn)])) t → Steps p.tables e below (s₁.setTop (entryFrame m #[(.int pa), (.int pb), (.int pc_), (.long w1), (.long w2), (.int pd)] maxLocals)) t := by
    intro t kt
    refine pre16 _ ?_
    show Steps p.tables e below (s₁.setTop (mkF m 54 #[.val (.int pa), .val (.int pb), .val (.int pc_), .val (.long w1), .second, .val (.long w2), .second, .val (.int pd), .val (.int xx), .val (.int yy), .val (.int zz), .val (.int nn), .val (.int ip), .val (.int ia), .val (.int ib), .unset, .unset, .unset] [(.int ic)])) _
    refine XS.istore X0.here hx rfl (hb hby at_54) rfl (l' := #[.val (.int pa), .val (.int pb), .val (.int pc_), .val (.long w1), .second, .val (.long w2), .second, .val (.int pd), .val (.int xx), .val (.int yy), .val (.int zz), .val (.int nn), .val (.int ip), .val (.int ia), .val (.int ib), .val (.int ic), .unset, .unset]) rfl ?_
    show Steps p.tables e below (s₁.setTop (mkF m 56 #[.val (.int pa), .val (.int pb), .val (.int pc_), .val (.long w1), .second, .val (.long w2), .second, .val (.int pd), .val (.int xx), .val (.int yy), .val (.int zz), .val (.int nn), .val (.int ip), .val (.int ia), .val (.int ib), .val (.int ic), .unset, .unset] [])) _
    refine XS.sipush X0.here hx rfl (hb hby at_56) ?_
    show Steps p.tables e below (s₁.setTop (mkF m 59 #[.val (.int pa), .val (.int pb), .val (.int pc_), .val (.long w1), .second, .val (.long w2), .second, .val (.int pd), .val (.int xx), .val (.int yy), .val (.int zz), .val (.int nn), .val (.int ip), .val (.int ia), .val (.int ib), .val (.int ic), .unset, .unset] [(.int (1024 : Int32))])) _
    refine st17 _ ?_
    show Steps p.tables e below (T17.setTop (mkF m 61 #[.val (.int pa), .val (.int pb), .val (.int pc_), .val (.long w1), .second, .val (.long w2), .second, .val (.int pd), .val (.int xx), .val (.int yy), .val (.int zz), .val (.int nn), .val (.int ip), .val (.int ia), .val (.int ib), .val (.int ic), .unset, .unset] [(.ref aw)])) _
    refine XS.astore X17.here hx rfl (hb hby at_61) rfl rfl (l' := #[.val (.int pa), .val (.int pb), .val (.int pc_), .val (.long w1), .second, .val (.long w2), .second, .val (.int pd), .val (.int xx), .val (.int yy), .val (.int zz), .val (.int nn), .val (.int ip), .val (.int ia), .val (.int ib), .val (.int ic), .val (.ref aw), .unset]) rfl ?_
    show Steps p.tables e below (T17.setTop (mkF m 63 #[.val (.int pa), .val (.int pb), .val (.int pc_), .val (.long w1), .second, .val (.long w2), .second, .val (.int pd), .val (.int xx), .val (.int yy), .val (.int zz), .val (.int nn), .val (.int ip), .val (.int ia), .val (.int ib), .val (.int ic), .val (.ref aw), .unset] [])) _
    refine XS.aload X17.here hx rfl (hb hby at_63) rfl rfl ?_
    show Steps p.tables e below (T17.setTop (mkF m 65 #[.val (.int pa), .val (.int pb), .val (.int pc_), .val (.long w1), .second, .val (.long w2), .second, .val (.int pd), .val (.int xx), .val (.int yy), .val (.int zz), .val (.int nn), .val (.int ip), .val (.int ia), .val (.int ib), .val (.int ic), .val (.ref aw), .unset] [(.ref aw)])) _
    refine XS.iload X17.here hx rfl (hb hby at_65) rfl ?_
    show Steps p.tables e below (T17.setTop (mkF m 67 #[.val (.int pa), .val (.int pb), .val (.int pc_), .val (.long w1), .second, .val (.long w2), .second, .val (.int pd), .val (.int xx), .val (.int yy), .val (.int zz), .val (.int nn), .val (.int ip), .val (.int ia), .val (.int ib), .val (.int ic), .val (.ref aw), .unset] [(.int ip), (.ref aw)])) _
    refine XS.lloadN X17.here hx rfl (hb hby at_67) rfl ?_
    show Steps p.tables e below (T17.setTop (mkF m 68 #[.val (.int pa), .val (.int pb), .val (.int pc_), .val (.long w1), .second, .val (.long w2), .second, .val (.int pd), .val (.int xx), .val (.int yy), .val (.int zz), .val (.int nn), .val (.int ip), .val (.int ia), .val (.int ib), .val (.int ic), .val (.ref aw), .unset] [(.long w1), (.int ip), (.ref aw)])) _
    refine XS.lload X17.here hx rfl (hb hby at_68) rfl ?_
    show Steps p.tables e below (T17.setTop (mkF m 70 #[.val (.int pa), .val (.int pb), .val (.int pc_), .val (.long w1), .second, .val (.long w2), .second, .val (.int pd), .val (.int xx), .val (.int yy), .val (.int zz), .val (.int nn), .val (.int ip), .val (.int ia), .val (.int ib), .val (.int ic), .val (.ref aw), .unset] [(.long w2), (.long w1), (.int ip), (.ref aw)])) _
    refine XS.lxor X17.here hx rfl (hb hby at_70) rfl ?_
    show Steps p.tables e below (T17.setTop (mkF m 71 #[.val (.int pa), .val (.int pb), .val (.int pc_), .val (.long w1), .second, .val (.long w2), .second, .val (.int pd), .val (.int xx), .val (.int yy), .val (.int zz), .val (.int nn), .val (.int ip), .val (.int ia), .val (.int ib), .val (.int ic), .val (.ref aw), .unset] [(.long (w1 ^^^ w2)), (.int ip), (.ref aw)])) _
    refine st20 _ ?_
    show Steps p.tables e below (T20.setTop (mkF m 72 #[.val (.int pa), .val (.int pb), .val (.int pc_), .val (.long w1), .second, .val (.long w2), .second, .val (.int pd), .val (.int xx), .val (.int yy), .val (.int zz), .val (.int nn), .val (.int ip), .val (.int ia), .val (.int ib), .val (.int ic), .val (.ref aw), .unset] [])) _
    refine XS.aload X20.here hx rfl (hb hby at_72) rfl rfl ?_
    show Steps p.tables e below (T20.setTop (mkF m 74 #[.val (.int pa), .val (.int pb), .val (.int pc_), .val (.long w1), .second, .val (.long w2), .second, .val (.int pd), .val (.int xx), .val (.int yy), .val (.int zz), .val (.int nn), .val (.int ip), .val (.int ia), .val (.int ib), .val (.int ic), .val (.ref aw), .unset] [(.ref aw)])) _
    refine XS.iload X20.here hx rfl (hb hby at_74) rfl ?_
    show Steps p.tables e below (T20.setTop (mkF m 76 #[.val (.int pa), .val (.int pb), .val (.int pc_), .val (.long w1), .second, .val (.long w2), .second, .val (.int pd), .val (.int xx), .val (.int yy), .val (.int zz), .val (.int nn), .val (.int ip), .val (.int ia), .val (.int ib), .val (.int ic), .val (.ref aw), .unset] [(.int ia), (.ref aw)])) _
    refine XS.lloadN X20.here hx rfl (hb hby at_76) rfl ?_
    show Steps p.tables e below (T20.setTop (mkF m 77 #[.val (.int pa), .val (.int pb), .val (.int pc_), .val (.long w1), .second, .val (.long w2), .second, .val (.int pd), .val (.int xx), .val (.int yy), .val (.int zz), .val (.int nn), .val (.int ip), .val (.int ia), .val (.int ib), .val (.int ic), .val (.ref aw), .unset] [(.long w1), (.int ia), (.ref aw)])) _
    refine st25 _ ?_
    show Steps p.tables e below (T25.setTop (mkF m 78 #[.val (.int pa), .val (.int pb), .val (.int pc_), .val (.long w1), .second, .val (.long w2), .second, .val (.int pd), .val (.int xx), .val (.int yy), .val (.int zz), .val (.int nn), .val (.int ip), .val (.int ia), .val (.int ib), .val (.int ic), .val (.ref aw), .unset] [])) _
    refine XS.aload X25.here hx rfl (hb hby at_78) rfl rfl ?_
    show Steps p.tables e below (T25.setTop (mkF m 80 #[.val (.int pa), .val (.int pb), .val (.int pc_), .val (.long w1), .second, .val (.long w2), .second, .val (.int pd), .val (.int xx), .val (.int yy), .val (.int zz), .val (.int nn), .val (.int ip), .val (.int ia), .val (.int ib), .val (.int ic), .val (.ref aw), .unset] [(.ref aw)])) _
    refine XS.iload X25.here hx rfl (hb hby at_80) rfl ?_
    show Steps p.tables e below (T25.setTop (mkF m 82 #[.val (.int pa), .val (.int pb), .val (.int pc_), .val (.long w1), .second, .val (.long w2), .second, .val (.int pd), .val (.int xx), .val (.int yy), .val (.int zz), .val (.int nn), .val (.int ip), .val (.int ia), .val (.int ib), .val (.int ic), .val (.ref aw), .unset] [(.int ib), (.ref aw)])) _
    refine XS.lload X25.here hx rfl (hb hby at_82) rfl ?_
    show Steps p.tables e below (T25.setTop (mkF m 84 #[.val (.int pa), .val (.int pb), .val (.int pc_), .val (.long w1), .second, .val (.long w2), .second, .val (.int pd), .val (.int xx), .val (.int yy), .val (.int zz), .val (.int nn), .val (.int ip), .val (.int ia), .val (.int ib), .val (.int ic), .val (.ref aw), .unset] [(.long w2), (.int ib), (.ref aw)])) _
    refine st30 _ ?_
    show Steps p.tables e below (T30.setTop (mkF m 85 #[.val (.int pa), .val (.int pb), .val (.int pc_), .val (.long w1), .second, .val (.long w2), .second, .val (.int pd), .val (.int xx), .val (.int yy), .val (.int zz), .val (.int nn), .val (.int ip), .val (.int ia), .val (.int ib), .val (.int ic), .val (.ref aw), .unset] [])) _
    refine st35 _ ?_
    show Steps p.tables e below (T35.setTop (mkF m 88 #[.val (.int pa), .val (.int pb), .val (.int pc_), .val (.long w1), .second, .val (.long w2), .second, .val (.int pd), .val (.int xx), .val (.int yy), .val (.int zz), .val (.int nn), .val (.int ip), .val (.int ia), .val (.int ib), .val (.int ic), .val (.ref aw), .unset] [(.ref ol)])) _
    refine XS.dup X35.here hx rfl (hb hby at_88) rfl rfl ?_
    show Steps p.tables e below (T35.setTop (mkF m 89 #[.val (.int pa), .val (.int pb), .val (.int pc_), .val (.long w1), .second, .val (.long w2), .second, .val (.int pd), .val (.int xx), .val (.int yy), .val (.int zz), .val (.int nn), .val (.int ip), .val (.int ia), .val (.int ib), .val (.int ic), .val (.ref aw), .unset] [(.ref ol), (.ref ol)])) _
    refine st39.trans ?_
    show Steps p.tables e below (T39.setTop (mkF m 92 #[.val (.int pa), .val (.int pb), .val (.int pc_), .val (.long w1), .second, .val (.long w2), .second, .val (.int pd), .val (.int xx), .val (.int yy), .val (.int zz), .val (.int nn), .val (.int ip), .val (.int ia), .val (.int ib), .val (.int ic), .val (.ref aw), .unset] [(.ref ol)])) _
    refine XS.astore X39.here hx rfl (hb hby at_92) rfl rfl (l' := #[.val (.int pa), .val (.int pb), .val (.int pc_), .val (.long w1), .second, .val (.long w2), .second, .val (.int pd), .val (.int xx), .val (.int yy), .val (.int zz), .val (.int nn), .val (.int ip), .val (.int ia), .val (.int ib), .val (.int ic), .val (.ref aw), .val (.ref ol)]) rfl ?_
    show Steps p.tables e below (T39.setTop (mkF m 94 #[.val (.int pa), .val (.int pb), .val (.int pc_), .val (.long w1), .second, .val (.long w2), .second, .val (.int pd), .val (.int xx), .val (.int yy), .val (.int zz), .val (.int nn), .val (.int ip), .val (.int ia), .val (.int ib), .val (.int ic), .val (.ref aw), .val (.ref ol)] [])) _
    refine XS.iload X39.here hx rfl (hb hby at_94) rfl ?_
    show Steps p.tables e below (T39.setTop (mkF m 96 #[.val (.int pa), .val (.int pb), .val (.int pc_), .val (.long w1), .second, .val (.long w2), .second, .val (.int pd), .val (.int xx), .val (.int yy), .val (.int zz), .val (.int nn), .val (.int ip), .val (.int ia), .val (.int ib), .val (.int ic), .val (.ref aw), .val (.ref ol)] [(.int nn)])) _
    refine XS.iconst X39.here hx rfl (hb hby at_96) ?_
    exact kt
  by_cases hc97_48 : nn < (1 : Int32)
  · skip
    obtain ⟨cq49, kq49, q49a, q49b, q49c⟩ := isOf hZ rfl p39_0
    obtain ⟨_, _, ⟨T49, L49, k49, n49⟩, -, X49, ⟨Lc49, hQ49, l49, y49, z49⟩, st49⟩ := X39.virtualBack hx (y := (⟨"com/example/bitweight/bitweight/chunk/ArrayChunk", "orInto", "([J)V"⟩ : MethodName)) (z := (⟨"com/example/bitweight/bitweight/chunk/ArrayChunk", "orInto", "([J)V"⟩ : MethodName)) hown (mvT hZ (hw _ (List.mem_of_getElem? (i := 27) rfl))) (mvT hZ (hw _ (List.mem_of_getElem? (i := 28) rfl))) (notFace_of_selects (args := #[]) (mvT hZ (hw _ (List.mem_of_getElem? (i := 30) rfl)))) (mvT hZ (hw _ (List.mem_of_getElem? (i := 30) rfl))) (mvT hZ (hw _ (List.mem_of_getElem? (i := 29) rfl))) (by decide) (backOf (W := 0) (rm5 l Z a0 hw [] ol aw an (0 : Int32) (fun _ => 0) fz T39.heap n0 Z46 p39_1 p39_2 (Or.inl rfl) f41 g_aw (Ne.symm ne_aw_ol) nan_w (fun _ => by decide) (by decide)) hZ (hw _ (List.mem_of_getElem? (i := 31) rfl)) (hw _ (List.mem_of_getElem? (i := 4) rfl)) (by decide) (by decide)) q49a q49c (g := (mkF m 143 #[.val (.int pa), .val (.int pb), .val (.int pc_), .val (.long w1), .second, .val (.long w2), .second, .val (.int pd), .val (.int xx), .val (.int yy), .val (.int zz), .val (.int nn), .val (.int ip), .val (.int ia), .val (.int ib), .val (.int ic), .val (.ref aw), .val (.ref ol)] [(.ref aw), (.ref ol)])) rfl (by rw [hml]; rfl) (Steps.refl _) (argsL := [(.ref aw)]) (rest := []) (lenOf pd_11 rfl) rfl (by show 2 * 0 + _ ≤ _; exact Nat.le_of_eq rfl) (hb hby at_143) (fun _ _ => ⟨rfl, rfl, (by decide : 2 + 0 ≤ _), (by decide : 1027 + 0 ≤ _)⟩)
    dsimp only [Pt.U, Pt.locs, Pt.cells, Pt.slots] at X49 l49 y49 z49 st49 hQ49
    subst l49 y49 z49
    obtain ⟨rfl, N49q, K49, p49_0⟩ := hQ49
    have N49 := Fr.app N39 N49q
    have f50 := f40.keep K49 (allS g_aw all0)
    have f52 := p39_0.keep K49
    have f53 := p39_1.keep K49 (ninS (Ne.symm ne_aw_ol) nin0)
    have f54 := p39_2.keep K49 (ninS (Ne.symm ne_aw_ol) nin0)
    have f55 := p39_3.keep K49 (ninS (Ne.symm ne_aw_ol) nin0)
    have Z56 := Nat.le_trans Z46 K49.1
    obtain ⟨ft, h_ft⟩ : ∃ g : Nat → Int64, g = (orf (0 : Int32) (fun _ => 0) fz) := ⟨_, rfl⟩
    rw [← h_ft] at p49_0
    have hn1 : (nn < (1 : Int32)) := hc97_48
    have hn2 : nn < (2 : Int32) := by have q := hc97_48; rw [Int32.lt_iff_toInt_lt] at q ⊢; have o1 : (1 : Int32).toInt = 1 := rfl; have o2 : (2 : Int32).toInt = 2 := rfl; have o3 : (3 : Int32).toInt = 3 := rfl; omega
    have hn3 : nn < (3 : Int32) := by have q := hc97_48; rw [Int32.lt_iff_toInt_lt] at q ⊢; have o1 : (1 : Int32).toInt = 1 := rfl; have o2 : (2 : Int32).toInt = 2 := rfl; have o3 : (3 : Int32).toInt = 3 := rfl; omega
    have hset : ∀ v, own_mem (fun _ => 0) 0 v ↔ ((¬ nn < (1 : Int32) ∧ v = xx) ∨ (¬ nn < (2 : Int32) ∧ v = yy) ∨ (¬ nn < (3 : Int32) ∧ v = zz)) := by
      intro v
      have q := own_mem0 (fun _ => 0) v
      simp [q, hn1, hn2, hn3]
    obtain ⟨_, _, ⟨T57, L57, k57, n57⟩, -, X57, ⟨Lc57, hQ57, l57, y57, z57⟩, st57⟩ := Jvm.LawKit.callS X49 hx (y := (⟨"com/example/bitweight/bitweight/chunk/ArrayChunkOrIntoPinLaw", "expected", "(IIIIIIIIJJ)J"⟩ : MethodName)) hown (mvT hZ (hw _ (List.mem_of_getElem? (i := 32) rfl))) (mvT hZ (hw _ (List.mem_of_getElem? (i := 33) rfl))) (mvT hZ (hw _ (List.mem_of_getElem? (i := 34) rfl))) (mvT hZ (hw _ (List.mem_of_getElem? (i := 35) rfl))) (by decide) (backOf (W := 2) (rm6 l Z a0 hw [] ia xx yy zz nn ia ib ip w1 w2 T49.heap n0 Z56) hZ (hw _ (List.mem_of_getElem? (i := 35) rfl)) (hw _ (List.mem_of_getElem? (i := 34) rfl)) (by decide) (by decide)) (g := (mkF m 170 #[.val (.int pa), .val (.int pb), .val (.int pc_), .val (.long w1), .second, .val (.long w2), .second, .val (.int pd), .val (.int xx), .val (.int yy), .val (.int zz), .val (.int nn), .val (.int ip), .val (.int ia), .val (.int ib), .val (.int ic), .val (.ref aw), .val (.ref ol)] [(.long w2), (.long w1), (.int ip), (.int ib), (.int ia), (.int nn), (.int zz), (.int yy), (.int xx), (.int ia), (.long (ft (own_kx xx)))])) rfl (by rw [hml]; rfl) (argsL := [(.int ia), (.int xx), (.int yy), (.int zz), (.int nn), (.int ia), (.int ib), (.int ip), (.long w1), (.long w2)]) (rest := [(.long (ft (own_kx xx)))]) (lenOf pd_12 rfl) rfl (by show 2 * 0 + _ ≤ _; exact Nat.le_of_eq rfl) (hb hby at_170) (fun _ _ => ⟨rfl, rfl, (by decide : 2 + 0 ≤ _), (by decide : 1027 + 0 ≤ _)⟩)
    dsimp only [Pt.U, Pt.locs, Pt.cells, Pt.slots] at X57 l57 y57 z57 st57 hQ57
    subst l57 y57 z57
    obtain ⟨rfl, N57q, hE57⟩ := hQ57
    have N57 := Fr.app N49 N57q
    have pre58 : ∀ t, Steps p.tables e below (T57.setTop (mkF m 174 #[.val (.int pa), .val (.int pb), .val (.int pc_), .val (.long w1), .second, .val (.long w2), .second, .val (.int pd), .val (.int xx), .val (.int yy), .val (.int zz), .val (.int nn), .val (.int ip), .val (.int ia), .val (.int ib), .val (.int ic), .val (.ref aw), .val (.ref ol)] [(.int (XT.cmpL (ft (own_kx xx)) (fn6 ia xx yy zz nn ia ib ip w1 w2)))])) t → Steps p.tables e below (s₁.setTop (entryFrame m #[(.int pa), (.int pb), (.int pc_), (.long w1), (.long w2), (.int pd)] maxLocals)) t := by
      intro t kt
      refine pre47 _ ?_
      show Steps p.tables e below (T39.setTop (mkF m 97 #[.val (.int pa), .val (.int pb), .val (.int pc_), .val (.long w1), .second, .val (.long w2), .second, .val (.int pd), .val (.int xx), .val (.int yy), .val (.int zz), .val (.int nn), .val (.int ip), .val (.int ia), .val (.int ib), .val (.int ic), .val (.ref aw), .val (.ref ol)] [(.int (1 : Int32)), (.int nn)])) _
      refine XS.icmpYes X39.here hx rfl (pc0 := 97) (pc' := 109) rfl (hb hby at_97) rfl (XT.ii_lt_t hc97_48) (by decide) (by decide) ?_
      show Steps p.tables e below (T39.setTop (mkF m 109 #[.val (.int pa), .val (.int pb), .val (.int pc_), .val (.long w1), .second, .val (.long w2), .second, .val (.int pd), .val (.int xx), .val (.int yy), .val (.int zz), .val (.int nn), .val (.int ip), .val (.int ia), .val (.int ib), .val (.int ic), .val (.ref aw), .val (.ref ol)] [])) _
      refine XS.iload X39.here hx rfl (hb hby at_109) rfl ?_
      show Steps p.tables e below (T39.setTop (mkF m 111 #[.val (.int pa), .val (.int pb), .val (.int pc_), .val (.long w1), .second, .val (.long w2), .second, .val (.int pd), .val (.int xx), .val (.int yy), .val (.int zz), .val (.int nn), .val (.int ip), .val (.int ia), .val (.int ib), .val (.int ic), .val (.ref aw), .val (.ref ol)] [(.int nn)])) _
      refine XS.iconst X39.here hx rfl (hb hby at_111) ?_
      show Steps p.tables e below (T39.setTop (mkF m 112 #[.val (.int pa), .val (.int pb), .val (.int pc_), .val (.long w1), .second, .val (.long w2), .second, .val (.int pd), .val (.int xx), .val (.int yy), .val (.int zz), .val (.int nn), .val (.int ip), .val (.int ia), .val (.int ib), .val (.int ic), .val (.ref aw), .val (.ref ol)] [(.int (2 : Int32)), (.int nn)])) _
      refine XS.icmpYes X39.here hx rfl (pc0 := 112) (pc' := 124) rfl (hb hby at_112) rfl (XT.ii_lt_t (by have q0 := hc97_48; have l0 : (1 : Int32).toInt = 1 := rfl; have l1 : (2 : Int32).toInt = 2 := rfl; simp only [Int32.lt_iff_toInt_lt, ← Int32.toInt_inj] at q0 ⊢; omega)) (by decide) (by decide) ?_
      show Steps p.tables e below (T39.setTop (mkF m 124 #[.val (.int pa), .val (.int pb), .val (.int pc_), .val (.long w1), .second, .val (.long w2), .second, .val (.int pd), .val (.int xx), .val (.int yy), .val (.int zz), .val (.int nn), .val (.int ip), .val (.int ia), .val (.int ib), .val (.int ic), .val (.ref aw), .val (.ref ol)] [])) _
      refine XS.iload X39.here hx rfl (hb hby at_124) rfl ?_
      show Steps p.tables e below (T39.setTop (mkF m 126 #[.val (.int pa), .val (.int pb), .val (.int pc_), .val (.long w1), .second, .val (.long w2), .second, .val (.int pd), .val (.int xx), .val (.int yy), .val (.int zz), .val (.int nn), .val (.int ip), .val (.int ia), .val (.int ib), .val (.int ic), .val (.ref aw), .val (.ref ol)] [(.int nn)])) _
      refine XS.iconst X39.here hx rfl (hb hby at_126) ?_
      show Steps p.tables e below (T39.setTop (mkF m 127 #[.val (.int pa), .val (.int pb), .val (.int pc_), .val (.long w1), .second, .val (.long w2), .second, .val (.int pd), .val (.int xx), .val (.int yy), .val (.int zz), .val (.int nn), .val (.int ip), .val (.int ia), .val (.int ib), .val (.int ic), .val (.ref aw), .val (.ref ol)] [(.int (3 : Int32)), (.int nn)])) _
      refine XS.icmpYes X39.here hx rfl (pc0 := 127) (pc' := 139) rfl (hb hby at_127) rfl (XT.ii_lt_t (by have q0 := hc97_48; have l0 : (1 : Int32).toInt = 1 := rfl; have l1 : (3 : Int32).toInt = 3 := rfl; simp only [Int32.lt_iff_toInt_lt, ← Int32.toInt_inj] at q0 ⊢; omega)) (by decide) (by decide) ?_
      show Steps p.tables e below (T39.setTop (mkF m 139 #[.val (.int pa), .val (.int pb), .val (.int pc_), .val (.long w1), .second, .val (.long w2), .second, .val (.int pd), .val (.int xx), .val (.int yy), .val (.int zz), .val (.int nn), .val (.int ip), .val (.int ia), .val (.int ib), .val (.int ic), .val (.ref aw), .val (.ref ol)] [])) _
      refine XS.aload X39.here hx rfl (hb hby at_139) rfl rfl ?_
      show Steps p.tables e below (T39.setTop (mkF m 141 #[.val (.int pa), .val (.int pb), .val (.int pc_), .val (.long w1), .second, .val (.long w2), .second, .val (.int pd), .val (.int xx), .val (.int yy), .val (.int zz), .val (.int nn), .val (.int ip), .val (.int ia), .val (.int ib), .val (.int ic), .val (.ref aw), .val (.ref ol)] [(.ref ol)])) _
      refine XS.aload X39.here hx rfl (hb hby at_141) rfl rfl ?_
      show Steps p.tables e below (T39.setTop (mkF m 143 #[.val (.int pa), .val (.int pb), .val (.int pc_), .val (.long w1), .second, .val (.long w2), .second, .val (.int pd), .val (.int xx), .val (.int yy), .val (.int zz), .val (.int nn), .val (.int ip), .val (.int ia), .val (.int ib), .val (.int ic), .val (.ref aw), .val (.ref ol)] [(.ref aw), (.ref ol)])) _
      refine st49.trans ?_
      show Steps p.tables e below (T49.setTop (mkF m 146 #[.val (.int pa), .val (.int pb), .val (.int pc_), .val (.long w1), .second, .val (.long w2), .second, .val (.int pd), .val (.int xx), .val (.int yy), .val (.int zz), .val (.int nn), .val (.int ip), .val (.int ia), .val (.int ib), .val (.int ic), .val (.ref aw), .val (.ref ol)] [])) _
      refine XS.aload X49.here hx rfl (hb hby at_146) rfl rfl ?_
      show Steps p.tables e below (T49.setTop (mkF m 148 #[.val (.int pa), .val (.int pb), .val (.int pc_), .val (.long w1), .second, .val (.long w2), .second, .val (.int pd), .val (.int xx), .val (.int yy), .val (.int zz), .val (.int nn), .val (.int ip), .val (.int ia), .val (.int ib), .val (.int ic), .val (.ref aw), .val (.ref ol)] [(.ref aw)])) _
      refine XS.iload X49.here hx rfl (hb hby at_148) rfl ?_
      show Steps p.tables e below (T49.setTop (mkF m 150 #[.val (.int pa), .val (.int pb), .val (.int pc_), .val (.long w1), .second, .val (.long w2), .second, .val (.int pd), .val (.int xx), .val (.int yy), .val (.int zz), .val (.int nn), .val (.int ip), .val (.int ia), .val (.int ib), .val (.int ic), .val (.ref aw), .val (.ref ol)] [(.int ia), (.ref aw)])) _
      refine owLdJ (k := (own_kx xx)) X49 hx hZ rfl p49_0 (j := ia) h_ka (own_kx2 hxx) (g := (mkF m 150 #[.val (.int pa), .val (.int pb), .val (.int pc_), .val (.long w1), .second, .val (.long w2), .second, .val (.int pd), .val (.int xx), .val (.int yy), .val (.int zz), .val (.int nn), .val (.int ip), .val (.int ia), .val (.int ib), .val (.int ic), .val (.ref aw), .val (.ref ol)] [(.int ia), (.ref aw)])) rfl rfl (hb hby at_150) _ ?_
      show Steps p.tables e below (T49.setTop (mkF m 151 #[.val (.int pa), .val (.int pb), .val (.int pc_), .val (.long w1), .second, .val (.long w2), .second, .val (.int pd), .val (.int xx), .val (.int yy), .val (.int zz), .val (.int nn), .val (.int ip), .val (.int ia), .val (.int ib), .val (.int ic), .val (.ref aw), .val (.ref ol)] [(.long (ft (own_kx xx)))])) _
      refine XS.iload X49.here hx rfl (hb hby at_151) rfl ?_
      show Steps p.tables e below (T49.setTop (mkF m 153 #[.val (.int pa), .val (.int pb), .val (.int pc_), .val (.long w1), .second, .val (.long w2), .second, .val (.int pd), .val (.int xx), .val (.int yy), .val (.int zz), .val (.int nn), .val (.int ip), .val (.int ia), .val (.int ib), .val (.int ic), .val (.ref aw), .val (.ref ol)] [(.int ia), (.long (ft (own_kx xx)))])) _
      refine XS.iload X49.here hx rfl (hb hby at_153) rfl ?_
      show Steps p.tables e below (T49.setTop (mkF m 155 #[.val (.int pa), .val (.int pb), .val (.int pc_), .val (.long w1), .second, .val (.long w2), .second, .val (.int pd), .val (.int xx), .val (.int yy), .val (.int zz), .val (.int nn), .val (.int ip), .val (.int ia), .val (.int ib), .val (.int ic), .val (.ref aw), .val (.ref ol)] [(.int xx), (.int ia), (.long (ft (own_kx xx)))])) _
      refine XS.iload X49.here hx rfl (hb hby at_155) rfl ?_
      show Steps p.tables e below (T49.setTop (mkF m 157 #[.val (.int pa), .val (.int pb), .val (.int pc_), .val (.long w1), .second, .val (.long w2), .second, .val (.int pd), .val (.int xx), .val (.int yy), .val (.int zz), .val (.int nn), .val (.int ip), .val (.int ia), .val (.int ib), .val (.int ic), .val (.ref aw), .val (.ref ol)] [(.int yy), (.int xx), (.int ia), (.long (ft (own_kx xx)))])) _
      refine XS.iload X49.here hx rfl (hb hby at_157) rfl ?_
      show Steps p.tables e below (T49.setTop (mkF m 159 #[.val (.int pa), .val (.int pb), .val (.int pc_), .val (.long w1), .second, .val (.long w2), .second, .val (.int pd), .val (.int xx), .val (.int yy), .val (.int zz), .val (.int nn), .val (.int ip), .val (.int ia), .val (.int ib), .val (.int ic), .val (.ref aw), .val (.ref ol)] [(.int zz), (.int yy), (.int xx), (.int ia), (.long (ft (own_kx xx)))])) _
      refine XS.iload X49.here hx rfl (hb hby at_159) rfl ?_
      show Steps p.tables e below (T49.setTop (mkF m 161 #[.val (.int pa), .val (.int pb), .val (.int pc_), .val (.long w1), .second, .val (.long w2), .second, .val (.int pd), .val (.int xx), .val (.int yy), .val (.int zz), .val (.int nn), .val (.int ip), .val (.int ia), .val (.int ib), .val (.int ic), .val (.ref aw), .val (.ref ol)] [(.int nn), (.int zz), (.int yy), (.int xx), (.int ia), (.long (ft (own_kx xx)))])) _
      refine XS.iload X49.here hx rfl (hb hby at_161) rfl ?_
      show Steps p.tables e below (T49.setTop (mkF m 163 #[.val (.int pa), .val (.int pb), .val (.int pc_), .val (.long w1), .second, .val (.long w2), .second, .val (.int pd), .val (.int xx), .val (.int yy), .val (.int zz), .val (.int nn), .val (.int ip), .val (.int ia), .val (.int ib), .val (.int ic), .val (.ref aw), .val (.ref ol)] [(.int ia), (.int nn), (.int zz), (.int yy), (.int xx), (.int ia), (.long (ft (own_kx xx)))])) _
      refine XS.iload X49.here hx rfl (hb hby at_163) rfl ?_
      show Steps p.tables e below (T49.setTop (mkF m 165 #[.val (.int pa), .val (.int pb), .val (.int pc_), .val (.long w1), .second, .val (.long w2), .second, .val (.int pd), .val (.int xx), .val (.int yy), .val (.int zz), .val (.int nn), .val (.int ip), .val (.int ia), .val (.int ib), .val (.int ic), .val (.ref aw), .val (.ref ol)] [(.int ib), (.int ia), (.int nn), (.int zz), (.int yy), (.int xx), (.int ia), (.long (ft (own_kx xx)))])) _
      refine XS.iload X49.here hx rfl (hb hby at_165) rfl ?_
      show Steps p.tables e below (T49.setTop (mkF m 167 #[.val (.int pa), .val (.int pb), .val (.int pc_), .val (.long w1), .second, .val (.long w2), .second, .val (.int pd), .val (.int xx), .val (.int yy), .val (.int zz), .val (.int nn), .val (.int ip), .val (.int ia), .val (.int ib), .val (.int ic), .val (.ref aw), .val (.ref ol)] [(.int ip), (.int ib), (.int ia), (.int nn), (.int zz), (.int yy), (.int xx), (.int ia), (.long (ft (own_kx xx)))])) _
      refine XS.lloadN X49.here hx rfl (hb hby at_167) rfl ?_
      show Steps p.tables e below (T49.setTop (mkF m 168 #[.val (.int pa), .val (.int pb), .val (.int pc_), .val (.long w1), .second, .val (.long w2), .second, .val (.int pd), .val (.int xx), .val (.int yy), .val (.int zz), .val (.int nn), .val (.int ip), .val (.int ia), .val (.int ib), .val (.int ic), .val (.ref aw), .val (.ref ol)] [(.long w1), (.int ip), (.int ib), (.int ia), (.int nn), (.int zz), (.int yy), (.int xx), (.int ia), (.long (ft (own_kx xx)))])) _
      refine XS.lload X49.here hx rfl (hb hby at_168) rfl ?_
      show Steps p.tables e below (T49.setTop (mkF m 170 #[.val (.int pa), .val (.int pb), .val (.int pc_), .val (.long w1), .second, .val (.long w2), .second, .val (.int pd), .val (.int xx), .val (.int yy), .val (.int zz), .val (.int nn), .val (.int ip), .val (.int ia), .val (.int ib), .val (.int ic), .val (.ref aw), .val (.ref ol)] [(.long w2), (.long w1), (.int ip), (.int ib), (.int ia), (.int nn), (.int zz), (.int yy), (.int xx), (.int ia), (.long (ft (own_kx xx)))])) _
      refine st57 _ ?_
      show Steps p.tables e below (T57.setTop (mkF m 173 #[.val (.int pa), .val (.int pb), .val (.int pc_), .val (.long w1), .second, .val (.long w2), .second, .val (.int pd), .val (.int xx), .val (.int yy), .val (.int zz), .val (.int nn), .val (.int ip), .val (.int ia), .val (.int ib), .val (.int ic), .val (.ref aw), .val (.ref ol)] [(.long (fn6 ia xx yy zz nn ia ib ip w1 w2)), (.long (ft (own_kx xx)))])) _
      refine XT.lcmp X57.here hx rfl (hb hby at_173) rfl ?_
      exact kt
    by_cases hc174_59 : (ft (own_kx xx)) = (fn6 ia xx yy zz nn ia ib ip w1 w2)
    · skip
      obtain ⟨_, _, ⟨T60, L60, k60, n60⟩, -, X60, ⟨Lc60, hQ60, l60, y60, z60⟩, st60⟩ := Jvm.LawKit.callS X57 hx (y := (⟨"com/example/bitweight/bitweight/chunk/ArrayChunkOrIntoPinLaw", "expected", "(IIIIIIIIJJ)J"⟩ : MethodName)) hown (mvT hZ (hw _ (List.mem_of_getElem? (i := 32) rfl))) (mvT hZ (hw _ (List.mem_of_getElem? (i := 33) rfl))) (mvT hZ (hw _ (List.mem_of_getElem? (i := 34) rfl))) (mvT hZ (hw _ (List.mem_of_getElem? (i := 35) rfl))) (by decide) (backOf (W := 2) (rm6 l Z a0 hw [] ib xx yy zz nn ia ib ip w1 w2 T49.heap n0 Z56) hZ (hw _ (List.mem_of_getElem? (i := 35) rfl)) (hw _ (List.mem_of_getElem? (i := 34) rfl)) (by decide) (by decide)) (g := (mkF m 201 #[.val (.int pa), .val (.int pb), .val (.int pc_), .val (.long w1), .second, .val (.long w2), .second, .val (.int pd), .val (.int xx), .val (.int yy), .val (.int zz), .val (.int nn), .val (.int ip), .val (.int ia), .val (.int ib), .val (.int ic), .val (.ref aw), .val (.ref ol)] [(.long w2), (.long w1), (.int ip), (.int ib), (.int ia), (.int nn), (.int zz), (.int yy), (.int xx), (.int ib), (.long (ft (own_kx yy)))])) rfl (by rw [hml]; rfl) (argsL := [(.int ib), (.int xx), (.int yy), (.int zz), (.int nn), (.int ia), (.int ib), (.int ip), (.long w1), (.long w2)]) (rest := [(.long (ft (own_kx yy)))]) (lenOf pd_12 rfl) rfl (by show 2 * 0 + _ ≤ _; exact Nat.le_of_eq rfl) (hb hby at_201) (fun _ _ => ⟨rfl, hE57, (by decide : 2 + 0 ≤ _), (by decide : 1027 + 0 ≤ _)⟩)
      dsimp only [Pt.U, Pt.locs, Pt.cells, Pt.slots] at X60 l60 y60 z60 st60 hQ60
      subst l60 y60 z60
      obtain ⟨rfl, N60q, hE60⟩ := hQ60
      have N60 := Fr.app N57 N60q
      have pre61 : ∀ t, Steps p.tables e below (T60.setTop (mkF m 205 #[.val (.int pa), .val (.int pb), .val (.int pc_), .val (.long w1), .second, .val (.long w2), .second, .val (.int pd), .val (.int xx), .val (.int yy), .val (.int zz), .val (.int nn), .val (.int ip), .val (.int ia), .val (.int ib), .val (.int ic), .val (.ref aw), .val (.ref ol)] [(.int (XT.cmpL (ft (own_kx yy)) (fn6 ib xx yy zz nn ia ib ip w1 w2)))])) t → Steps p.tables e below (s₁.setTop (entryFrame m #[(.int pa), (.int pb), (.int pc_), (.long w1), (.long w2), (.int pd)] maxLocals)) t := by
        intro t kt
        refine pre58 _ ?_
        show Steps p.tables e below (T57.setTop (mkF m 174 #[.val (.int pa), .val (.int pb), .val (.int pc_), .val (.long w1), .second, .val (.long w2), .second, .val (.int pd), .val (.int xx), .val (.int yy), .val (.int zz), .val (.int nn), .val (.int ip), .val (.int ia), .val (.int ib), .val (.int ic), .val (.ref aw), .val (.ref ol)] [(.int (XT.cmpL (ft (own_kx xx)) (fn6 ia xx yy zz nn ia ib ip w1 w2)))])) _
        refine XS.ifNo X57.here hx rfl (hb hby at_174) rfl (XT.ll_ne_f hc174_59) ?_
        show Steps p.tables e below (T57.setTop (mkF m 177 #[.val (.int pa), .val (.int pb), .val (.int pc_), .val (.long w1), .second, .val (.long w2), .second, .val (.int pd), .val (.int xx), .val (.int yy), .val (.int zz), .val (.int nn), .val (.int ip), .val (.int ia), .val (.int ib), .val (.int ic), .val (.ref aw), .val (.ref ol)] [])) _
        refine XS.aload X57.here hx rfl (hb hby at_177) rfl rfl ?_
        show Steps p.tables e below (T57.setTop (mkF m 179 #[.val (.int pa), .val (.int pb), .val (.int pc_), .val (.long w1), .second, .val (.long w2), .second, .val (.int pd), .val (.int xx), .val (.int yy), .val (.int zz), .val (.int nn), .val (.int ip), .val (.int ia), .val (.int ib), .val (.int ic), .val (.ref aw), .val (.ref ol)] [(.ref aw)])) _
        refine XS.iload X57.here hx rfl (hb hby at_179) rfl ?_
        show Steps p.tables e below (T57.setTop (mkF m 181 #[.val (.int pa), .val (.int pb), .val (.int pc_), .val (.long w1), .second, .val (.long w2), .second, .val (.int pd), .val (.int xx), .val (.int yy), .val (.int zz), .val (.int nn), .val (.int ip), .val (.int ia), .val (.int ib), .val (.int ic), .val (.ref aw), .val (.ref ol)] [(.int ib), (.ref aw)])) _
        refine owLdJ (k := (own_kx yy)) X57 hx hZ hE57 p49_0 (j := ib) h_kb (own_kx2 hy) (g := (mkF m 181 #[.val (.int pa), .val (.int pb), .val (.int pc_), .val (.long w1), .second, .val (.long w2), .second, .val (.int pd), .val (.int xx), .val (.int yy), .val (.int zz), .val (.int nn), .val (.int ip), .val (.int ia), .val (.int ib), .val (.int ic), .val (.ref aw), .val (.ref ol)] [(.int ib), (.ref aw)])) rfl rfl (hb hby at_181) _ ?_
        show Steps p.tables e below (T57.setTop (mkF m 182 #[.val (.int pa), .val (.int pb), .val (.int pc_), .val (.long w1), .second, .val (.long w2), .second, .val (.int pd), .val (.int xx), .val (.int yy), .val (.int zz), .val (.int nn), .val (.int ip), .val (.int ia), .val (.int ib), .val (.int ic), .val (.ref aw), .val (.ref ol)] [(.long (ft (own_kx yy)))])) _
        refine XS.iload X57.here hx rfl (hb hby at_182) rfl ?_
        show Steps p.tables e below (T57.setTop (mkF m 184 #[.val (.int pa), .val (.int pb), .val (.int pc_), .val (.long w1), .second, .val (.long w2), .second, .val (.int pd), .val (.int xx), .val (.int yy), .val (.int zz), .val (.int nn), .val (.int ip), .val (.int ia), .val (.int ib), .val (.int ic), .val (.ref aw), .val (.ref ol)] [(.int ib), (.long (ft (own_kx yy)))])) _
        refine XS.iload X57.here hx rfl (hb hby at_184) rfl ?_
        show Steps p.tables e below (T57.setTop (mkF m 186 #[.val (.int pa), .val (.int pb), .val (.int pc_), .val (.long w1), .second, .val (.long w2), .second, .val (.int pd), .val (.int xx), .val (.int yy), .val (.int zz), .val (.int nn), .val (.int ip), .val (.int ia), .val (.int ib), .val (.int ic), .val (.ref aw), .val (.ref ol)] [(.int xx), (.int ib), (.long (ft (own_kx yy)))])) _
        refine XS.iload X57.here hx rfl (hb hby at_186) rfl ?_
        show Steps p.tables e below (T57.setTop (mkF m 188 #[.val (.int pa), .val (.int pb), .val (.int pc_), .val (.long w1), .second, .val (.long w2), .second, .val (.int pd), .val (.int xx), .val (.int yy), .val (.int zz), .val (.int nn), .val (.int ip), .val (.int ia), .val (.int ib), .val (.int ic), .val (.ref aw), .val (.ref ol)] [(.int yy), (.int xx), (.int ib), (.long (ft (own_kx yy)))])) _
        refine XS.iload X57.here hx rfl (hb hby at_188) rfl ?_
        show Steps p.tables e below (T57.setTop (mkF m 190 #[.val (.int pa), .val (.int pb), .val (.int pc_), .val (.long w1), .second, .val (.long w2), .second, .val (.int pd), .val (.int xx), .val (.int yy), .val (.int zz), .val (.int nn), .val (.int ip), .val (.int ia), .val (.int ib), .val (.int ic), .val (.ref aw), .val (.ref ol)] [(.int zz), (.int yy), (.int xx), (.int ib), (.long (ft (own_kx yy)))])) _
        refine XS.iload X57.here hx rfl (hb hby at_190) rfl ?_
        show Steps p.tables e below (T57.setTop (mkF m 192 #[.val (.int pa), .val (.int pb), .val (.int pc_), .val (.long w1), .second, .val (.long w2), .second, .val (.int pd), .val (.int xx), .val (.int yy), .val (.int zz), .val (.int nn), .val (.int ip), .val (.int ia), .val (.int ib), .val (.int ic), .val (.ref aw), .val (.ref ol)] [(.int nn), (.int zz), (.int yy), (.int xx), (.int ib), (.long (ft (own_kx yy)))])) _
        refine XS.iload X57.here hx rfl (hb hby at_192) rfl ?_
        show Steps p.tables e below (T57.setTop (mkF m 194 #[.val (.int pa), .val (.int pb), .val (.int pc_), .val (.long w1), .second, .val (.long w2), .second, .val (.int pd), .val (.int xx), .val (.int yy), .val (.int zz), .val (.int nn), .val (.int ip), .val (.int ia), .val (.int ib), .val (.int ic), .val (.ref aw), .val (.ref ol)] [(.int ia), (.int nn), (.int zz), (.int yy), (.int xx), (.int ib), (.long (ft (own_kx yy)))])) _
        refine XS.iload X57.here hx rfl (hb hby at_194) rfl ?_
        show Steps p.tables e below (T57.setTop (mkF m 196 #[.val (.int pa), .val (.int pb), .val (.int pc_), .val (.long w1), .second, .val (.long w2), .second, .val (.int pd), .val (.int xx), .val (.int yy), .val (.int zz), .val (.int nn), .val (.int ip), .val (.int ia), .val (.int ib), .val (.int ic), .val (.ref aw), .val (.ref ol)] [(.int ib), (.int ia), (.int nn), (.int zz), (.int yy), (.int xx), (.int ib), (.long (ft (own_kx yy)))])) _
        refine XS.iload X57.here hx rfl (hb hby at_196) rfl ?_
        show Steps p.tables e below (T57.setTop (mkF m 198 #[.val (.int pa), .val (.int pb), .val (.int pc_), .val (.long w1), .second, .val (.long w2), .second, .val (.int pd), .val (.int xx), .val (.int yy), .val (.int zz), .val (.int nn), .val (.int ip), .val (.int ia), .val (.int ib), .val (.int ic), .val (.ref aw), .val (.ref ol)] [(.int ip), (.int ib), (.int ia), (.int nn), (.int zz), (.int yy), (.int xx), (.int ib), (.long (ft (own_kx yy)))])) _
        refine XS.lloadN X57.here hx rfl (hb hby at_198) rfl ?_
        show Steps p.tables e below (T57.setTop (mkF m 199 #[.val (.int pa), .val (.int pb), .val (.int pc_), .val (.long w1), .second, .val (.long w2), .second, .val (.int pd), .val (.int xx), .val (.int yy), .val (.int zz), .val (.int nn), .val (.int ip), .val (.int ia), .val (.int ib), .val (.int ic), .val (.ref aw), .val (.ref ol)] [(.long w1), (.int ip), (.int ib), (.int ia), (.int nn), (.int zz), (.int yy), (.int xx), (.int ib), (.long (ft (own_kx yy)))])) _
        refine XS.lload X57.here hx rfl (hb hby at_199) rfl ?_
        show Steps p.tables e below (T57.setTop (mkF m 201 #[.val (.int pa), .val (.int pb), .val (.int pc_), .val (.long w1), .second, .val (.long w2), .second, .val (.int pd), .val (.int xx), .val (.int yy), .val (.int zz), .val (.int nn), .val (.int ip), .val (.int ia), .val (.int ib), .val (.int ic), .val (.ref aw), .val (.ref ol)] [(.long w2), (.long w1), (.int ip), (.int ib), (.int ia), (.int nn), (.int zz), (.int yy), (.int xx), (.int ib), (.long (ft (own_kx yy)))])) _
        refine st60 _ ?_
        show Steps p.tables e below (T60.setTop (mkF m 204 #[.val (.int pa), .val (.int pb), .val (.int pc_), .val (.long w1), .second, .val (.long w2), .second, .val (.int pd), .val (.int xx), .val (.int yy), .val (.int zz), .val (.int nn), .val (.int ip), .val (.int ia), .val (.int ib), .val (.int ic), .val (.ref aw), .val (.ref ol)] [(.long (fn6 ib xx yy zz nn ia ib ip w1 w2)), (.long (ft (own_kx yy)))])) _
        refine XT.lcmp X60.here hx rfl (hb hby at_204) rfl ?_
        exact kt
      by_cases hc205_62 : (ft (own_kx yy)) = (fn6 ib xx yy zz nn ia ib ip w1 w2)
      · skip
        obtain ⟨_, _, ⟨T63, L63, k63, n63⟩, -, X63, ⟨Lc63, hQ63, l63, y63, z63⟩, st63⟩ := Jvm.LawKit.callS X60 hx (y := (⟨"com/example/bitweight/bitweight/chunk/ArrayChunkOrIntoPinLaw", "expected", "(IIIIIIIIJJ)J"⟩ : MethodName)) hown (mvT hZ (hw _ (List.mem_of_getElem? (i := 32) rfl))) (mvT hZ (hw _ (List.mem_of_getElem? (i := 33) rfl))) (mvT hZ (hw _ (List.mem_of_getElem? (i := 34) rfl))) (mvT hZ (hw _ (List.mem_of_getElem? (i := 35) rfl))) (by decide) (backOf (W := 2) (rm6 l Z a0 hw [] ic xx yy zz nn ia ib ip w1 w2 T49.heap n0 Z56) hZ (hw _ (List.mem_of_getElem? (i := 35) rfl)) (hw _ (List.mem_of_getElem? (i := 34) rfl)) (by decide) (by decide)) (g := (mkF m 232 #[.val (.int pa), .val (.int pb), .val (.int pc_), .val (.long w1), .second, .val (.long w2), .second, .val (.int pd), .val (.int xx), .val (.int yy), .val (.int zz), .val (.int nn), .val (.int ip), .val (.int ia), .val (.int ib), .val (.int ic), .val (.ref aw), .val (.ref ol)] [(.long w2), (.long w1), (.int ip), (.int ib), (.int ia), (.int nn), (.int zz), (.int yy), (.int xx), (.int ic), (.long (ft (own_kx zz)))])) rfl (by rw [hml]; rfl) (argsL := [(.int ic), (.int xx), (.int yy), (.int zz), (.int nn), (.int ia), (.int ib), (.int ip), (.long w1), (.long w2)]) (rest := [(.long (ft (own_kx zz)))]) (lenOf pd_12 rfl) rfl (by show 2 * 0 + _ ≤ _; exact Nat.le_of_eq rfl) (hb hby at_232) (fun _ _ => ⟨rfl, hE60, (by decide : 2 + 0 ≤ _), (by decide : 1027 + 0 ≤ _)⟩)
        dsimp only [Pt.U, Pt.locs, Pt.cells, Pt.slots] at X63 l63 y63 z63 st63 hQ63
        subst l63 y63 z63
        obtain ⟨rfl, N63q, hE63⟩ := hQ63
        have N63 := Fr.app N60 N63q
        have pre64 : ∀ t, Steps p.tables e below (T63.setTop (mkF m 236 #[.val (.int pa), .val (.int pb), .val (.int pc_), .val (.long w1), .second, .val (.long w2), .second, .val (.int pd), .val (.int xx), .val (.int yy), .val (.int zz), .val (.int nn), .val (.int ip), .val (.int ia), .val (.int ib), .val (.int ic), .val (.ref aw), .val (.ref ol)] [(.int (XT.cmpL (ft (own_kx zz)) (fn6 ic xx yy zz nn ia ib ip w1 w2)))])) t → Steps p.tables e below (s₁.setTop (entryFrame m #[(.int pa), (.int pb), (.int pc_), (.long w1), (.long w2), (.int pd)] maxLocals)) t := by
          intro t kt
          refine pre61 _ ?_
          show Steps p.tables e below (T60.setTop (mkF m 205 #[.val (.int pa), .val (.int pb), .val (.int pc_), .val (.long w1), .second, .val (.long w2), .second, .val (.int pd), .val (.int xx), .val (.int yy), .val (.int zz), .val (.int nn), .val (.int ip), .val (.int ia), .val (.int ib), .val (.int ic), .val (.ref aw), .val (.ref ol)] [(.int (XT.cmpL (ft (own_kx yy)) (fn6 ib xx yy zz nn ia ib ip w1 w2)))])) _
          refine XS.ifNo X60.here hx rfl (hb hby at_205) rfl (XT.ll_ne_f hc205_62) ?_
          show Steps p.tables e below (T60.setTop (mkF m 208 #[.val (.int pa), .val (.int pb), .val (.int pc_), .val (.long w1), .second, .val (.long w2), .second, .val (.int pd), .val (.int xx), .val (.int yy), .val (.int zz), .val (.int nn), .val (.int ip), .val (.int ia), .val (.int ib), .val (.int ic), .val (.ref aw), .val (.ref ol)] [])) _
          refine XS.aload X60.here hx rfl (hb hby at_208) rfl rfl ?_
          show Steps p.tables e below (T60.setTop (mkF m 210 #[.val (.int pa), .val (.int pb), .val (.int pc_), .val (.long w1), .second, .val (.long w2), .second, .val (.int pd), .val (.int xx), .val (.int yy), .val (.int zz), .val (.int nn), .val (.int ip), .val (.int ia), .val (.int ib), .val (.int ic), .val (.ref aw), .val (.ref ol)] [(.ref aw)])) _
          refine XS.iload X60.here hx rfl (hb hby at_210) rfl ?_
          show Steps p.tables e below (T60.setTop (mkF m 212 #[.val (.int pa), .val (.int pb), .val (.int pc_), .val (.long w1), .second, .val (.long w2), .second, .val (.int pd), .val (.int xx), .val (.int yy), .val (.int zz), .val (.int nn), .val (.int ip), .val (.int ia), .val (.int ib), .val (.int ic), .val (.ref aw), .val (.ref ol)] [(.int ic), (.ref aw)])) _
          refine owLdJ (k := (own_kx zz)) X60 hx hZ hE60 p49_0 (j := ic) h_kc (own_kx2 hz) (g := (mkF m 212 #[.val (.int pa), .val (.int pb), .val (.int pc_), .val (.long w1), .second, .val (.long w2), .second, .val (.int pd), .val (.int xx), .val (.int yy), .val (.int zz), .val (.int nn), .val (.int ip), .val (.int ia), .val (.int ib), .val (.int ic), .val (.ref aw), .val (.ref ol)] [(.int ic), (.ref aw)])) rfl rfl (hb hby at_212) _ ?_
          show Steps p.tables e below (T60.setTop (mkF m 213 #[.val (.int pa), .val (.int pb), .val (.int pc_), .val (.long w1), .second, .val (.long w2), .second, .val (.int pd), .val (.int xx), .val (.int yy), .val (.int zz), .val (.int nn), .val (.int ip), .val (.int ia), .val (.int ib), .val (.int ic), .val (.ref aw), .val (.ref ol)] [(.long (ft (own_kx zz)))])) _
          refine XS.iload X60.here hx rfl (hb hby at_213) rfl ?_
          show Steps p.tables e below (T60.setTop (mkF m 215 #[.val (.int pa), .val (.int pb), .val (.int pc_), .val (.long w1), .second, .val (.long w2), .second, .val (.int pd), .val (.int xx), .val (.int yy), .val (.int zz), .val (.int nn), .val (.int ip), .val (.int ia), .val (.int ib), .val (.int ic), .val (.ref aw), .val (.ref ol)] [(.int ic), (.long (ft (own_kx zz)))])) _
          refine XS.iload X60.here hx rfl (hb hby at_215) rfl ?_
          show Steps p.tables e below (T60.setTop (mkF m 217 #[.val (.int pa), .val (.int pb), .val (.int pc_), .val (.long w1), .second, .val (.long w2), .second, .val (.int pd), .val (.int xx), .val (.int yy), .val (.int zz), .val (.int nn), .val (.int ip), .val (.int ia), .val (.int ib), .val (.int ic), .val (.ref aw), .val (.ref ol)] [(.int xx), (.int ic), (.long (ft (own_kx zz)))])) _
          refine XS.iload X60.here hx rfl (hb hby at_217) rfl ?_
          show Steps p.tables e below (T60.setTop (mkF m 219 #[.val (.int pa), .val (.int pb), .val (.int pc_), .val (.long w1), .second, .val (.long w2), .second, .val (.int pd), .val (.int xx), .val (.int yy), .val (.int zz), .val (.int nn), .val (.int ip), .val (.int ia), .val (.int ib), .val (.int ic), .val (.ref aw), .val (.ref ol)] [(.int yy), (.int xx), (.int ic), (.long (ft (own_kx zz)))])) _
          refine XS.iload X60.here hx rfl (hb hby at_219) rfl ?_
          show Steps p.tables e below (T60.setTop (mkF m 221 #[.val (.int pa), .val (.int pb), .val (.int pc_), .val (.long w1), .second, .val (.long w2), .second, .val (.int pd), .val (.int xx), .val (.int yy), .val (.int zz), .val (.int nn), .val (.int ip), .val (.int ia), .val (.int ib), .val (.int ic), .val (.ref aw), .val (.ref ol)] [(.int zz), (.int yy), (.int xx), (.int ic), (.long (ft (own_kx zz)))])) _
          refine XS.iload X60.here hx rfl (hb hby at_221) rfl ?_
          show Steps p.tables e below (T60.setTop (mkF m 223 #[.val (.int pa), .val (.int pb), .val (.int pc_), .val (.long w1), .second, .val (.long w2), .second, .val (.int pd), .val (.int xx), .val (.int yy), .val (.int zz), .val (.int nn), .val (.int ip), .val (.int ia), .val (.int ib), .val (.int ic), .val (.ref aw), .val (.ref ol)] [(.int nn), (.int zz), (.int yy), (.int xx), (.int ic), (.long (ft (own_kx zz)))])) _
          refine XS.iload X60.here hx rfl (hb hby at_223) rfl ?_
          show Steps p.tables e below (T60.setTop (mkF m 225 #[.val (.int pa), .val (.int pb), .val (.int pc_), .val (.long w1), .second, .val (.long w2), .second, .val (.int pd), .val (.int xx), .val (.int yy), .val (.int zz), .val (.int nn), .val (.int ip), .val (.int ia), .val (.int ib), .val (.int ic), .val (.ref aw), .val (.ref ol)] [(.int ia), (.int nn), (.int zz), (.int yy), (.int xx), (.int ic), (.long (ft (own_kx zz)))])) _
          refine XS.iload X60.here hx rfl (hb hby at_225) rfl ?_
          show Steps p.tables e below (T60.setTop (mkF m 227 #[.val (.int pa), .val (.int pb), .val (.int pc_), .val (.long w1), .second, .val (.long w2), .second, .val (.int pd), .val (.int xx), .val (.int yy), .val (.int zz), .val (.int nn), .val (.int ip), .val (.int ia), .val (.int ib), .val (.int ic), .val (.ref aw), .val (.ref ol)] [(.int ib), (.int ia), (.int nn), (.int zz), (.int yy), (.int xx), (.int ic), (.long (ft (own_kx zz)))])) _
          refine XS.iload X60.here hx rfl (hb hby at_227) rfl ?_
          show Steps p.tables e below (T60.setTop (mkF m 229 #[.val (.int pa), .val (.int pb), .val (.int pc_), .val (.long w1), .second, .val (.long w2), .second, .val (.int pd), .val (.int xx), .val (.int yy), .val (.int zz), .val (.int nn), .val (.int ip), .val (.int ia), .val (.int ib), .val (.int ic), .val (.ref aw), .val (.ref ol)] [(.int ip), (.int ib), (.int ia), (.int nn), (.int zz), (.int yy), (.int xx), (.int ic), (.long (ft (own_kx zz)))])) _
          refine XS.lloadN X60.here hx rfl (hb hby at_229) rfl ?_
          show Steps p.tables e below (T60.setTop (mkF m 230 #[.val (.int pa), .val (.int pb), .val (.int pc_), .val (.long w1), .second, .val (.long w2), .second, .val (.int pd), .val (.int xx), .val (.int yy), .val (.int zz), .val (.int nn), .val (.int ip), .val (.int ia), .val (.int ib), .val (.int ic), .val (.ref aw), .val (.ref ol)] [(.long w1), (.int ip), (.int ib), (.int ia), (.int nn), (.int zz), (.int yy), (.int xx), (.int ic), (.long (ft (own_kx zz)))])) _
          refine XS.lload X60.here hx rfl (hb hby at_230) rfl ?_
          show Steps p.tables e below (T60.setTop (mkF m 232 #[.val (.int pa), .val (.int pb), .val (.int pc_), .val (.long w1), .second, .val (.long w2), .second, .val (.int pd), .val (.int xx), .val (.int yy), .val (.int zz), .val (.int nn), .val (.int ip), .val (.int ia), .val (.int ib), .val (.int ic), .val (.ref aw), .val (.ref ol)] [(.long w2), (.long w1), (.int ip), (.int ib), (.int ia), (.int nn), (.int zz), (.int yy), (.int xx), (.int ic), (.long (ft (own_kx zz)))])) _
          refine st63 _ ?_
          show Steps p.tables e below (T63.setTop (mkF m 235 #[.val (.int pa), .val (.int pb), .val (.int pc_), .val (.long w1), .second, .val (.long w2), .second, .val (.int pd), .val (.int xx), .val (.int yy), .val (.int zz), .val (.int nn), .val (.int ip), .val (.int ia), .val (.int ib), .val (.int ic), .val (.ref aw), .val (.ref ol)] [(.long (fn6 ic xx yy zz nn ia ib ip w1 w2)), (.long (ft (own_kx zz)))])) _
          refine XT.lcmp X63.here hx rfl (hb hby at_235) rfl ?_
          exact kt
        by_cases hc236_65 : (ft (own_kx zz)) = (fn6 ic xx yy zz nn ia ib ip w1 w2)
        · skip
          obtain ⟨_, _, ⟨T66, L66, k66, n66⟩, -, X66, ⟨Lc66, hQ66, l66, y66, z66⟩, st66⟩ := Jvm.LawKit.callS X63 hx (y := (⟨"com/example/bitweight/bitweight/chunk/ArrayChunkOrIntoPinLaw", "expected", "(IIIIIIIIJJ)J"⟩ : MethodName)) hown (mvT hZ (hw _ (List.mem_of_getElem? (i := 32) rfl))) (mvT hZ (hw _ (List.mem_of_getElem? (i := 33) rfl))) (mvT hZ (hw _ (List.mem_of_getElem? (i := 34) rfl))) (mvT hZ (hw _ (List.mem_of_getElem? (i := 35) rfl))) (by decide) (backOf (W := 2) (rm6 l Z a0 hw [] ip xx yy zz nn ia ib ip w1 w2 T49.heap n0 Z56) hZ (hw _ (List.mem_of_getElem? (i := 35) rfl)) (hw _ (List.mem_of_getElem? (i := 34) rfl)) (by decide) (by decide)) (g := (mkF m 263 #[.val (.int pa), .val (.int pb), .val (.int pc_), .val (.long w1), .second, .val (.long w2), .second, .val (.int pd), .val (.int xx), .val (.int yy), .val (.int zz), .val (.int nn), .val (.int ip), .val (.int ia), .val (.int ib), .val (.int ic), .val (.ref aw), .val (.ref ol)] [(.long w2), (.long w1), (.int ip), (.int ib), (.int ia), (.int nn), (.int zz), (.int yy), (.int xx), (.int ip), (.long (ft kp))])) rfl (by rw [hml]; rfl) (argsL := [(.int ip), (.int xx), (.int yy), (.int zz), (.int nn), (.int ia), (.int ib), (.int ip), (.long w1), (.long w2)]) (rest := [(.long (ft kp))]) (lenOf pd_12 rfl) rfl (by show 2 * 0 + _ ≤ _; exact Nat.le_of_eq rfl) (hb hby at_263) (fun _ _ => ⟨rfl, hE63, (by decide : 2 + 0 ≤ _), (by decide : 1027 + 0 ≤ _)⟩)
          dsimp only [Pt.U, Pt.locs, Pt.cells, Pt.slots] at X66 l66 y66 z66 st66 hQ66
          subst l66 y66 z66
          obtain ⟨rfl, N66q, hE66⟩ := hQ66
          have N66 := Fr.app N63 N66q
          have pre67 : ∀ t, Steps p.tables e below (T66.setTop (mkF m 267 #[.val (.int pa), .val (.int pb), .val (.int pc_), .val (.long w1), .second, .val (.long w2), .second, .val (.int pd), .val (.int xx), .val (.int yy), .val (.int zz), .val (.int nn), .val (.int ip), .val (.int ia), .val (.int ib), .val (.int ic), .val (.ref aw), .val (.ref ol)] [(.int (XT.cmpL (ft kp) (fn6 ip xx yy zz nn ia ib ip w1 w2)))])) t → Steps p.tables e below (s₁.setTop (entryFrame m #[(.int pa), (.int pb), (.int pc_), (.long w1), (.long w2), (.int pd)] maxLocals)) t := by
            intro t kt
            refine pre64 _ ?_
            show Steps p.tables e below (T63.setTop (mkF m 236 #[.val (.int pa), .val (.int pb), .val (.int pc_), .val (.long w1), .second, .val (.long w2), .second, .val (.int pd), .val (.int xx), .val (.int yy), .val (.int zz), .val (.int nn), .val (.int ip), .val (.int ia), .val (.int ib), .val (.int ic), .val (.ref aw), .val (.ref ol)] [(.int (XT.cmpL (ft (own_kx zz)) (fn6 ic xx yy zz nn ia ib ip w1 w2)))])) _
            refine XS.ifNo X63.here hx rfl (hb hby at_236) rfl (XT.ll_ne_f hc236_65) ?_
            show Steps p.tables e below (T63.setTop (mkF m 239 #[.val (.int pa), .val (.int pb), .val (.int pc_), .val (.long w1), .second, .val (.long w2), .second, .val (.int pd), .val (.int xx), .val (.int yy), .val (.int zz), .val (.int nn), .val (.int ip), .val (.int ia), .val (.int ib), .val (.int ic), .val (.ref aw), .val (.ref ol)] [])) _
            refine XS.aload X63.here hx rfl (hb hby at_239) rfl rfl ?_
            show Steps p.tables e below (T63.setTop (mkF m 241 #[.val (.int pa), .val (.int pb), .val (.int pc_), .val (.long w1), .second, .val (.long w2), .second, .val (.int pd), .val (.int xx), .val (.int yy), .val (.int zz), .val (.int nn), .val (.int ip), .val (.int ia), .val (.int ib), .val (.int ic), .val (.ref aw), .val (.ref ol)] [(.ref aw)])) _
            refine XS.iload X63.here hx rfl (hb hby at_241) rfl ?_
            show Steps p.tables e below (T63.setTop (mkF m 243 #[.val (.int pa), .val (.int pb), .val (.int pc_), .val (.long w1), .second, .val (.long w2), .second, .val (.int pd), .val (.int xx), .val (.int yy), .val (.int zz), .val (.int nn), .val (.int ip), .val (.int ia), .val (.int ib), .val (.int ic), .val (.ref aw), .val (.ref ol)] [(.int ip), (.ref aw)])) _
            refine owLdJ (k := kp) X63 hx hZ hE63 p49_0 (j := ip) h_kp h_kp2 (g := (mkF m 243 #[.val (.int pa), .val (.int pb), .val (.int pc_), .val (.long w1), .second, .val (.long w2), .second, .val (.int pd), .val (.int xx), .val (.int yy), .val (.int zz), .val (.int nn), .val (.int ip), .val (.int ia), .val (.int ib), .val (.int ic), .val (.ref aw), .val (.ref ol)] [(.int ip), (.ref aw)])) rfl rfl (hb hby at_243) _ ?_
            show Steps p.tables e below (T63.setTop (mkF m 244 #[.val (.int pa), .val (.int pb), .val (.int pc_), .val (.long w1), .second, .val (.long w2), .second, .val (.int pd), .val (.int xx), .val (.int yy), .val (.int zz), .val (.int nn), .val (.int ip), .val (.int ia), .val (.int ib), .val (.int ic), .val (.ref aw), .val (.ref ol)] [(.long (ft kp))])) _
            refine XS.iload X63.here hx rfl (hb hby at_244) rfl ?_
            show Steps p.tables e below (T63.setTop (mkF m 246 #[.val (.int pa), .val (.int pb), .val (.int pc_), .val (.long w1), .second, .val (.long w2), .second, .val (.int pd), .val (.int xx), .val (.int yy), .val (.int zz), .val (.int nn), .val (.int ip), .val (.int ia), .val (.int ib), .val (.int ic), .val (.ref aw), .val (.ref ol)] [(.int ip), (.long (ft kp))])) _
            refine XS.iload X63.here hx rfl (hb hby at_246) rfl ?_
            show Steps p.tables e below (T63.setTop (mkF m 248 #[.val (.int pa), .val (.int pb), .val (.int pc_), .val (.long w1), .second, .val (.long w2), .second, .val (.int pd), .val (.int xx), .val (.int yy), .val (.int zz), .val (.int nn), .val (.int ip), .val (.int ia), .val (.int ib), .val (.int ic), .val (.ref aw), .val (.ref ol)] [(.int xx), (.int ip), (.long (ft kp))])) _
            refine XS.iload X63.here hx rfl (hb hby at_248) rfl ?_
            show Steps p.tables e below (T63.setTop (mkF m 250 #[.val (.int pa), .val (.int pb), .val (.int pc_), .val (.long w1), .second, .val (.long w2), .second, .val (.int pd), .val (.int xx), .val (.int yy), .val (.int zz), .val (.int nn), .val (.int ip), .val (.int ia), .val (.int ib), .val (.int ic), .val (.ref aw), .val (.ref ol)] [(.int yy), (.int xx), (.int ip), (.long (ft kp))])) _
            refine XS.iload X63.here hx rfl (hb hby at_250) rfl ?_
            show Steps p.tables e below (T63.setTop (mkF m 252 #[.val (.int pa), .val (.int pb), .val (.int pc_), .val (.long w1), .second, .val (.long w2), .second, .val (.int pd), .val (.int xx), .val (.int yy), .val (.int zz), .val (.int nn), .val (.int ip), .val (.int ia), .val (.int ib), .val (.int ic), .val (.ref aw), .val (.ref ol)] [(.int zz), (.int yy), (.int xx), (.int ip), (.long (ft kp))])) _
            refine XS.iload X63.here hx rfl (hb hby at_252) rfl ?_
            show Steps p.tables e below (T63.setTop (mkF m 254 #[.val (.int pa), .val (.int pb), .val (.int pc_), .val (.long w1), .second, .val (.long w2), .second, .val (.int pd), .val (.int xx), .val (.int yy), .val (.int zz), .val (.int nn), .val (.int ip), .val (.int ia), .val (.int ib), .val (.int ic), .val (.ref aw), .val (.ref ol)] [(.int nn), (.int zz), (.int yy), (.int xx), (.int ip), (.long (ft kp))])) _
            refine XS.iload X63.here hx rfl (hb hby at_254) rfl ?_
            show Steps p.tables e below (T63.setTop (mkF m 256 #[.val (.int pa), .val (.int pb), .val (.int pc_), .val (.long w1), .second, .val (.long w2), .second, .val (.int pd), .val (.int xx), .val (.int yy), .val (.int zz), .val (.int nn), .val (.int ip), .val (.int ia), .val (.int ib), .val (.int ic), .val (.ref aw), .val (.ref ol)] [(.int ia), (.int nn), (.int zz), (.int yy), (.int xx), (.int ip), (.long (ft kp))])) _
            refine XS.iload X63.here hx rfl (hb hby at_256) rfl ?_
            show Steps p.tables e below (T63.setTop (mkF m 258 #[.val (.int pa), .val (.int pb), .val (.int pc_), .val (.long w1), .second, .val (.long w2), .second, .val (.int pd), .val (.int xx), .val (.int yy), .val (.int zz), .val (.int nn), .val (.int ip), .val (.int ia), .val (.int ib), .val (.int ic), .val (.ref aw), .val (.ref ol)] [(.int ib), (.int ia), (.int nn), (.int zz), (.int yy), (.int xx), (.int ip), (.long (ft kp))])) _
            refine XS.iload X63.here hx rfl (hb hby at_258) rfl ?_
            show Steps p.tables e below (T63.setTop (mkF m 260 #[.val (.int pa), .val (.int pb), .val (.int pc_), .val (.long w1), .second, .val (.long w2), .second, .val (.int pd), .val (.int xx), .val (.int yy), .val (.int zz), .val (.int nn), .val (.int ip), .val (.int ia), .val (.int ib), .val (.int ic), .val (.ref aw), .val (.ref ol)] [(.int ip), (.int ib), (.int ia), (.int nn), (.int zz), (.int yy), (.int xx), (.int ip), (.long (ft kp))])) _
            refine XS.lloadN X63.here hx rfl (hb hby at_260) rfl ?_
            show Steps p.tables e below (T63.setTop (mkF m 261 #[.val (.int pa), .val (.int pb), .val (.int pc_), .val (.long w1), .second, .val (.long w2), .second, .val (.int pd), .val (.int xx), .val (.int yy), .val (.int zz), .val (.int nn), .val (.int ip), .val (.int ia), .val (.int ib), .val (.int ic), .val (.ref aw), .val (.ref ol)] [(.long w1), (.int ip), (.int ib), (.int ia), (.int nn), (.int zz), (.int yy), (.int xx), (.int ip), (.long (ft kp))])) _
            refine XS.lload X63.here hx rfl (hb hby at_261) rfl ?_
            show Steps p.tables e below (T63.setTop (mkF m 263 #[.val (.int pa), .val (.int pb), .val (.int pc_), .val (.long w1), .second, .val (.long w2), .second, .val (.int pd), .val (.int xx), .val (.int yy), .val (.int zz), .val (.int nn), .val (.int ip), .val (.int ia), .val (.int ib), .val (.int ic), .val (.ref aw), .val (.ref ol)] [(.long w2), (.long w1), (.int ip), (.int ib), (.int ia), (.int nn), (.int zz), (.int yy), (.int xx), (.int ip), (.long (ft kp))])) _
            refine st66 _ ?_
            show Steps p.tables e below (T66.setTop (mkF m 266 #[.val (.int pa), .val (.int pb), .val (.int pc_), .val (.long w1), .second, .val (.long w2), .second, .val (.int pd), .val (.int xx), .val (.int yy), .val (.int zz), .val (.int nn), .val (.int ip), .val (.int ia), .val (.int ib), .val (.int ic), .val (.ref aw), .val (.ref ol)] [(.long (fn6 ip xx yy zz nn ia ib ip w1 w2)), (.long (ft kp))])) _
            refine XT.lcmp X66.here hx rfl (hb hby at_266) rfl ?_
            exact kt
          by_cases hc267_68 : (ft kp) = (fn6 ip xx yy zz nn ia ib ip w1 w2)
          · skip
            have pre69 : ∀ t, Steps p.tables e below (T66.setTop (mkF m 275 #[.val (.int pa), .val (.int pb), .val (.int pc_), .val (.long w1), .second, .val (.long w2), .second, .val (.int pd), .val (.int xx), .val (.int yy), .val (.int zz), .val (.int nn), .val (.int ip), .val (.int ia), .val (.int ib), .val (.int ic), .val (.ref aw), .val (.ref ol)] [(.int (1 : Int32))])) t → Steps p.tables e below (s₁.setTop (entryFrame m #[(.int pa), (.int pb), (.int pc_), (.long w1), (.long w2), (.int pd)] maxLocals)) t := by
              intro t kt
              refine pre67 _ ?_
              show Steps p.tables e below (T66.setTop (mkF m 267 #[.val (.int pa), .val (.int pb), .val (.int pc_), .val (.long w1), .second, .val (.long w2), .second, .val (.int pd), .val (.int xx), .val (.int yy), .val (.int zz), .val (.int nn), .val (.int ip), .val (.int ia), .val (.int ib), .val (.int ic), .val (.ref aw), .val (.ref ol)] [(.int (XT.cmpL (ft kp) (fn6 ip xx yy zz nn ia ib ip w1 w2)))])) _
              refine XS.ifNo X66.here hx rfl (hb hby at_267) rfl (XT.ll_ne_f hc267_68) ?_
              show Steps p.tables e below (T66.setTop (mkF m 270 #[.val (.int pa), .val (.int pb), .val (.int pc_), .val (.long w1), .second, .val (.long w2), .second, .val (.int pd), .val (.int xx), .val (.int yy), .val (.int zz), .val (.int nn), .val (.int ip), .val (.int ia), .val (.int ib), .val (.int ic), .val (.ref aw), .val (.ref ol)] [])) _
              refine XS.iconst X66.here hx rfl (hb hby at_270) ?_
              show Steps p.tables e below (T66.setTop (mkF m 271 #[.val (.int pa), .val (.int pb), .val (.int pc_), .val (.long w1), .second, .val (.long w2), .second, .val (.int pd), .val (.int xx), .val (.int yy), .val (.int zz), .val (.int nn), .val (.int ip), .val (.int ia), .val (.int ib), .val (.int ic), .val (.ref aw), .val (.ref ol)] [(.int (1 : Int32))])) _
              refine XS.goto X66.here hx rfl (pc0 := 271) (pc' := 275) rfl (hb hby at_271) (by decide) (by decide) ?_
              exact kt
            obtain ⟨fs, hr, hrun, hended, hW, hsame⟩ := X66.leave (v := some (.int (1 : Int32))) (fun h => by rw [Bd.returns] at h; cases h)
            refine ⟨_, _, pre69 _ ?_, hrun, hended, _, _, rfl, ?_, ⟨_, rfl⟩, hW, hsame.mono (by decide) (by decide)⟩
            · show Steps p.tables e below (T66.setTop (mkF m 275 #[.val (.int pa), .val (.int pb), .val (.int pc_), .val (.long w1), .second, .val (.long w2), .second, .val (.int pd), .val (.int xx), .val (.int yy), .val (.int zz), .val (.int nn), .val (.int ip), .val (.int ia), .val (.int ib), .val (.int ic), .val (.ref aw), .val (.ref ol)] [(.int (1 : Int32))])) _
              exact retN X66 hx (t := .boolean) Bd.returns (by simp) (hb hby at_275) hr
            · show Q0 Z pa pb pc_ w1 w2 pd an ar h0 n0 _ T66.heap _
              rw [hE66]
              exact ⟨rfl, N66⟩
          · skip
            exact absurd (own_law xx yy zz nn ia ib ip ip w1 w2 fz (fun _ => 0) (0 : Int32) 0 (own_kx xx) (own_kx yy) kp kp ft h_ft h_fz h_kp h_ka h_kb h_kp rfl (by decide) hxx hy hz hset) hc267_68
        · skip
          exact absurd (own_law xx yy zz nn ia ib ip ic w1 w2 fz (fun _ => 0) (0 : Int32) 0 (own_kx xx) (own_kx yy) kp (own_kx zz) ft h_ft h_fz h_kc h_ka h_kb h_kp rfl (by decide) hxx hy hz hset) hc236_65
      · skip
        exact absurd (own_law xx yy zz nn ia ib ip ib w1 w2 fz (fun _ => 0) (0 : Int32) 0 (own_kx xx) (own_kx yy) kp (own_kx yy) ft h_ft h_fz h_kb h_ka h_kb h_kp rfl (by decide) hxx hy hz hset) hc205_62
    · skip
      exact absurd (own_law xx yy zz nn ia ib ip ia w1 w2 fz (fun _ => 0) (0 : Int32) 0 (own_kx xx) (own_kx yy) kp (own_kx xx) ft h_ft h_fz h_ka h_ka h_kb h_kp rfl (by decide) hxx hy hz hset) hc174_59
  · skip
    obtain ⟨cq70, kq70, q70a, q70b, q70c⟩ := isOf hZ rfl p39_0
    obtain ⟨_, _, ⟨T70, L70, k70, n70⟩, -, X70, ⟨Lc70, hQ70, l70, y70, z70⟩, st70⟩ := X39.virtualBack hx (y := (⟨"com/example/bitweight/bitweight/chunk/ArrayChunk", "add", "(C)Lcom/example/bitweight/bitweight/chunk/Chunk;"⟩ : MethodName)) (z := (⟨"com/example/bitweight/bitweight/chunk/ArrayChunk", "add", "(C)Lcom/example/bitweight/bitweight/chunk/Chunk;"⟩ : MethodName)) hown (mvT hZ (hw _ (List.mem_of_getElem? (i := 42) rfl))) (mvT hZ (hw _ (List.mem_of_getElem? (i := 43) rfl))) (notFace_of_selects (args := #[]) (mvT hZ (hw _ (List.mem_of_getElem? (i := 45) rfl)))) (mvT hZ (hw _ (List.mem_of_getElem? (i := 45) rfl))) (mvT hZ (hw _ (List.mem_of_getElem? (i := 44) rfl))) (by decide) (backOf (W := 0) (rm9a l Z a0 hw [] ol (xx.toUInt32.toUInt16.toUInt32.toInt32) an ar (0 : Int32) T39.heap n0 Z46 p39_0 p39_1 p39_2 p39_3 (A_an.ext f40.2) (S_room.ext f40.2) (E_ar.ext f40.2) (R_least.ext f40.2) (R_shift.ext f40.2) (R_most.ext f40.2) g_ol (own_chr _) nol_r nol_n) hZ (hw _ (List.mem_of_getElem? (i := 46) rfl)) (hw _ (List.mem_of_getElem? (i := 4) rfl)) (by decide) (by decide)) q70a q70c (g := (mkF m 105 #[.val (.int pa), .val (.int pb), .val (.int pc_), .val (.long w1), .second, .val (.long w2), .second, .val (.int pd), .val (.int xx), .val (.int yy), .val (.int zz), .val (.int nn), .val (.int ip), .val (.int ia), .val (.int ib), .val (.int ic), .val (.ref aw), .val (.ref ol)] [(.int (xx.toUInt32.toUInt16.toUInt32.toInt32)), (.ref ol)])) rfl (by rw [hml]; rfl) (Steps.refl _) (argsL := [(.int (xx.toUInt32.toUInt16.toUInt32.toInt32))]) (rest := []) (lenOf pd_13 rfl) rfl (by show 2 * 0 + _ ≤ _; exact Nat.le_of_eq rfl) (hb hby at_105) (fun _ _ => ⟨rfl, rfl, (by decide : 2 + 1 ≤ _), (by decide : 1027 + 4 ≤ _)⟩)
    dsimp only [Pt.U, Pt.locs, Pt.cells, Pt.slots] at X70 l70 y70 z70 st70 hQ70
    subst l70 y70 z70
    obtain ⟨bn, rn, rfl, N70q, K70, h_bn, p70_E, p70_v, p70_c, p70_r, p70_A⟩ := hQ70
    have N70 := Fr.app N39 N70q
    have ne_aw_bn : aw ≠ bn := Nat.ne_of_lt (Nat.lt_of_lt_of_le f41.lt h_bn)
    have ne_ol_bn : ol ≠ bn := Nat.ne_of_lt (Nat.lt_of_lt_of_le p39_0.lt h_bn)
    have g_bn : n0 ≤ bn := Nat.le_trans Z46 h_bn
    have f71 := f40.keep K70 (allS g_ol all0)
    have f72 := f41.keep K70 (ninS ne_aw_ol nin0)
    have f73 := p39_0.keep K70
    have Z77 := Nat.le_trans Z46 K70.1
    have nbn_n : bn ≠ an := Ne.symm (f71.ne A_an.lt g_bn)
    have pre78 : ∀ t, Steps p.tables e below (T70.setTop (mkF m 112 #[.val (.int pa), .val (.int pb), .val (.int pc_), .val (.long w1), .second, .val (.long w2), .second, .val (.int pd), .val (.int xx), .val (.int yy), .val (.int zz), .val (.int nn), .val (.int ip), .val (.int ia), .val (.int ib), .val (.int ic), .val (.ref aw), .val (.ref ol)] [(.int (2 : Int32)), (.int nn)])) t → Steps p.tables e below (s₁.setTop (entryFrame m #[(.int pa), (.int pb), (.int pc_), (.long w1), (.long w2), (.int pd)] maxLocals)) t := by
      intro t kt
      refine pre47 _ ?_
      show Steps p.tables e below (T39.setTop (mkF m 97 #[.val (.int pa), .val (.int pb), .val (.int pc_), .val (.long w1), .second, .val (.long w2), .second, .val (.int pd), .val (.int xx), .val (.int yy), .val (.int zz), .val (.int nn), .val (.int ip), .val (.int ia), .val (.int ib), .val (.int ic), .val (.ref aw), .val (.ref ol)] [(.int (1 : Int32)), (.int nn)])) _
      refine XS.icmpNo X39.here hx rfl (hb hby at_97) rfl (XT.ii_lt_f hc97_48) ?_
      show Steps p.tables e below (T39.setTop (mkF m 100 #[.val (.int pa), .val (.int pb), .val (.int pc_), .val (.long w1), .second, .val (.long w2), .second, .val (.int pd), .val (.int xx), .val (.int yy), .val (.int zz), .val (.int nn), .val (.int ip), .val (.int ia), .val (.int ib), .val (.int ic), .val (.ref aw), .val (.ref ol)] [])) _
      refine XS.aload X39.here hx rfl (hb hby at_100) rfl rfl ?_
      show Steps p.tables e below (T39.setTop (mkF m 102 #[.val (.int pa), .val (.int pb), .val (.int pc_), .val (.long w1), .second, .val (.long w2), .second, .val (.int pd), .val (.int xx), .val (.int yy), .val (.int zz), .val (.int nn), .val (.int ip), .val (.int ia), .val (.int ib), .val (.int ic), .val (.ref aw), .val (.ref ol)] [(.ref ol)])) _
      refine XS.iload X39.here hx rfl (hb hby at_102) rfl ?_
      show Steps p.tables e below (T39.setTop (mkF m 104 #[.val (.int pa), .val (.int pb), .val (.int pc_), .val (.long w1), .second, .val (.long w2), .second, .val (.int pd), .val (.int xx), .val (.int yy), .val (.int zz), .val (.int nn), .val (.int ip), .val (.int ia), .val (.int ib), .val (.int ic), .val (.ref aw), .val (.ref ol)] [(.int xx), (.ref ol)])) _
      refine XS.i2c X39.here hx rfl (hb hby at_104) rfl ?_
      show Steps p.tables e below (T39.setTop (mkF m 105 #[.val (.int pa), .val (.int pb), .val (.int pc_), .val (.long w1), .second, .val (.long w2), .second, .val (.int pd), .val (.int xx), .val (.int yy), .val (.int zz), .val (.int nn), .val (.int ip), .val (.int ia), .val (.int ib), .val (.int ic), .val (.ref aw), .val (.ref ol)] [(.int (xx.toUInt32.toUInt16.toUInt32.toInt32)), (.ref ol)])) _
      refine st70.trans ?_
      show Steps p.tables e below (T70.setTop (mkF m 108 #[.val (.int pa), .val (.int pb), .val (.int pc_), .val (.long w1), .second, .val (.long w2), .second, .val (.int pd), .val (.int xx), .val (.int yy), .val (.int zz), .val (.int nn), .val (.int ip), .val (.int ia), .val (.int ib), .val (.int ic), .val (.ref aw), .val (.ref ol)] [(.ref ol)])) _
      refine XS.pop X70.here hx rfl (hb hby at_108) rfl rfl ?_
      show Steps p.tables e below (T70.setTop (mkF m 109 #[.val (.int pa), .val (.int pb), .val (.int pc_), .val (.long w1), .second, .val (.long w2), .second, .val (.int pd), .val (.int xx), .val (.int yy), .val (.int zz), .val (.int nn), .val (.int ip), .val (.int ia), .val (.int ib), .val (.int ic), .val (.ref aw), .val (.ref ol)] [])) _
      refine XS.iload X70.here hx rfl (hb hby at_109) rfl ?_
      show Steps p.tables e below (T70.setTop (mkF m 111 #[.val (.int pa), .val (.int pb), .val (.int pc_), .val (.long w1), .second, .val (.long w2), .second, .val (.int pd), .val (.int xx), .val (.int yy), .val (.int zz), .val (.int nn), .val (.int ip), .val (.int ia), .val (.int ib), .val (.int ic), .val (.ref aw), .val (.ref ol)] [(.int nn)])) _
      refine XS.iconst X70.here hx rfl (hb hby at_111) ?_
      exact kt
    by_cases hc112_79 : nn < (2 : Int32)
    · skip
      obtain ⟨cq80, kq80, q80a, q80b, q80c⟩ := isOf hZ rfl p70_E
      obtain ⟨_, _, ⟨T80, L80, k80, n80⟩, -, X80, ⟨Lc80, hQ80, l80, y80, z80⟩, st80⟩ := X70.virtualBack hx (y := (⟨"com/example/bitweight/bitweight/chunk/ArrayChunk", "orInto", "([J)V"⟩ : MethodName)) (z := (⟨"com/example/bitweight/bitweight/chunk/ArrayChunk", "orInto", "([J)V"⟩ : MethodName)) hown (mvT hZ (hw _ (List.mem_of_getElem? (i := 27) rfl))) (mvT hZ (hw _ (List.mem_of_getElem? (i := 28) rfl))) (notFace_of_selects (args := #[]) (mvT hZ (hw _ (List.mem_of_getElem? (i := 30) rfl)))) (mvT hZ (hw _ (List.mem_of_getElem? (i := 30) rfl))) (mvT hZ (hw _ (List.mem_of_getElem? (i := 29) rfl))) (by decide) (backOf (W := 0) (rm5 l Z a0 hw [] ol aw bn (1 : Int32) (owUp (fun _ => 0) 0 (xx.toUInt32.toUInt16.toUInt32.toInt32)) fz T70.heap n0 Z77 p70_v p70_c (Or.inr p70_A) f72 g_aw (Ne.symm ne_aw_ol) (Ne.symm ne_aw_bn) (own_ok1 (own_chr _)).1 (by decide)) hZ (hw _ (List.mem_of_getElem? (i := 31) rfl)) (hw _ (List.mem_of_getElem? (i := 4) rfl)) (by decide) (by decide)) q80a q80c (g := (mkF m 143 #[.val (.int pa), .val (.int pb), .val (.int pc_), .val (.long w1), .second, .val (.long w2), .second, .val (.int pd), .val (.int xx), .val (.int yy), .val (.int zz), .val (.int nn), .val (.int ip), .val (.int ia), .val (.int ib), .val (.int ic), .val (.ref aw), .val (.ref ol)] [(.ref aw), (.ref ol)])) rfl (by rw [hml]; rfl) (Steps.refl _) (argsL := [(.ref aw)]) (rest := []) (lenOf pd_11 rfl) rfl (by show 2 * 0 + _ ≤ _; exact Nat.le_of_eq rfl) (hb hby at_143) (fun _ _ => ⟨rfl, rfl, (by decide : 3 + 0 ≤ _), (by decide : 1031 + 0 ≤ _)⟩)
      dsimp only [Pt.U, Pt.locs, Pt.cells, Pt.slots] at X80 l80 y80 z80 st80 hQ80
      subst l80 y80 z80
      obtain ⟨rfl, N80q, K80, p80_0⟩ := hQ80
      have N80 := Fr.app N70 N80q
      have f81 := f71.keep K80 (allS g_aw all0)
      have f83 := p70_E.keep K80
      have f84 := p70_v.keep K80 (ninS (Ne.symm ne_aw_ol) nin0)
      have f85 := p70_c.keep K80 (ninS (Ne.symm ne_aw_ol) nin0)
      have f86 := p70_r.keep K80 (ninS (Ne.symm ne_aw_ol) nin0)
      have f87 := p70_A.keep K80 (ninS (Ne.symm ne_aw_bn) nin0)
      have Z88 := Nat.le_trans Z77 K80.1
      obtain ⟨ft, h_ft⟩ : ∃ g : Nat → Int64, g = (orf (1 : Int32) (owUp (fun _ => 0) 0 (xx.toUInt32.toUInt16.toUInt32.toInt32)) fz) := ⟨_, rfl⟩
      rw [← h_ft] at p80_0
      have hn1 : ¬ (nn < (1 : Int32)) := hc97_48
      have hn2 : (nn < (2 : Int32)) := hc112_79
      have hn3 : nn < (3 : Int32) := by have q := hc112_79; rw [Int32.lt_iff_toInt_lt] at q ⊢; have o1 : (1 : Int32).toInt = 1 := rfl; have o2 : (2 : Int32).toInt = 2 := rfl; have o3 : (3 : Int32).toInt = 3 := rfl; omega
      have hset : ∀ v, own_mem (owUp (fun _ => 0) 0 (xx.toUInt32.toUInt16.toUInt32.toInt32)) 1 v ↔ ((¬ nn < (1 : Int32) ∧ v = xx) ∨ (¬ nn < (2 : Int32) ∧ v = yy) ∨ (¬ nn < (3 : Int32) ∧ v = zz)) := by
        intro v
        rw [own_mem1, own_nc hxx]
        simp [hn1, hn2, hn3]
      obtain ⟨_, _, ⟨T89, L89, k89, n89⟩, -, X89, ⟨Lc89, hQ89, l89, y89, z89⟩, st89⟩ := Jvm.LawKit.callS X80 hx (y := (⟨"com/example/bitweight/bitweight/chunk/ArrayChunkOrIntoPinLaw", "expected", "(IIIIIIIIJJ)J"⟩ : MethodName)) hown (mvT hZ (hw _ (List.mem_of_getElem? (i := 32) rfl))) (mvT hZ (hw _ (List.mem_of_getElem? (i := 33) rfl))) (mvT hZ (hw _ (List.mem_of_getElem? (i := 34) rfl))) (mvT hZ (hw _ (List.mem_of_getElem? (i := 35) rfl))) (by decide) (backOf (W := 2) (rm6 l Z a0 hw [] ia xx yy zz nn ia ib ip w1 w2 T80.heap n0 Z88) hZ (hw _ (List.mem_of_getElem? (i := 35) rfl)) (hw _ (List.mem_of_getElem? (i := 34) rfl)) (by decide) (by decide)) (g := (mkF m 170 #[.val (.int pa), .val (.int pb), .val (.int pc_), .val (.long w1), .second, .val (.long w2), .second, .val (.int pd), .val (.int xx), .val (.int yy), .val (.int zz), .val (.int nn), .val (.int ip), .val (.int ia), .val (.int ib), .val (.int ic), .val (.ref aw), .val (.ref ol)] [(.long w2), (.long w1), (.int ip), (.int ib), (.int ia), (.int nn), (.int zz), (.int yy), (.int xx), (.int ia), (.long (ft (own_kx xx)))])) rfl (by rw [hml]; rfl) (argsL := [(.int ia), (.int xx), (.int yy), (.int zz), (.int nn), (.int ia), (.int ib), (.int ip), (.long w1), (.long w2)]) (rest := [(.long (ft (own_kx xx)))]) (lenOf pd_12 rfl) rfl (by show 2 * 0 + _ ≤ _; exact Nat.le_of_eq rfl) (hb hby at_170) (fun _ _ => ⟨rfl, rfl, (by decide : 3 + 0 ≤ _), (by decide : 1031 + 0 ≤ _)⟩)
      dsimp only [Pt.U, Pt.locs, Pt.cells, Pt.slots] at X89 l89 y89 z89 st89 hQ89
      subst l89 y89 z89
      obtain ⟨rfl, N89q, hE89⟩ := hQ89
      have N89 := Fr.app N80 N89q
      have pre90 : ∀ t, Steps p.tables e below (T89.setTop (mkF m 174 #[.val (.int pa), .val (.int pb), .val (.int pc_), .val (.long w1), .second, .val (.long w2), .second, .val (.int pd), .val (.int xx), .val (.int yy), .val (.int zz), .val (.int nn), .val (.int ip), .val (.int ia), .val (.int ib), .val (.int ic), .val (.ref aw), .val (.ref ol)] [(.int (XT.cmpL (ft (own_kx xx)) (fn6 ia xx yy zz nn ia ib ip w1 w2)))])) t → Steps p.tables e below (s₁.setTop (entryFrame m #[(.int pa), (.int pb), (.int pc_), (.long w1), (.long w2), (.int pd)] maxLocals)) t := by
        intro t kt
        refine pre78 _ ?_
        show Steps p.tables e below (T70.setTop (mkF m 112 #[.val (.int pa), .val (.int pb), .val (.int pc_), .val (.long w1), .second, .val (.long w2), .second, .val (.int pd), .val (.int xx), .val (.int yy), .val (.int zz), .val (.int nn), .val (.int ip), .val (.int ia), .val (.int ib), .val (.int ic), .val (.ref aw), .val (.ref ol)] [(.int (2 : Int32)), (.int nn)])) _
        refine XS.icmpYes X70.here hx rfl (pc0 := 112) (pc' := 124) rfl (hb hby at_112) rfl (XT.ii_lt_t hc112_79) (by decide) (by decide) ?_
        show Steps p.tables e below (T70.setTop (mkF m 124 #[.val (.int pa), .val (.int pb), .val (.int pc_), .val (.long w1), .second, .val (.long w2), .second, .val (.int pd), .val (.int xx), .val (.int yy), .val (.int zz), .val (.int nn), .val (.int ip), .val (.int ia), .val (.int ib), .val (.int ic), .val (.ref aw), .val (.ref ol)] [])) _
        refine XS.iload X70.here hx rfl (hb hby at_124) rfl ?_
        show Steps p.tables e below (T70.setTop (mkF m 126 #[.val (.int pa), .val (.int pb), .val (.int pc_), .val (.long w1), .second, .val (.long w2), .second, .val (.int pd), .val (.int xx), .val (.int yy), .val (.int zz), .val (.int nn), .val (.int ip), .val (.int ia), .val (.int ib), .val (.int ic), .val (.ref aw), .val (.ref ol)] [(.int nn)])) _
        refine XS.iconst X70.here hx rfl (hb hby at_126) ?_
        show Steps p.tables e below (T70.setTop (mkF m 127 #[.val (.int pa), .val (.int pb), .val (.int pc_), .val (.long w1), .second, .val (.long w2), .second, .val (.int pd), .val (.int xx), .val (.int yy), .val (.int zz), .val (.int nn), .val (.int ip), .val (.int ia), .val (.int ib), .val (.int ic), .val (.ref aw), .val (.ref ol)] [(.int (3 : Int32)), (.int nn)])) _
        refine XS.icmpYes X70.here hx rfl (pc0 := 127) (pc' := 139) rfl (hb hby at_127) rfl (XT.ii_lt_t (by have q0 := hc97_48; have q1 := hc112_79; have l0 : (1 : Int32).toInt = 1 := rfl; have l1 : (2 : Int32).toInt = 2 := rfl; have l2 : (3 : Int32).toInt = 3 := rfl; simp only [Int32.lt_iff_toInt_lt, ← Int32.toInt_inj] at q0 q1 ⊢; omega)) (by decide) (by decide) ?_
        show Steps p.tables e below (T70.setTop (mkF m 139 #[.val (.int pa), .val (.int pb), .val (.int pc_), .val (.long w1), .second, .val (.long w2), .second, .val (.int pd), .val (.int xx), .val (.int yy), .val (.int zz), .val (.int nn), .val (.int ip), .val (.int ia), .val (.int ib), .val (.int ic), .val (.ref aw), .val (.ref ol)] [])) _
        refine XS.aload X70.here hx rfl (hb hby at_139) rfl rfl ?_
        show Steps p.tables e below (T70.setTop (mkF m 141 #[.val (.int pa), .val (.int pb), .val (.int pc_), .val (.long w1), .second, .val (.long w2), .second, .val (.int pd), .val (.int xx), .val (.int yy), .val (.int zz), .val (.int nn), .val (.int ip), .val (.int ia), .val (.int ib), .val (.int ic), .val (.ref aw), .val (.ref ol)] [(.ref ol)])) _
        refine XS.aload X70.here hx rfl (hb hby at_141) rfl rfl ?_
        show Steps p.tables e below (T70.setTop (mkF m 143 #[.val (.int pa), .val (.int pb), .val (.int pc_), .val (.long w1), .second, .val (.long w2), .second, .val (.int pd), .val (.int xx), .val (.int yy), .val (.int zz), .val (.int nn), .val (.int ip), .val (.int ia), .val (.int ib), .val (.int ic), .val (.ref aw), .val (.ref ol)] [(.ref aw), (.ref ol)])) _
        refine st80.trans ?_
        show Steps p.tables e below (T80.setTop (mkF m 146 #[.val (.int pa), .val (.int pb), .val (.int pc_), .val (.long w1), .second, .val (.long w2), .second, .val (.int pd), .val (.int xx), .val (.int yy), .val (.int zz), .val (.int nn), .val (.int ip), .val (.int ia), .val (.int ib), .val (.int ic), .val (.ref aw), .val (.ref ol)] [])) _
        refine XS.aload X80.here hx rfl (hb hby at_146) rfl rfl ?_
        show Steps p.tables e below (T80.setTop (mkF m 148 #[.val (.int pa), .val (.int pb), .val (.int pc_), .val (.long w1), .second, .val (.long w2), .second, .val (.int pd), .val (.int xx), .val (.int yy), .val (.int zz), .val (.int nn), .val (.int ip), .val (.int ia), .val (.int ib), .val (.int ic), .val (.ref aw), .val (.ref ol)] [(.ref aw)])) _
        refine XS.iload X80.here hx rfl (hb hby at_148) rfl ?_
        show Steps p.tables e below (T80.setTop (mkF m 150 #[.val (.int pa), .val (.int pb), .val (.int pc_), .val (.long w1), .second, .val (.long w2), .second, .val (.int pd), .val (.int xx), .val (.int yy), .val (.int zz), .val (.int nn), .val (.int ip), .val (.int ia), .val (.int ib), .val (.int ic), .val (.ref aw), .val (.ref ol)] [(.int ia), (.ref aw)])) _
        refine owLdJ (k := (own_kx xx)) X80 hx hZ rfl p80_0 (j := ia) h_ka (own_kx2 hxx) (g := (mkF m 150 #[.val (.int pa), .val (.int pb), .val (.int pc_), .val (.long w1), .second, .val (.long w2), .second, .val (.int pd), .val (.int xx), .val (.int yy), .val (.int zz), .val (.int nn), .val (.int ip), .val (.int ia), .val (.int ib), .val (.int ic), .val (.ref aw), .val (.ref ol)] [(.int ia), (.ref aw)])) rfl rfl (hb hby at_150) _ ?_
        show Steps p.tables e below (T80.setTop (mkF m 151 #[.val (.int pa), .val (.int pb), .val (.int pc_), .val (.long w1), .second, .val (.long w2), .second, .val (.int pd), .val (.int xx), .val (.int yy), .val (.int zz), .val (.int nn), .val (.int ip), .val (.int ia), .val (.int ib), .val (.int ic), .val (.ref aw), .val (.ref ol)] [(.long (ft (own_kx xx)))])) _
        refine XS.iload X80.here hx rfl (hb hby at_151) rfl ?_
        show Steps p.tables e below (T80.setTop (mkF m 153 #[.val (.int pa), .val (.int pb), .val (.int pc_), .val (.long w1), .second, .val (.long w2), .second, .val (.int pd), .val (.int xx), .val (.int yy), .val (.int zz), .val (.int nn), .val (.int ip), .val (.int ia), .val (.int ib), .val (.int ic), .val (.ref aw), .val (.ref ol)] [(.int ia), (.long (ft (own_kx xx)))])) _
        refine XS.iload X80.here hx rfl (hb hby at_153) rfl ?_
        show Steps p.tables e below (T80.setTop (mkF m 155 #[.val (.int pa), .val (.int pb), .val (.int pc_), .val (.long w1), .second, .val (.long w2), .second, .val (.int pd), .val (.int xx), .val (.int yy), .val (.int zz), .val (.int nn), .val (.int ip), .val (.int ia), .val (.int ib), .val (.int ic), .val (.ref aw), .val (.ref ol)] [(.int xx), (.int ia), (.long (ft (own_kx xx)))])) _
        refine XS.iload X80.here hx rfl (hb hby at_155) rfl ?_
        show Steps p.tables e below (T80.setTop (mkF m 157 #[.val (.int pa), .val (.int pb), .val (.int pc_), .val (.long w1), .second, .val (.long w2), .second, .val (.int pd), .val (.int xx), .val (.int yy), .val (.int zz), .val (.int nn), .val (.int ip), .val (.int ia), .val (.int ib), .val (.int ic), .val (.ref aw), .val (.ref ol)] [(.int yy), (.int xx), (.int ia), (.long (ft (own_kx xx)))])) _
        refine XS.iload X80.here hx rfl (hb hby at_157) rfl ?_
        show Steps p.tables e below (T80.setTop (mkF m 159 #[.val (.int pa), .val (.int pb), .val (.int pc_), .val (.long w1), .second, .val (.long w2), .second, .val (.int pd), .val (.int xx), .val (.int yy), .val (.int zz), .val (.int nn), .val (.int ip), .val (.int ia), .val (.int ib), .val (.int ic), .val (.ref aw), .val (.ref ol)] [(.int zz), (.int yy), (.int xx), (.int ia), (.long (ft (own_kx xx)))])) _
        refine XS.iload X80.here hx rfl (hb hby at_159) rfl ?_
        show Steps p.tables e below (T80.setTop (mkF m 161 #[.val (.int pa), .val (.int pb), .val (.int pc_), .val (.long w1), .second, .val (.long w2), .second, .val (.int pd), .val (.int xx), .val (.int yy), .val (.int zz), .val (.int nn), .val (.int ip), .val (.int ia), .val (.int ib), .val (.int ic), .val (.ref aw), .val (.ref ol)] [(.int nn), (.int zz), (.int yy), (.int xx), (.int ia), (.long (ft (own_kx xx)))])) _
        refine XS.iload X80.here hx rfl (hb hby at_161) rfl ?_
        show Steps p.tables e below (T80.setTop (mkF m 163 #[.val (.int pa), .val (.int pb), .val (.int pc_), .val (.long w1), .second, .val (.long w2), .second, .val (.int pd), .val (.int xx), .val (.int yy), .val (.int zz), .val (.int nn), .val (.int ip), .val (.int ia), .val (.int ib), .val (.int ic), .val (.ref aw), .val (.ref ol)] [(.int ia), (.int nn), (.int zz), (.int yy), (.int xx), (.int ia), (.long (ft (own_kx xx)))])) _
        refine XS.iload X80.here hx rfl (hb hby at_163) rfl ?_
        show Steps p.tables e below (T80.setTop (mkF m 165 #[.val (.int pa), .val (.int pb), .val (.int pc_), .val (.long w1), .second, .val (.long w2), .second, .val (.int pd), .val (.int xx), .val (.int yy), .val (.int zz), .val (.int nn), .val (.int ip), .val (.int ia), .val (.int ib), .val (.int ic), .val (.ref aw), .val (.ref ol)] [(.int ib), (.int ia), (.int nn), (.int zz), (.int yy), (.int xx), (.int ia), (.long (ft (own_kx xx)))])) _
        refine XS.iload X80.here hx rfl (hb hby at_165) rfl ?_
        show Steps p.tables e below (T80.setTop (mkF m 167 #[.val (.int pa), .val (.int pb), .val (.int pc_), .val (.long w1), .second, .val (.long w2), .second, .val (.int pd), .val (.int xx), .val (.int yy), .val (.int zz), .val (.int nn), .val (.int ip), .val (.int ia), .val (.int ib), .val (.int ic), .val (.ref aw), .val (.ref ol)] [(.int ip), (.int ib), (.int ia), (.int nn), (.int zz), (.int yy), (.int xx), (.int ia), (.long (ft (own_kx xx)))])) _
        refine XS.lloadN X80.here hx rfl (hb hby at_167) rfl ?_
        show Steps p.tables e below (T80.setTop (mkF m 168 #[.val (.int pa), .val (.int pb), .val (.int pc_), .val (.long w1), .second, .val (.long w2), .second, .val (.int pd), .val (.int xx), .val (.int yy), .val (.int zz), .val (.int nn), .val (.int ip), .val (.int ia), .val (.int ib), .val (.int ic), .val (.ref aw), .val (.ref ol)] [(.long w1), (.int ip), (.int ib), (.int ia), (.int nn), (.int zz), (.int yy), (.int xx), (.int ia), (.long (ft (own_kx xx)))])) _
        refine XS.lload X80.here hx rfl (hb hby at_168) rfl ?_
        show Steps p.tables e below (T80.setTop (mkF m 170 #[.val (.int pa), .val (.int pb), .val (.int pc_), .val (.long w1), .second, .val (.long w2), .second, .val (.int pd), .val (.int xx), .val (.int yy), .val (.int zz), .val (.int nn), .val (.int ip), .val (.int ia), .val (.int ib), .val (.int ic), .val (.ref aw), .val (.ref ol)] [(.long w2), (.long w1), (.int ip), (.int ib), (.int ia), (.int nn), (.int zz), (.int yy), (.int xx), (.int ia), (.long (ft (own_kx xx)))])) _
        refine st89 _ ?_
        show Steps p.tables e below (T89.setTop (mkF m 173 #[.val (.int pa), .val (.int pb), .val (.int pc_), .val (.long w1), .second, .val (.long w2), .second, .val (.int pd), .val (.int xx), .val (.int yy), .val (.int zz), .val (.int nn), .val (.int ip), .val (.int ia), .val (.int ib), .val (.int ic), .val (.ref aw), .val (.ref ol)] [(.long (fn6 ia xx yy zz nn ia ib ip w1 w2)), (.long (ft (own_kx xx)))])) _
        refine XT.lcmp X89.here hx rfl (hb hby at_173) rfl ?_
        exact kt
      by_cases hc174_91 : (ft (own_kx xx)) = (fn6 ia xx yy zz nn ia ib ip w1 w2)
      · skip
        obtain ⟨_, _, ⟨T92, L92, k92, n92⟩, -, X92, ⟨Lc92, hQ92, l92, y92, z92⟩, st92⟩ := Jvm.LawKit.callS X89 hx (y := (⟨"com/example/bitweight/bitweight/chunk/ArrayChunkOrIntoPinLaw", "expected", "(IIIIIIIIJJ)J"⟩ : MethodName)) hown (mvT hZ (hw _ (List.mem_of_getElem? (i := 32) rfl))) (mvT hZ (hw _ (List.mem_of_getElem? (i := 33) rfl))) (mvT hZ (hw _ (List.mem_of_getElem? (i := 34) rfl))) (mvT hZ (hw _ (List.mem_of_getElem? (i := 35) rfl))) (by decide) (backOf (W := 2) (rm6 l Z a0 hw [] ib xx yy zz nn ia ib ip w1 w2 T80.heap n0 Z88) hZ (hw _ (List.mem_of_getElem? (i := 35) rfl)) (hw _ (List.mem_of_getElem? (i := 34) rfl)) (by decide) (by decide)) (g := (mkF m 201 #[.val (.int pa), .val (.int pb), .val (.int pc_), .val (.long w1), .second, .val (.long w2), .second, .val (.int pd), .val (.int xx), .val (.int yy), .val (.int zz), .val (.int nn), .val (.int ip), .val (.int ia), .val (.int ib), .val (.int ic), .val (.ref aw), .val (.ref ol)] [(.long w2), (.long w1), (.int ip), (.int ib), (.int ia), (.int nn), (.int zz), (.int yy), (.int xx), (.int ib), (.long (ft (own_kx yy)))])) rfl (by rw [hml]; rfl) (argsL := [(.int ib), (.int xx), (.int yy), (.int zz), (.int nn), (.int ia), (.int ib), (.int ip), (.long w1), (.long w2)]) (rest := [(.long (ft (own_kx yy)))]) (lenOf pd_12 rfl) rfl (by show 2 * 0 + _ ≤ _; exact Nat.le_of_eq rfl) (hb hby at_201) (fun _ _ => ⟨rfl, hE89, (by decide : 3 + 0 ≤ _), (by decide : 1031 + 0 ≤ _)⟩)
        dsimp only [Pt.U, Pt.locs, Pt.cells, Pt.slots] at X92 l92 y92 z92 st92 hQ92
        subst l92 y92 z92
        obtain ⟨rfl, N92q, hE92⟩ := hQ92
        have N92 := Fr.app N89 N92q
        have pre93 : ∀ t, Steps p.tables e below (T92.setTop (mkF m 205 #[.val (.int pa), .val (.int pb), .val (.int pc_), .val (.long w1), .second, .val (.long w2), .second, .val (.int pd), .val (.int xx), .val (.int yy), .val (.int zz), .val (.int nn), .val (.int ip), .val (.int ia), .val (.int ib), .val (.int ic), .val (.ref aw), .val (.ref ol)] [(.int (XT.cmpL (ft (own_kx yy)) (fn6 ib xx yy zz nn ia ib ip w1 w2)))])) t → Steps p.tables e below (s₁.setTop (entryFrame m #[(.int pa), (.int pb), (.int pc_), (.long w1), (.long w2), (.int pd)] maxLocals)) t := by
          intro t kt
          refine pre90 _ ?_
          show Steps p.tables e below (T89.setTop (mkF m 174 #[.val (.int pa), .val (.int pb), .val (.int pc_), .val (.long w1), .second, .val (.long w2), .second, .val (.int pd), .val (.int xx), .val (.int yy), .val (.int zz), .val (.int nn), .val (.int ip), .val (.int ia), .val (.int ib), .val (.int ic), .val (.ref aw), .val (.ref ol)] [(.int (XT.cmpL (ft (own_kx xx)) (fn6 ia xx yy zz nn ia ib ip w1 w2)))])) _
          refine XS.ifNo X89.here hx rfl (hb hby at_174) rfl (XT.ll_ne_f hc174_91) ?_
          show Steps p.tables e below (T89.setTop (mkF m 177 #[.val (.int pa), .val (.int pb), .val (.int pc_), .val (.long w1), .second, .val (.long w2), .second, .val (.int pd), .val (.int xx), .val (.int yy), .val (.int zz), .val (.int nn), .val (.int ip), .val (.int ia), .val (.int ib), .val (.int ic), .val (.ref aw), .val (.ref ol)] [])) _
          refine XS.aload X89.here hx rfl (hb hby at_177) rfl rfl ?_
          show Steps p.tables e below (T89.setTop (mkF m 179 #[.val (.int pa), .val (.int pb), .val (.int pc_), .val (.long w1), .second, .val (.long w2), .second, .val (.int pd), .val (.int xx), .val (.int yy), .val (.int zz), .val (.int nn), .val (.int ip), .val (.int ia), .val (.int ib), .val (.int ic), .val (.ref aw), .val (.ref ol)] [(.ref aw)])) _
          refine XS.iload X89.here hx rfl (hb hby at_179) rfl ?_
          show Steps p.tables e below (T89.setTop (mkF m 181 #[.val (.int pa), .val (.int pb), .val (.int pc_), .val (.long w1), .second, .val (.long w2), .second, .val (.int pd), .val (.int xx), .val (.int yy), .val (.int zz), .val (.int nn), .val (.int ip), .val (.int ia), .val (.int ib), .val (.int ic), .val (.ref aw), .val (.ref ol)] [(.int ib), (.ref aw)])) _
          refine owLdJ (k := (own_kx yy)) X89 hx hZ hE89 p80_0 (j := ib) h_kb (own_kx2 hy) (g := (mkF m 181 #[.val (.int pa), .val (.int pb), .val (.int pc_), .val (.long w1), .second, .val (.long w2), .second, .val (.int pd), .val (.int xx), .val (.int yy), .val (.int zz), .val (.int nn), .val (.int ip), .val (.int ia), .val (.int ib), .val (.int ic), .val (.ref aw), .val (.ref ol)] [(.int ib), (.ref aw)])) rfl rfl (hb hby at_181) _ ?_
          show Steps p.tables e below (T89.setTop (mkF m 182 #[.val (.int pa), .val (.int pb), .val (.int pc_), .val (.long w1), .second, .val (.long w2), .second, .val (.int pd), .val (.int xx), .val (.int yy), .val (.int zz), .val (.int nn), .val (.int ip), .val (.int ia), .val (.int ib), .val (.int ic), .val (.ref aw), .val (.ref ol)] [(.long (ft (own_kx yy)))])) _
          refine XS.iload X89.here hx rfl (hb hby at_182) rfl ?_
          show Steps p.tables e below (T89.setTop (mkF m 184 #[.val (.int pa), .val (.int pb), .val (.int pc_), .val (.long w1), .second, .val (.long w2), .second, .val (.int pd), .val (.int xx), .val (.int yy), .val (.int zz), .val (.int nn), .val (.int ip), .val (.int ia), .val (.int ib), .val (.int ic), .val (.ref aw), .val (.ref ol)] [(.int ib), (.long (ft (own_kx yy)))])) _
          refine XS.iload X89.here hx rfl (hb hby at_184) rfl ?_
          show Steps p.tables e below (T89.setTop (mkF m 186 #[.val (.int pa), .val (.int pb), .val (.int pc_), .val (.long w1), .second, .val (.long w2), .second, .val (.int pd), .val (.int xx), .val (.int yy), .val (.int zz), .val (.int nn), .val (.int ip), .val (.int ia), .val (.int ib), .val (.int ic), .val (.ref aw), .val (.ref ol)] [(.int xx), (.int ib), (.long (ft (own_kx yy)))])) _
          refine XS.iload X89.here hx rfl (hb hby at_186) rfl ?_
          show Steps p.tables e below (T89.setTop (mkF m 188 #[.val (.int pa), .val (.int pb), .val (.int pc_), .val (.long w1), .second, .val (.long w2), .second, .val (.int pd), .val (.int xx), .val (.int yy), .val (.int zz), .val (.int nn), .val (.int ip), .val (.int ia), .val (.int ib), .val (.int ic), .val (.ref aw), .val (.ref ol)] [(.int yy), (.int xx), (.int ib), (.long (ft (own_kx yy)))])) _
          refine XS.iload X89.here hx rfl (hb hby at_188) rfl ?_
          show Steps p.tables e below (T89.setTop (mkF m 190 #[.val (.int pa), .val (.int pb), .val (.int pc_), .val (.long w1), .second, .val (.long w2), .second, .val (.int pd), .val (.int xx), .val (.int yy), .val (.int zz), .val (.int nn), .val (.int ip), .val (.int ia), .val (.int ib), .val (.int ic), .val (.ref aw), .val (.ref ol)] [(.int zz), (.int yy), (.int xx), (.int ib), (.long (ft (own_kx yy)))])) _
          refine XS.iload X89.here hx rfl (hb hby at_190) rfl ?_
          show Steps p.tables e below (T89.setTop (mkF m 192 #[.val (.int pa), .val (.int pb), .val (.int pc_), .val (.long w1), .second, .val (.long w2), .second, .val (.int pd), .val (.int xx), .val (.int yy), .val (.int zz), .val (.int nn), .val (.int ip), .val (.int ia), .val (.int ib), .val (.int ic), .val (.ref aw), .val (.ref ol)] [(.int nn), (.int zz), (.int yy), (.int xx), (.int ib), (.long (ft (own_kx yy)))])) _
          refine XS.iload X89.here hx rfl (hb hby at_192) rfl ?_
          show Steps p.tables e below (T89.setTop (mkF m 194 #[.val (.int pa), .val (.int pb), .val (.int pc_), .val (.long w1), .second, .val (.long w2), .second, .val (.int pd), .val (.int xx), .val (.int yy), .val (.int zz), .val (.int nn), .val (.int ip), .val (.int ia), .val (.int ib), .val (.int ic), .val (.ref aw), .val (.ref ol)] [(.int ia), (.int nn), (.int zz), (.int yy), (.int xx), (.int ib), (.long (ft (own_kx yy)))])) _
          refine XS.iload X89.here hx rfl (hb hby at_194) rfl ?_
          show Steps p.tables e below (T89.setTop (mkF m 196 #[.val (.int pa), .val (.int pb), .val (.int pc_), .val (.long w1), .second, .val (.long w2), .second, .val (.int pd), .val (.int xx), .val (.int yy), .val (.int zz), .val (.int nn), .val (.int ip), .val (.int ia), .val (.int ib), .val (.int ic), .val (.ref aw), .val (.ref ol)] [(.int ib), (.int ia), (.int nn), (.int zz), (.int yy), (.int xx), (.int ib), (.long (ft (own_kx yy)))])) _
          refine XS.iload X89.here hx rfl (hb hby at_196) rfl ?_
          show Steps p.tables e below (T89.setTop (mkF m 198 #[.val (.int pa), .val (.int pb), .val (.int pc_), .val (.long w1), .second, .val (.long w2), .second, .val (.int pd), .val (.int xx), .val (.int yy), .val (.int zz), .val (.int nn), .val (.int ip), .val (.int ia), .val (.int ib), .val (.int ic), .val (.ref aw), .val (.ref ol)] [(.int ip), (.int ib), (.int ia), (.int nn), (.int zz), (.int yy), (.int xx), (.int ib), (.long (ft (own_kx yy)))])) _
          refine XS.lloadN X89.here hx rfl (hb hby at_198) rfl ?_
          show Steps p.tables e below (T89.setTop (mkF m 199 #[.val (.int pa), .val (.int pb), .val (.int pc_), .val (.long w1), .second, .val (.long w2), .second, .val (.int pd), .val (.int xx), .val (.int yy), .val (.int zz), .val (.int nn), .val (.int ip), .val (.int ia), .val (.int ib), .val (.int ic), .val (.ref aw), .val (.ref ol)] [(.long w1), (.int ip), (.int ib), (.int ia), (.int nn), (.int zz), (.int yy), (.int xx), (.int ib), (.long (ft (own_kx yy)))])) _
          refine XS.lload X89.here hx rfl (hb hby at_199) rfl ?_
          show Steps p.tables e below (T89.setTop (mkF m 201 #[.val (.int pa), .val (.int pb), .val (.int pc_), .val (.long w1), .second, .val (.long w2), .second, .val (.int pd), .val (.int xx), .val (.int yy), .val (.int zz), .val (.int nn), .val (.int ip), .val (.int ia), .val (.int ib), .val (.int ic), .val (.ref aw), .val (.ref ol)] [(.long w2), (.long w1), (.int ip), (.int ib), (.int ia), (.int nn), (.int zz), (.int yy), (.int xx), (.int ib), (.long (ft (own_kx yy)))])) _
          refine st92 _ ?_
          show Steps p.tables e below (T92.setTop (mkF m 204 #[.val (.int pa), .val (.int pb), .val (.int pc_), .val (.long w1), .second, .val (.long w2), .second, .val (.int pd), .val (.int xx), .val (.int yy), .val (.int zz), .val (.int nn), .val (.int ip), .val (.int ia), .val (.int ib), .val (.int ic), .val (.ref aw), .val (.ref ol)] [(.long (fn6 ib xx yy zz nn ia ib ip w1 w2)), (.long (ft (own_kx yy)))])) _
          refine XT.lcmp X92.here hx rfl (hb hby at_204) rfl ?_
          exact kt
        by_cases hc205_94 : (ft (own_kx yy)) = (fn6 ib xx yy zz nn ia ib ip w1 w2)
        · skip
          obtain ⟨_, _, ⟨T95, L95, k95, n95⟩, -, X95, ⟨Lc95, hQ95, l95, y95, z95⟩, st95⟩ := Jvm.LawKit.callS X92 hx (y := (⟨"com/example/bitweight/bitweight/chunk/ArrayChunkOrIntoPinLaw", "expected", "(IIIIIIIIJJ)J"⟩ : MethodName)) hown (mvT hZ (hw _ (List.mem_of_getElem? (i := 32) rfl))) (mvT hZ (hw _ (List.mem_of_getElem? (i := 33) rfl))) (mvT hZ (hw _ (List.mem_of_getElem? (i := 34) rfl))) (mvT hZ (hw _ (List.mem_of_getElem? (i := 35) rfl))) (by decide) (backOf (W := 2) (rm6 l Z a0 hw [] ic xx yy zz nn ia ib ip w1 w2 T80.heap n0 Z88) hZ (hw _ (List.mem_of_getElem? (i := 35) rfl)) (hw _ (List.mem_of_getElem? (i := 34) rfl)) (by decide) (by decide)) (g := (mkF m 232 #[.val (.int pa), .val (.int pb), .val (.int pc_), .val (.long w1), .second, .val (.long w2), .second, .val (.int pd), .val (.int xx), .val (.int yy), .val (.int zz), .val (.int nn), .val (.int ip), .val (.int ia), .val (.int ib), .val (.int ic), .val (.ref aw), .val (.ref ol)] [(.long w2), (.long w1), (.int ip), (.int ib), (.int ia), (.int nn), (.int zz), (.int yy), (.int xx), (.int ic), (.long (ft (own_kx zz)))])) rfl (by rw [hml]; rfl) (argsL := [(.int ic), (.int xx), (.int yy), (.int zz), (.int nn), (.int ia), (.int ib), (.int ip), (.long w1), (.long w2)]) (rest := [(.long (ft (own_kx zz)))]) (lenOf pd_12 rfl) rfl (by show 2 * 0 + _ ≤ _; exact Nat.le_of_eq rfl) (hb hby at_232) (fun _ _ => ⟨rfl, hE92, (by decide : 3 + 0 ≤ _), (by decide : 1031 + 0 ≤ _)⟩)
          dsimp only [Pt.U, Pt.locs, Pt.cells, Pt.slots] at X95 l95 y95 z95 st95 hQ95
          subst l95 y95 z95
          obtain ⟨rfl, N95q, hE95⟩ := hQ95
          have N95 := Fr.app N92 N95q
          have pre96 : ∀ t, Steps p.tables e below (T95.setTop (mkF m 236 #[.val (.int pa), .val (.int pb), .val (.int pc_), .val (.long w1), .second, .val (.long w2), .second, .val (.int pd), .val (.int xx), .val (.int yy), .val (.int zz), .val (.int nn), .val (.int ip), .val (.int ia), .val (.int ib), .val (.int ic), .val (.ref aw), .val (.ref ol)] [(.int (XT.cmpL (ft (own_kx zz)) (fn6 ic xx yy zz nn ia ib ip w1 w2)))])) t → Steps p.tables e below (s₁.setTop (entryFrame m #[(.int pa), (.int pb), (.int pc_), (.long w1), (.long w2), (.int pd)] maxLocals)) t := by
            intro t kt
            refine pre93 _ ?_
            show Steps p.tables e below (T92.setTop (mkF m 205 #[.val (.int pa), .val (.int pb), .val (.int pc_), .val (.long w1), .second, .val (.long w2), .second, .val (.int pd), .val (.int xx), .val (.int yy), .val (.int zz), .val (.int nn), .val (.int ip), .val (.int ia), .val (.int ib), .val (.int ic), .val (.ref aw), .val (.ref ol)] [(.int (XT.cmpL (ft (own_kx yy)) (fn6 ib xx yy zz nn ia ib ip w1 w2)))])) _
            refine XS.ifNo X92.here hx rfl (hb hby at_205) rfl (XT.ll_ne_f hc205_94) ?_
            show Steps p.tables e below (T92.setTop (mkF m 208 #[.val (.int pa), .val (.int pb), .val (.int pc_), .val (.long w1), .second, .val (.long w2), .second, .val (.int pd), .val (.int xx), .val (.int yy), .val (.int zz), .val (.int nn), .val (.int ip), .val (.int ia), .val (.int ib), .val (.int ic), .val (.ref aw), .val (.ref ol)] [])) _
            refine XS.aload X92.here hx rfl (hb hby at_208) rfl rfl ?_
            show Steps p.tables e below (T92.setTop (mkF m 210 #[.val (.int pa), .val (.int pb), .val (.int pc_), .val (.long w1), .second, .val (.long w2), .second, .val (.int pd), .val (.int xx), .val (.int yy), .val (.int zz), .val (.int nn), .val (.int ip), .val (.int ia), .val (.int ib), .val (.int ic), .val (.ref aw), .val (.ref ol)] [(.ref aw)])) _
            refine XS.iload X92.here hx rfl (hb hby at_210) rfl ?_
            show Steps p.tables e below (T92.setTop (mkF m 212 #[.val (.int pa), .val (.int pb), .val (.int pc_), .val (.long w1), .second, .val (.long w2), .second, .val (.int pd), .val (.int xx), .val (.int yy), .val (.int zz), .val (.int nn), .val (.int ip), .val (.int ia), .val (.int ib), .val (.int ic), .val (.ref aw), .val (.ref ol)] [(.int ic), (.ref aw)])) _
            refine owLdJ (k := (own_kx zz)) X92 hx hZ hE92 p80_0 (j := ic) h_kc (own_kx2 hz) (g := (mkF m 212 #[.val (.int pa), .val (.int pb), .val (.int pc_), .val (.long w1), .second, .val (.long w2), .second, .val (.int pd), .val (.int xx), .val (.int yy), .val (.int zz), .val (.int nn), .val (.int ip), .val (.int ia), .val (.int ib), .val (.int ic), .val (.ref aw), .val (.ref ol)] [(.int ic), (.ref aw)])) rfl rfl (hb hby at_212) _ ?_
            show Steps p.tables e below (T92.setTop (mkF m 213 #[.val (.int pa), .val (.int pb), .val (.int pc_), .val (.long w1), .second, .val (.long w2), .second, .val (.int pd), .val (.int xx), .val (.int yy), .val (.int zz), .val (.int nn), .val (.int ip), .val (.int ia), .val (.int ib), .val (.int ic), .val (.ref aw), .val (.ref ol)] [(.long (ft (own_kx zz)))])) _
            refine XS.iload X92.here hx rfl (hb hby at_213) rfl ?_
            show Steps p.tables e below (T92.setTop (mkF m 215 #[.val (.int pa), .val (.int pb), .val (.int pc_), .val (.long w1), .second, .val (.long w2), .second, .val (.int pd), .val (.int xx), .val (.int yy), .val (.int zz), .val (.int nn), .val (.int ip), .val (.int ia), .val (.int ib), .val (.int ic), .val (.ref aw), .val (.ref ol)] [(.int ic), (.long (ft (own_kx zz)))])) _
            refine XS.iload X92.here hx rfl (hb hby at_215) rfl ?_
            show Steps p.tables e below (T92.setTop (mkF m 217 #[.val (.int pa), .val (.int pb), .val (.int pc_), .val (.long w1), .second, .val (.long w2), .second, .val (.int pd), .val (.int xx), .val (.int yy), .val (.int zz), .val (.int nn), .val (.int ip), .val (.int ia), .val (.int ib), .val (.int ic), .val (.ref aw), .val (.ref ol)] [(.int xx), (.int ic), (.long (ft (own_kx zz)))])) _
            refine XS.iload X92.here hx rfl (hb hby at_217) rfl ?_
            show Steps p.tables e below (T92.setTop (mkF m 219 #[.val (.int pa), .val (.int pb), .val (.int pc_), .val (.long w1), .second, .val (.long w2), .second, .val (.int pd), .val (.int xx), .val (.int yy), .val (.int zz), .val (.int nn), .val (.int ip), .val (.int ia), .val (.int ib), .val (.int ic), .val (.ref aw), .val (.ref ol)] [(.int yy), (.int xx), (.int ic), (.long (ft (own_kx zz)))])) _
            refine XS.iload X92.here hx rfl (hb hby at_219) rfl ?_
            show Steps p.tables e below (T92.setTop (mkF m 221 #[.val (.int pa), .val (.int pb), .val (.int pc_), .val (.long w1), .second, .val (.long w2), .second, .val (.int pd), .val (.int xx), .val (.int yy), .val (.int zz), .val (.int nn), .val (.int ip), .val (.int ia), .val (.int ib), .val (.int ic), .val (.ref aw), .val (.ref ol)] [(.int zz), (.int yy), (.int xx), (.int ic), (.long (ft (own_kx zz)))])) _
            refine XS.iload X92.here hx rfl (hb hby at_221) rfl ?_
            show Steps p.tables e below (T92.setTop (mkF m 223 #[.val (.int pa), .val (.int pb), .val (.int pc_), .val (.long w1), .second, .val (.long w2), .second, .val (.int pd), .val (.int xx), .val (.int yy), .val (.int zz), .val (.int nn), .val (.int ip), .val (.int ia), .val (.int ib), .val (.int ic), .val (.ref aw), .val (.ref ol)] [(.int nn), (.int zz), (.int yy), (.int xx), (.int ic), (.long (ft (own_kx zz)))])) _
            refine XS.iload X92.here hx rfl (hb hby at_223) rfl ?_
            show Steps p.tables e below (T92.setTop (mkF m 225 #[.val (.int pa), .val (.int pb), .val (.int pc_), .val (.long w1), .second, .val (.long w2), .second, .val (.int pd), .val (.int xx), .val (.int yy), .val (.int zz), .val (.int nn), .val (.int ip), .val (.int ia), .val (.int ib), .val (.int ic), .val (.ref aw), .val (.ref ol)] [(.int ia), (.int nn), (.int zz), (.int yy), (.int xx), (.int ic), (.long (ft (own_kx zz)))])) _
            refine XS.iload X92.here hx rfl (hb hby at_225) rfl ?_
            show Steps p.tables e below (T92.setTop (mkF m 227 #[.val (.int pa), .val (.int pb), .val (.int pc_), .val (.long w1), .second, .val (.long w2), .second, .val (.int pd), .val (.int xx), .val (.int yy), .val (.int zz), .val (.int nn), .val (.int ip), .val (.int ia), .val (.int ib), .val (.int ic), .val (.ref aw), .val (.ref ol)] [(.int ib), (.int ia), (.int nn), (.int zz), (.int yy), (.int xx), (.int ic), (.long (ft (own_kx zz)))])) _
            refine XS.iload X92.here hx rfl (hb hby at_227) rfl ?_
            show Steps p.tables e below (T92.setTop (mkF m 229 #[.val (.int pa), .val (.int pb), .val (.int pc_), .val (.long w1), .second, .val (.long w2), .second, .val (.int pd), .val (.int xx), .val (.int yy), .val (.int zz), .val (.int nn), .val (.int ip), .val (.int ia), .val (.int ib), .val (.int ic), .val (.ref aw), .val (.ref ol)] [(.int ip), (.int ib), (.int ia), (.int nn), (.int zz), (.int yy), (.int xx), (.int ic), (.long (ft (own_kx zz)))])) _
            refine XS.lloadN X92.here hx rfl (hb hby at_229) rfl ?_
            show Steps p.tables e below (T92.setTop (mkF m 230 #[.val (.int pa), .val (.int pb), .val (.int pc_), .val (.long w1), .second, .val (.long w2), .second, .val (.int pd), .val (.int xx), .val (.int yy), .val (.int zz), .val (.int nn), .val (.int ip), .val (.int ia), .val (.int ib), .val (.int ic), .val (.ref aw), .val (.ref ol)] [(.long w1), (.int ip), (.int ib), (.int ia), (.int nn), (.int zz), (.int yy), (.int xx), (.int ic), (.long (ft (own_kx zz)))])) _
            refine XS.lload X92.here hx rfl (hb hby at_230) rfl ?_
            show Steps p.tables e below (T92.setTop (mkF m 232 #[.val (.int pa), .val (.int pb), .val (.int pc_), .val (.long w1), .second, .val (.long w2), .second, .val (.int pd), .val (.int xx), .val (.int yy), .val (.int zz), .val (.int nn), .val (.int ip), .val (.int ia), .val (.int ib), .val (.int ic), .val (.ref aw), .val (.ref ol)] [(.long w2), (.long w1), (.int ip), (.int ib), (.int ia), (.int nn), (.int zz), (.int yy), (.int xx), (.int ic), (.long (ft (own_kx zz)))])) _
            refine st95 _ ?_
            show Steps p.tables e below (T95.setTop (mkF m 235 #[.val (.int pa), .val (.int pb), .val (.int pc_), .val (.long w1), .second, .val (.long w2), .second, .val (.int pd), .val (.int xx), .val (.int yy), .val (.int zz), .val (.int nn), .val (.int ip), .val (.int ia), .val (.int ib), .val (.int ic), .val (.ref aw), .val (.ref ol)] [(.long (fn6 ic xx yy zz nn ia ib ip w1 w2)), (.long (ft (own_kx zz)))])) _
            refine XT.lcmp X95.here hx rfl (hb hby at_235) rfl ?_
            exact kt
          by_cases hc236_97 : (ft (own_kx zz)) = (fn6 ic xx yy zz nn ia ib ip w1 w2)
          · skip
            obtain ⟨_, _, ⟨T98, L98, k98, n98⟩, -, X98, ⟨Lc98, hQ98, l98, y98, z98⟩, st98⟩ := Jvm.LawKit.callS X95 hx (y := (⟨"com/example/bitweight/bitweight/chunk/ArrayChunkOrIntoPinLaw", "expected", "(IIIIIIIIJJ)J"⟩ : MethodName)) hown (mvT hZ (hw _ (List.mem_of_getElem? (i := 32) rfl))) (mvT hZ (hw _ (List.mem_of_getElem? (i := 33) rfl))) (mvT hZ (hw _ (List.mem_of_getElem? (i := 34) rfl))) (mvT hZ (hw _ (List.mem_of_getElem? (i := 35) rfl))) (by decide) (backOf (W := 2) (rm6 l Z a0 hw [] ip xx yy zz nn ia ib ip w1 w2 T80.heap n0 Z88) hZ (hw _ (List.mem_of_getElem? (i := 35) rfl)) (hw _ (List.mem_of_getElem? (i := 34) rfl)) (by decide) (by decide)) (g := (mkF m 263 #[.val (.int pa), .val (.int pb), .val (.int pc_), .val (.long w1), .second, .val (.long w2), .second, .val (.int pd), .val (.int xx), .val (.int yy), .val (.int zz), .val (.int nn), .val (.int ip), .val (.int ia), .val (.int ib), .val (.int ic), .val (.ref aw), .val (.ref ol)] [(.long w2), (.long w1), (.int ip), (.int ib), (.int ia), (.int nn), (.int zz), (.int yy), (.int xx), (.int ip), (.long (ft kp))])) rfl (by rw [hml]; rfl) (argsL := [(.int ip), (.int xx), (.int yy), (.int zz), (.int nn), (.int ia), (.int ib), (.int ip), (.long w1), (.long w2)]) (rest := [(.long (ft kp))]) (lenOf pd_12 rfl) rfl (by show 2 * 0 + _ ≤ _; exact Nat.le_of_eq rfl) (hb hby at_263) (fun _ _ => ⟨rfl, hE95, (by decide : 3 + 0 ≤ _), (by decide : 1031 + 0 ≤ _)⟩)
            dsimp only [Pt.U, Pt.locs, Pt.cells, Pt.slots] at X98 l98 y98 z98 st98 hQ98
            subst l98 y98 z98
            obtain ⟨rfl, N98q, hE98⟩ := hQ98
            have N98 := Fr.app N95 N98q
            have pre99 : ∀ t, Steps p.tables e below (T98.setTop (mkF m 267 #[.val (.int pa), .val (.int pb), .val (.int pc_), .val (.long w1), .second, .val (.long w2), .second, .val (.int pd), .val (.int xx), .val (.int yy), .val (.int zz), .val (.int nn), .val (.int ip), .val (.int ia), .val (.int ib), .val (.int ic), .val (.ref aw), .val (.ref ol)] [(.int (XT.cmpL (ft kp) (fn6 ip xx yy zz nn ia ib ip w1 w2)))])) t → Steps p.tables e below (s₁.setTop (entryFrame m #[(.int pa), (.int pb), (.int pc_), (.long w1), (.long w2), (.int pd)] maxLocals)) t := by
              intro t kt
              refine pre96 _ ?_
              show Steps p.tables e below (T95.setTop (mkF m 236 #[.val (.int pa), .val (.int pb), .val (.int pc_), .val (.long w1), .second, .val (.long w2), .second, .val (.int pd), .val (.int xx), .val (.int yy), .val (.int zz), .val (.int nn), .val (.int ip), .val (.int ia), .val (.int ib), .val (.int ic), .val (.ref aw), .val (.ref ol)] [(.int (XT.cmpL (ft (own_kx zz)) (fn6 ic xx yy zz nn ia ib ip w1 w2)))])) _
              refine XS.ifNo X95.here hx rfl (hb hby at_236) rfl (XT.ll_ne_f hc236_97) ?_
              show Steps p.tables e below (T95.setTop (mkF m 239 #[.val (.int pa), .val (.int pb), .val (.int pc_), .val (.long w1), .second, .val (.long w2), .second, .val (.int pd), .val (.int xx), .val (.int yy), .val (.int zz), .val (.int nn), .val (.int ip), .val (.int ia), .val (.int ib), .val (.int ic), .val (.ref aw), .val (.ref ol)] [])) _
              refine XS.aload X95.here hx rfl (hb hby at_239) rfl rfl ?_
              show Steps p.tables e below (T95.setTop (mkF m 241 #[.val (.int pa), .val (.int pb), .val (.int pc_), .val (.long w1), .second, .val (.long w2), .second, .val (.int pd), .val (.int xx), .val (.int yy), .val (.int zz), .val (.int nn), .val (.int ip), .val (.int ia), .val (.int ib), .val (.int ic), .val (.ref aw), .val (.ref ol)] [(.ref aw)])) _
              refine XS.iload X95.here hx rfl (hb hby at_241) rfl ?_
              show Steps p.tables e below (T95.setTop (mkF m 243 #[.val (.int pa), .val (.int pb), .val (.int pc_), .val (.long w1), .second, .val (.long w2), .second, .val (.int pd), .val (.int xx), .val (.int yy), .val (.int zz), .val (.int nn), .val (.int ip), .val (.int ia), .val (.int ib), .val (.int ic), .val (.ref aw), .val (.ref ol)] [(.int ip), (.ref aw)])) _
              refine owLdJ (k := kp) X95 hx hZ hE95 p80_0 (j := ip) h_kp h_kp2 (g := (mkF m 243 #[.val (.int pa), .val (.int pb), .val (.int pc_), .val (.long w1), .second, .val (.long w2), .second, .val (.int pd), .val (.int xx), .val (.int yy), .val (.int zz), .val (.int nn), .val (.int ip), .val (.int ia), .val (.int ib), .val (.int ic), .val (.ref aw), .val (.ref ol)] [(.int ip), (.ref aw)])) rfl rfl (hb hby at_243) _ ?_
              show Steps p.tables e below (T95.setTop (mkF m 244 #[.val (.int pa), .val (.int pb), .val (.int pc_), .val (.long w1), .second, .val (.long w2), .second, .val (.int pd), .val (.int xx), .val (.int yy), .val (.int zz), .val (.int nn), .val (.int ip), .val (.int ia), .val (.int ib), .val (.int ic), .val (.ref aw), .val (.ref ol)] [(.long (ft kp))])) _
              refine XS.iload X95.here hx rfl (hb hby at_244) rfl ?_
              show Steps p.tables e below (T95.setTop (mkF m 246 #[.val (.int pa), .val (.int pb), .val (.int pc_), .val (.long w1), .second, .val (.long w2), .second, .val (.int pd), .val (.int xx), .val (.int yy), .val (.int zz), .val (.int nn), .val (.int ip), .val (.int ia), .val (.int ib), .val (.int ic), .val (.ref aw), .val (.ref ol)] [(.int ip), (.long (ft kp))])) _
              refine XS.iload X95.here hx rfl (hb hby at_246) rfl ?_
              show Steps p.tables e below (T95.setTop (mkF m 248 #[.val (.int pa), .val (.int pb), .val (.int pc_), .val (.long w1), .second, .val (.long w2), .second, .val (.int pd), .val (.int xx), .val (.int yy), .val (.int zz), .val (.int nn), .val (.int ip), .val (.int ia), .val (.int ib), .val (.int ic), .val (.ref aw), .val (.ref ol)] [(.int xx), (.int ip), (.long (ft kp))])) _
              refine XS.iload X95.here hx rfl (hb hby at_248) rfl ?_
              show Steps p.tables e below (T95.setTop (mkF m 250 #[.val (.int pa), .val (.int pb), .val (.int pc_), .val (.long w1), .second, .val (.long w2), .second, .val (.int pd), .val (.int xx), .val (.int yy), .val (.int zz), .val (.int nn), .val (.int ip), .val (.int ia), .val (.int ib), .val (.int ic), .val (.ref aw), .val (.ref ol)] [(.int yy), (.int xx), (.int ip), (.long (ft kp))])) _
              refine XS.iload X95.here hx rfl (hb hby at_250) rfl ?_
              show Steps p.tables e below (T95.setTop (mkF m 252 #[.val (.int pa), .val (.int pb), .val (.int pc_), .val (.long w1), .second, .val (.long w2), .second, .val (.int pd), .val (.int xx), .val (.int yy), .val (.int zz), .val (.int nn), .val (.int ip), .val (.int ia), .val (.int ib), .val (.int ic), .val (.ref aw), .val (.ref ol)] [(.int zz), (.int yy), (.int xx), (.int ip), (.long (ft kp))])) _
              refine XS.iload X95.here hx rfl (hb hby at_252) rfl ?_
              show Steps p.tables e below (T95.setTop (mkF m 254 #[.val (.int pa), .val (.int pb), .val (.int pc_), .val (.long w1), .second, .val (.long w2), .second, .val (.int pd), .val (.int xx), .val (.int yy), .val (.int zz), .val (.int nn), .val (.int ip), .val (.int ia), .val (.int ib), .val (.int ic), .val (.ref aw), .val (.ref ol)] [(.int nn), (.int zz), (.int yy), (.int xx), (.int ip), (.long (ft kp))])) _
              refine XS.iload X95.here hx rfl (hb hby at_254) rfl ?_
              show Steps p.tables e below (T95.setTop (mkF m 256 #[.val (.int pa), .val (.int pb), .val (.int pc_), .val (.long w1), .second, .val (.long w2), .second, .val (.int pd), .val (.int xx), .val (.int yy), .val (.int zz), .val (.int nn), .val (.int ip), .val (.int ia), .val (.int ib), .val (.int ic), .val (.ref aw), .val (.ref ol)] [(.int ia), (.int nn), (.int zz), (.int yy), (.int xx), (.int ip), (.long (ft kp))])) _
              refine XS.iload X95.here hx rfl (hb hby at_256) rfl ?_
              show Steps p.tables e below (T95.setTop (mkF m 258 #[.val (.int pa), .val (.int pb), .val (.int pc_), .val (.long w1), .second, .val (.long w2), .second, .val (.int pd), .val (.int xx), .val (.int yy), .val (.int zz), .val (.int nn), .val (.int ip), .val (.int ia), .val (.int ib), .val (.int ic), .val (.ref aw), .val (.ref ol)] [(.int ib), (.int ia), (.int nn), (.int zz), (.int yy), (.int xx), (.int ip), (.long (ft kp))])) _
              refine XS.iload X95.here hx rfl (hb hby at_258) rfl ?_
              show Steps p.tables e below (T95.setTop (mkF m 260 #[.val (.int pa), .val (.int pb), .val (.int pc_), .val (.long w1), .second, .val (.long w2), .second, .val (.int pd), .val (.int xx), .val (.int yy), .val (.int zz), .val (.int nn), .val (.int ip), .val (.int ia), .val (.int ib), .val (.int ic), .val (.ref aw), .val (.ref ol)] [(.int ip), (.int ib), (.int ia), (.int nn), (.int zz), (.int yy), (.int xx), (.int ip), (.long (ft kp))])) _
              refine XS.lloadN X95.here hx rfl (hb hby at_260) rfl ?_
              show Steps p.tables e below (T95.setTop (mkF m 261 #[.val (.int pa), .val (.int pb), .val (.int pc_), .val (.long w1), .second, .val (.long w2), .second, .val (.int pd), .val (.int xx), .val (.int yy), .val (.int zz), .val (.int nn), .val (.int ip), .val (.int ia), .val (.int ib), .val (.int ic), .val (.ref aw), .val (.ref ol)] [(.long w1), (.int ip), (.int ib), (.int ia), (.int nn), (.int zz), (.int yy), (.int xx), (.int ip), (.long (ft kp))])) _
              refine XS.lload X95.here hx rfl (hb hby at_261) rfl ?_
              show Steps p.tables e below (T95.setTop (mkF m 263 #[.val (.int pa), .val (.int pb), .val (.int pc_), .val (.long w1), .second, .val (.long w2), .second, .val (.int pd), .val (.int xx), .val (.int yy), .val (.int zz), .val (.int nn), .val (.int ip), .val (.int ia), .val (.int ib), .val (.int ic), .val (.ref aw), .val (.ref ol)] [(.long w2), (.long w1), (.int ip), (.int ib), (.int ia), (.int nn), (.int zz), (.int yy), (.int xx), (.int ip), (.long (ft kp))])) _
              refine st98 _ ?_
              show Steps p.tables e below (T98.setTop (mkF m 266 #[.val (.int pa), .val (.int pb), .val (.int pc_), .val (.long w1), .second, .val (.long w2), .second, .val (.int pd), .val (.int xx), .val (.int yy), .val (.int zz), .val (.int nn), .val (.int ip), .val (.int ia), .val (.int ib), .val (.int ic), .val (.ref aw), .val (.ref ol)] [(.long (fn6 ip xx yy zz nn ia ib ip w1 w2)), (.long (ft kp))])) _
              refine XT.lcmp X98.here hx rfl (hb hby at_266) rfl ?_
              exact kt
            by_cases hc267_100 : (ft kp) = (fn6 ip xx yy zz nn ia ib ip w1 w2)
            · skip
              have pre101 : ∀ t, Steps p.tables e below (T98.setTop (mkF m 275 #[.val (.int pa), .val (.int pb), .val (.int pc_), .val (.long w1), .second, .val (.long w2), .second, .val (.int pd), .val (.int xx), .val (.int yy), .val (.int zz), .val (.int nn), .val (.int ip), .val (.int ia), .val (.int ib), .val (.int ic), .val (.ref aw), .val (.ref ol)] [(.int (1 : Int32))])) t → Steps p.tables e below (s₁.setTop (entryFrame m #[(.int pa), (.int pb), (.int pc_), (.long w1), (.long w2), (.int pd)] maxLocals)) t := by
                intro t kt
                refine pre99 _ ?_
                show Steps p.tables e below (T98.setTop (mkF m 267 #[.val (.int pa), .val (.int pb), .val (.int pc_), .val (.long w1), .second, .val (.long w2), .second, .val (.int pd), .val (.int xx), .val (.int yy), .val (.int zz), .val (.int nn), .val (.int ip), .val (.int ia), .val (.int ib), .val (.int ic), .val (.ref aw), .val (.ref ol)] [(.int (XT.cmpL (ft kp) (fn6 ip xx yy zz nn ia ib ip w1 w2)))])) _
                refine XS.ifNo X98.here hx rfl (hb hby at_267) rfl (XT.ll_ne_f hc267_100) ?_
                show Steps p.tables e below (T98.setTop (mkF m 270 #[.val (.int pa), .val (.int pb), .val (.int pc_), .val (.long w1), .second, .val (.long w2), .second, .val (.int pd), .val (.int xx), .val (.int yy), .val (.int zz), .val (.int nn), .val (.int ip), .val (.int ia), .val (.int ib), .val (.int ic), .val (.ref aw), .val (.ref ol)] [])) _
                refine XS.iconst X98.here hx rfl (hb hby at_270) ?_
                show Steps p.tables e below (T98.setTop (mkF m 271 #[.val (.int pa), .val (.int pb), .val (.int pc_), .val (.long w1), .second, .val (.long w2), .second, .val (.int pd), .val (.int xx), .val (.int yy), .val (.int zz), .val (.int nn), .val (.int ip), .val (.int ia), .val (.int ib), .val (.int ic), .val (.ref aw), .val (.ref ol)] [(.int (1 : Int32))])) _
                refine XS.goto X98.here hx rfl (pc0 := 271) (pc' := 275) rfl (hb hby at_271) (by decide) (by decide) ?_
                exact kt
              obtain ⟨fs, hr, hrun, hended, hW, hsame⟩ := X98.leave (v := some (.int (1 : Int32))) (fun h => by rw [Bd.returns] at h; cases h)
              refine ⟨_, _, pre101 _ ?_, hrun, hended, _, _, rfl, ?_, ⟨_, rfl⟩, hW, hsame.mono (by decide) (by decide)⟩
              · show Steps p.tables e below (T98.setTop (mkF m 275 #[.val (.int pa), .val (.int pb), .val (.int pc_), .val (.long w1), .second, .val (.long w2), .second, .val (.int pd), .val (.int xx), .val (.int yy), .val (.int zz), .val (.int nn), .val (.int ip), .val (.int ia), .val (.int ib), .val (.int ic), .val (.ref aw), .val (.ref ol)] [(.int (1 : Int32))])) _
                exact retN X98 hx (t := .boolean) Bd.returns (by simp) (hb hby at_275) hr
              · show Q0 Z pa pb pc_ w1 w2 pd an ar h0 n0 _ T98.heap _
                rw [hE98]
                exact ⟨rfl, N98⟩
            · skip
              exact absurd (own_law xx yy zz nn ia ib ip ip w1 w2 fz (owUp (fun _ => 0) 0 (xx.toUInt32.toUInt16.toUInt32.toInt32)) (1 : Int32) 1 (own_kx xx) (own_kx yy) kp kp ft h_ft h_fz h_kp h_ka h_kb h_kp rfl (by decide) hxx hy hz hset) hc267_100
          · skip
            exact absurd (own_law xx yy zz nn ia ib ip ic w1 w2 fz (owUp (fun _ => 0) 0 (xx.toUInt32.toUInt16.toUInt32.toInt32)) (1 : Int32) 1 (own_kx xx) (own_kx yy) kp (own_kx zz) ft h_ft h_fz h_kc h_ka h_kb h_kp rfl (by decide) hxx hy hz hset) hc236_97
        · skip
          exact absurd (own_law xx yy zz nn ia ib ip ib w1 w2 fz (owUp (fun _ => 0) 0 (xx.toUInt32.toUInt16.toUInt32.toInt32)) (1 : Int32) 1 (own_kx xx) (own_kx yy) kp (own_kx yy) ft h_ft h_fz h_kb h_ka h_kb h_kp rfl (by decide) hxx hy hz hset) hc205_94
      · skip
        exact absurd (own_law xx yy zz nn ia ib ip ia w1 w2 fz (owUp (fun _ => 0) 0 (xx.toUInt32.toUInt16.toUInt32.toInt32)) (1 : Int32) 1 (own_kx xx) (own_kx yy) kp (own_kx xx) ft h_ft h_fz h_ka h_ka h_kb h_kp rfl (by decide) hxx hy hz hset) hc174_91
    · skip
      obtain ⟨cq102, kq102, q102a, q102b, q102c⟩ := isOf hZ rfl p70_E
      obtain ⟨_, _, ⟨T102, L102, k102, n102⟩, -, X102, ⟨Lc102, hQ102, l102, y102, z102⟩, st102⟩ := X70.virtualBack hx (y := (⟨"com/example/bitweight/bitweight/chunk/ArrayChunk", "add", "(C)Lcom/example/bitweight/bitweight/chunk/Chunk;"⟩ : MethodName)) (z := (⟨"com/example/bitweight/bitweight/chunk/ArrayChunk", "add", "(C)Lcom/example/bitweight/bitweight/chunk/Chunk;"⟩ : MethodName)) hown (mvT hZ (hw _ (List.mem_of_getElem? (i := 42) rfl))) (mvT hZ (hw _ (List.mem_of_getElem? (i := 43) rfl))) (notFace_of_selects (args := #[]) (mvT hZ (hw _ (List.mem_of_getElem? (i := 45) rfl)))) (mvT hZ (hw _ (List.mem_of_getElem? (i := 45) rfl))) (mvT hZ (hw _ (List.mem_of_getElem? (i := 44) rfl))) (by decide) (backOf (W := 0) (rm9b l Z a0 hw [] ol (yy.toUInt32.toUInt16.toUInt32.toInt32) bn an ar (1 : Int32) rn (owUp (fun _ => 0) 0 (xx.toUInt32.toUInt16.toUInt32.toInt32)) 1 T70.heap n0 Z77 p70_E p70_v p70_c p70_r p70_A (A_an.ext f71.2) (S_none.ext f71.2) (S_room.ext f71.2) (E_ar.ext f71.2) g_ol g_bn ne_ol_bn nol_n nbn_n (own_chr _) rfl (by decide) (by decide) (own_ok1 (own_chr _))) hZ (hw _ (List.mem_of_getElem? (i := 46) rfl)) (hw _ (List.mem_of_getElem? (i := 4) rfl)) (by decide) (by decide)) q102a q102c (g := (mkF m 120 #[.val (.int pa), .val (.int pb), .val (.int pc_), .val (.long w1), .second, .val (.long w2), .second, .val (.int pd), .val (.int xx), .val (.int yy), .val (.int zz), .val (.int nn), .val (.int ip), .val (.int ia), .val (.int ib), .val (.int ic), .val (.ref aw), .val (.ref ol)] [(.int (yy.toUInt32.toUInt16.toUInt32.toInt32)), (.ref ol)])) rfl (by rw [hml]; rfl) (Steps.refl _) (argsL := [(.int (yy.toUInt32.toUInt16.toUInt32.toInt32))]) (rest := []) (lenOf pd_13 rfl) rfl (by show 2 * 0 + _ ≤ _; exact Nat.le_of_eq rfl) (hb hby at_120) (fun _ _ => ⟨rfl, rfl, (by decide : 3 + 0 ≤ _), (by decide : 1031 + 0 ≤ _)⟩)
      dsimp only [Pt.U, Pt.locs, Pt.cells, Pt.slots] at X102 l102 y102 z102 st102 hQ102
      subst l102 y102 z102
      obtain ⟨rn1, cc1, ff1, mm1, rfl, N102q, K102, p102_E, p102_v, p102_c, p102_r, p102_A, hm1, rs1⟩ := hQ102
      have N102 := Fr.app N70 N102q
      have f103 := f71.keep K102 (allS g_ol (allS g_bn all0))
      have f104 := f72.keep K102 (ninS ne_aw_ol (ninS ne_aw_bn nin0))
      have f105 := p70_E.keep K102
      have Z110 := Nat.le_trans Z77 K102.1
      have pre111 : ∀ t, Steps p.tables e below (T102.setTop (mkF m 127 #[.val (.int pa), .val (.int pb), .val (.int pc_), .val (.long w1), .second, .val (.long w2), .second, .val (.int pd), .val (.int xx), .val (.int yy), .val (.int zz), .val (.int nn), .val (.int ip), .val (.int ia), .val (.int ib), .val (.int ic), .val (.ref aw), .val (.ref ol)] [(.int (3 : Int32)), (.int nn)])) t → Steps p.tables e below (s₁.setTop (entryFrame m #[(.int pa), (.int pb), (.int pc_), (.long w1), (.long w2), (.int pd)] maxLocals)) t := by
        intro t kt
        refine pre78 _ ?_
        show Steps p.tables e below (T70.setTop (mkF m 112 #[.val (.int pa), .val (.int pb), .val (.int pc_), .val (.long w1), .second, .val (.long w2), .second, .val (.int pd), .val (.int xx), .val (.int yy), .val (.int zz), .val (.int nn), .val (.int ip), .val (.int ia), .val (.int ib), .val (.int ic), .val (.ref aw), .val (.ref ol)] [(.int (2 : Int32)), (.int nn)])) _
        refine XS.icmpNo X70.here hx rfl (hb hby at_112) rfl (XT.ii_lt_f hc112_79) ?_
        show Steps p.tables e below (T70.setTop (mkF m 115 #[.val (.int pa), .val (.int pb), .val (.int pc_), .val (.long w1), .second, .val (.long w2), .second, .val (.int pd), .val (.int xx), .val (.int yy), .val (.int zz), .val (.int nn), .val (.int ip), .val (.int ia), .val (.int ib), .val (.int ic), .val (.ref aw), .val (.ref ol)] [])) _
        refine XS.aload X70.here hx rfl (hb hby at_115) rfl rfl ?_
        show Steps p.tables e below (T70.setTop (mkF m 117 #[.val (.int pa), .val (.int pb), .val (.int pc_), .val (.long w1), .second, .val (.long w2), .second, .val (.int pd), .val (.int xx), .val (.int yy), .val (.int zz), .val (.int nn), .val (.int ip), .val (.int ia), .val (.int ib), .val (.int ic), .val (.ref aw), .val (.ref ol)] [(.ref ol)])) _
        refine XS.iload X70.here hx rfl (hb hby at_117) rfl ?_
        show Steps p.tables e below (T70.setTop (mkF m 119 #[.val (.int pa), .val (.int pb), .val (.int pc_), .val (.long w1), .second, .val (.long w2), .second, .val (.int pd), .val (.int xx), .val (.int yy), .val (.int zz), .val (.int nn), .val (.int ip), .val (.int ia), .val (.int ib), .val (.int ic), .val (.ref aw), .val (.ref ol)] [(.int yy), (.ref ol)])) _
        refine XS.i2c X70.here hx rfl (hb hby at_119) rfl ?_
        show Steps p.tables e below (T70.setTop (mkF m 120 #[.val (.int pa), .val (.int pb), .val (.int pc_), .val (.long w1), .second, .val (.long w2), .second, .val (.int pd), .val (.int xx), .val (.int yy), .val (.int zz), .val (.int nn), .val (.int ip), .val (.int ia), .val (.int ib), .val (.int ic), .val (.ref aw), .val (.ref ol)] [(.int (yy.toUInt32.toUInt16.toUInt32.toInt32)), (.ref ol)])) _
        refine st102.trans ?_
        show Steps p.tables e below (T102.setTop (mkF m 123 #[.val (.int pa), .val (.int pb), .val (.int pc_), .val (.long w1), .second, .val (.long w2), .second, .val (.int pd), .val (.int xx), .val (.int yy), .val (.int zz), .val (.int nn), .val (.int ip), .val (.int ia), .val (.int ib), .val (.int ic), .val (.ref aw), .val (.ref ol)] [(.ref ol)])) _
        refine XS.pop X102.here hx rfl (hb hby at_123) rfl rfl ?_
        show Steps p.tables e below (T102.setTop (mkF m 124 #[.val (.int pa), .val (.int pb), .val (.int pc_), .val (.long w1), .second, .val (.long w2), .second, .val (.int pd), .val (.int xx), .val (.int yy), .val (.int zz), .val (.int nn), .val (.int ip), .val (.int ia), .val (.int ib), .val (.int ic), .val (.ref aw), .val (.ref ol)] [])) _
        refine XS.iload X102.here hx rfl (hb hby at_124) rfl ?_
        show Steps p.tables e below (T102.setTop (mkF m 126 #[.val (.int pa), .val (.int pb), .val (.int pc_), .val (.long w1), .second, .val (.long w2), .second, .val (.int pd), .val (.int xx), .val (.int yy), .val (.int zz), .val (.int nn), .val (.int ip), .val (.int ia), .val (.int ib), .val (.int ic), .val (.ref aw), .val (.ref ol)] [(.int nn)])) _
        refine XS.iconst X102.here hx rfl (hb hby at_126) ?_
        exact kt
      by_cases hc127_112 : nn < (3 : Int32)
      · skip
        obtain ⟨cq113, kq113, q113a, q113b, q113c⟩ := isOf hZ rfl p102_E
        obtain ⟨_, _, ⟨T113, L113, k113, n113⟩, -, X113, ⟨Lc113, hQ113, l113, y113, z113⟩, st113⟩ := X102.virtualBack hx (y := (⟨"com/example/bitweight/bitweight/chunk/ArrayChunk", "orInto", "([J)V"⟩ : MethodName)) (z := (⟨"com/example/bitweight/bitweight/chunk/ArrayChunk", "orInto", "([J)V"⟩ : MethodName)) hown (mvT hZ (hw _ (List.mem_of_getElem? (i := 27) rfl))) (mvT hZ (hw _ (List.mem_of_getElem? (i := 28) rfl))) (notFace_of_selects (args := #[]) (mvT hZ (hw _ (List.mem_of_getElem? (i := 30) rfl)))) (mvT hZ (hw _ (List.mem_of_getElem? (i := 30) rfl))) (mvT hZ (hw _ (List.mem_of_getElem? (i := 29) rfl))) (by decide) (backOf (W := 0) (rm5 l Z a0 hw [] ol aw bn cc1 ff1 fz T102.heap n0 Z110 p102_v p102_c (Or.inr p102_A) f104 g_aw (Ne.symm ne_aw_ol) (Ne.symm ne_aw_bn) rs1.2.2.1.1 (own_le3 hm1 (by have := rs1.2.1; omega))) hZ (hw _ (List.mem_of_getElem? (i := 31) rfl)) (hw _ (List.mem_of_getElem? (i := 4) rfl)) (by decide) (by decide)) q113a q113c (g := (mkF m 143 #[.val (.int pa), .val (.int pb), .val (.int pc_), .val (.long w1), .second, .val (.long w2), .second, .val (.int pd), .val (.int xx), .val (.int yy), .val (.int zz), .val (.int nn), .val (.int ip), .val (.int ia), .val (.int ib), .val (.int ic), .val (.ref aw), .val (.ref ol)] [(.ref aw), (.ref ol)])) rfl (by rw [hml]; rfl) (Steps.refl _) (argsL := [(.ref aw)]) (rest := []) (lenOf pd_11 rfl) rfl (by show 2 * 0 + _ ≤ _; exact Nat.le_of_eq rfl) (hb hby at_143) (fun _ _ => ⟨rfl, rfl, (by decide : 3 + 0 ≤ _), (by decide : 1031 + 0 ≤ _)⟩)
        dsimp only [Pt.U, Pt.locs, Pt.cells, Pt.slots] at X113 l113 y113 z113 st113 hQ113
        subst l113 y113 z113
        obtain ⟨rfl, N113q, K113, p113_0⟩ := hQ113
        have N113 := Fr.app N102 N113q
        have f114 := f103.keep K113 (allS g_aw all0)
        have f116 := p102_E.keep K113
        have f117 := p102_v.keep K113 (ninS (Ne.symm ne_aw_ol) nin0)
        have f118 := p102_c.keep K113 (ninS (Ne.symm ne_aw_ol) nin0)
        have f119 := p102_r.keep K113 (ninS (Ne.symm ne_aw_ol) nin0)
        have f120 := p102_A.keep K113 (ninS (Ne.symm ne_aw_bn) nin0)
        have Z121 := Nat.le_trans Z110 K113.1
        obtain ⟨ft, h_ft⟩ : ∃ g : Nat → Int64, g = (orf cc1 ff1 fz) := ⟨_, rfl⟩
        rw [← h_ft] at p113_0
        have hn1 : ¬ (nn < (1 : Int32)) := hc97_48
        have hn2 : ¬ (nn < (2 : Int32)) := hc112_79
        have hn3 : (nn < (3 : Int32)) := hc127_112
        have hset : ∀ v, own_mem ff1 mm1 v ↔ ((¬ nn < (1 : Int32) ∧ v = xx) ∨ (¬ nn < (2 : Int32) ∧ v = yy) ∨ (¬ nn < (3 : Int32) ∧ v = zz)) := by
          intro v
          rw [rs1.2.2.2 v, own_mem1, own_nc hxx, own_nc hy]
          simp [hn1, hn2, hn3, or_comm]
        obtain ⟨_, _, ⟨T122, L122, k122, n122⟩, -, X122, ⟨Lc122, hQ122, l122, y122, z122⟩, st122⟩ := Jvm.LawKit.callS X113 hx (y := (⟨"com/example/bitweight/bitweight/chunk/ArrayChunkOrIntoPinLaw", "expected", "(IIIIIIIIJJ)J"⟩ : MethodName)) hown (mvT hZ (hw _ (List.mem_of_getElem? (i := 32) rfl))) (mvT hZ (hw _ (List.mem_of_getElem? (i := 33) rfl))) (mvT hZ (hw _ (List.mem_of_getElem? (i := 34) rfl))) (mvT hZ (hw _ (List.mem_of_getElem? (i := 35) rfl))) (by decide) (backOf (W := 2) (rm6 l Z a0 hw [] ia xx yy zz nn ia ib ip w1 w2 T113.heap n0 Z121) hZ (hw _ (List.mem_of_getElem? (i := 35) rfl)) (hw _ (List.mem_of_getElem? (i := 34) rfl)) (by decide) (by decide)) (g := (mkF m 170 #[.val (.int pa), .val (.int pb), .val (.int pc_), .val (.long w1), .second, .val (.long w2), .second, .val (.int pd), .val (.int xx), .val (.int yy), .val (.int zz), .val (.int nn), .val (.int ip), .val (.int ia), .val (.int ib), .val (.int ic), .val (.ref aw), .val (.ref ol)] [(.long w2), (.long w1), (.int ip), (.int ib), (.int ia), (.int nn), (.int zz), (.int yy), (.int xx), (.int ia), (.long (ft (own_kx xx)))])) rfl (by rw [hml]; rfl) (argsL := [(.int ia), (.int xx), (.int yy), (.int zz), (.int nn), (.int ia), (.int ib), (.int ip), (.long w1), (.long w2)]) (rest := [(.long (ft (own_kx xx)))]) (lenOf pd_12 rfl) rfl (by show 2 * 0 + _ ≤ _; exact Nat.le_of_eq rfl) (hb hby at_170) (fun _ _ => ⟨rfl, rfl, (by decide : 3 + 0 ≤ _), (by decide : 1031 + 0 ≤ _)⟩)
        dsimp only [Pt.U, Pt.locs, Pt.cells, Pt.slots] at X122 l122 y122 z122 st122 hQ122
        subst l122 y122 z122
        obtain ⟨rfl, N122q, hE122⟩ := hQ122
        have N122 := Fr.app N113 N122q
        have pre123 : ∀ t, Steps p.tables e below (T122.setTop (mkF m 174 #[.val (.int pa), .val (.int pb), .val (.int pc_), .val (.long w1), .second, .val (.long w2), .second, .val (.int pd), .val (.int xx), .val (.int yy), .val (.int zz), .val (.int nn), .val (.int ip), .val (.int ia), .val (.int ib), .val (.int ic), .val (.ref aw), .val (.ref ol)] [(.int (XT.cmpL (ft (own_kx xx)) (fn6 ia xx yy zz nn ia ib ip w1 w2)))])) t → Steps p.tables e below (s₁.setTop (entryFrame m #[(.int pa), (.int pb), (.int pc_), (.long w1), (.long w2), (.int pd)] maxLocals)) t := by
          intro t kt
          refine pre111 _ ?_
          show Steps p.tables e below (T102.setTop (mkF m 127 #[.val (.int pa), .val (.int pb), .val (.int pc_), .val (.long w1), .second, .val (.long w2), .second, .val (.int pd), .val (.int xx), .val (.int yy), .val (.int zz), .val (.int nn), .val (.int ip), .val (.int ia), .val (.int ib), .val (.int ic), .val (.ref aw), .val (.ref ol)] [(.int (3 : Int32)), (.int nn)])) _
          refine XS.icmpYes X102.here hx rfl (pc0 := 127) (pc' := 139) rfl (hb hby at_127) rfl (XT.ii_lt_t hc127_112) (by decide) (by decide) ?_
          show Steps p.tables e below (T102.setTop (mkF m 139 #[.val (.int pa), .val (.int pb), .val (.int pc_), .val (.long w1), .second, .val (.long w2), .second, .val (.int pd), .val (.int xx), .val (.int yy), .val (.int zz), .val (.int nn), .val (.int ip), .val (.int ia), .val (.int ib), .val (.int ic), .val (.ref aw), .val (.ref ol)] [])) _
          refine XS.aload X102.here hx rfl (hb hby at_139) rfl rfl ?_
          show Steps p.tables e below (T102.setTop (mkF m 141 #[.val (.int pa), .val (.int pb), .val (.int pc_), .val (.long w1), .second, .val (.long w2), .second, .val (.int pd), .val (.int xx), .val (.int yy), .val (.int zz), .val (.int nn), .val (.int ip), .val (.int ia), .val (.int ib), .val (.int ic), .val (.ref aw), .val (.ref ol)] [(.ref ol)])) _
          refine XS.aload X102.here hx rfl (hb hby at_141) rfl rfl ?_
          show Steps p.tables e below (T102.setTop (mkF m 143 #[.val (.int pa), .val (.int pb), .val (.int pc_), .val (.long w1), .second, .val (.long w2), .second, .val (.int pd), .val (.int xx), .val (.int yy), .val (.int zz), .val (.int nn), .val (.int ip), .val (.int ia), .val (.int ib), .val (.int ic), .val (.ref aw), .val (.ref ol)] [(.ref aw), (.ref ol)])) _
          refine st113.trans ?_
          show Steps p.tables e below (T113.setTop (mkF m 146 #[.val (.int pa), .val (.int pb), .val (.int pc_), .val (.long w1), .second, .val (.long w2), .second, .val (.int pd), .val (.int xx), .val (.int yy), .val (.int zz), .val (.int nn), .val (.int ip), .val (.int ia), .val (.int ib), .val (.int ic), .val (.ref aw), .val (.ref ol)] [])) _
          refine XS.aload X113.here hx rfl (hb hby at_146) rfl rfl ?_
          show Steps p.tables e below (T113.setTop (mkF m 148 #[.val (.int pa), .val (.int pb), .val (.int pc_), .val (.long w1), .second, .val (.long w2), .second, .val (.int pd), .val (.int xx), .val (.int yy), .val (.int zz), .val (.int nn), .val (.int ip), .val (.int ia), .val (.int ib), .val (.int ic), .val (.ref aw), .val (.ref ol)] [(.ref aw)])) _
          refine XS.iload X113.here hx rfl (hb hby at_148) rfl ?_
          show Steps p.tables e below (T113.setTop (mkF m 150 #[.val (.int pa), .val (.int pb), .val (.int pc_), .val (.long w1), .second, .val (.long w2), .second, .val (.int pd), .val (.int xx), .val (.int yy), .val (.int zz), .val (.int nn), .val (.int ip), .val (.int ia), .val (.int ib), .val (.int ic), .val (.ref aw), .val (.ref ol)] [(.int ia), (.ref aw)])) _
          refine owLdJ (k := (own_kx xx)) X113 hx hZ rfl p113_0 (j := ia) h_ka (own_kx2 hxx) (g := (mkF m 150 #[.val (.int pa), .val (.int pb), .val (.int pc_), .val (.long w1), .second, .val (.long w2), .second, .val (.int pd), .val (.int xx), .val (.int yy), .val (.int zz), .val (.int nn), .val (.int ip), .val (.int ia), .val (.int ib), .val (.int ic), .val (.ref aw), .val (.ref ol)] [(.int ia), (.ref aw)])) rfl rfl (hb hby at_150) _ ?_
          show Steps p.tables e below (T113.setTop (mkF m 151 #[.val (.int pa), .val (.int pb), .val (.int pc_), .val (.long w1), .second, .val (.long w2), .second, .val (.int pd), .val (.int xx), .val (.int yy), .val (.int zz), .val (.int nn), .val (.int ip), .val (.int ia), .val (.int ib), .val (.int ic), .val (.ref aw), .val (.ref ol)] [(.long (ft (own_kx xx)))])) _
          refine XS.iload X113.here hx rfl (hb hby at_151) rfl ?_
          show Steps p.tables e below (T113.setTop (mkF m 153 #[.val (.int pa), .val (.int pb), .val (.int pc_), .val (.long w1), .second, .val (.long w2), .second, .val (.int pd), .val (.int xx), .val (.int yy), .val (.int zz), .val (.int nn), .val (.int ip), .val (.int ia), .val (.int ib), .val (.int ic), .val (.ref aw), .val (.ref ol)] [(.int ia), (.long (ft (own_kx xx)))])) _
          refine XS.iload X113.here hx rfl (hb hby at_153) rfl ?_
          show Steps p.tables e below (T113.setTop (mkF m 155 #[.val (.int pa), .val (.int pb), .val (.int pc_), .val (.long w1), .second, .val (.long w2), .second, .val (.int pd), .val (.int xx), .val (.int yy), .val (.int zz), .val (.int nn), .val (.int ip), .val (.int ia), .val (.int ib), .val (.int ic), .val (.ref aw), .val (.ref ol)] [(.int xx), (.int ia), (.long (ft (own_kx xx)))])) _
          refine XS.iload X113.here hx rfl (hb hby at_155) rfl ?_
          show Steps p.tables e below (T113.setTop (mkF m 157 #[.val (.int pa), .val (.int pb), .val (.int pc_), .val (.long w1), .second, .val (.long w2), .second, .val (.int pd), .val (.int xx), .val (.int yy), .val (.int zz), .val (.int nn), .val (.int ip), .val (.int ia), .val (.int ib), .val (.int ic), .val (.ref aw), .val (.ref ol)] [(.int yy), (.int xx), (.int ia), (.long (ft (own_kx xx)))])) _
          refine XS.iload X113.here hx rfl (hb hby at_157) rfl ?_
          show Steps p.tables e below (T113.setTop (mkF m 159 #[.val (.int pa), .val (.int pb), .val (.int pc_), .val (.long w1), .second, .val (.long w2), .second, .val (.int pd), .val (.int xx), .val (.int yy), .val (.int zz), .val (.int nn), .val (.int ip), .val (.int ia), .val (.int ib), .val (.int ic), .val (.ref aw), .val (.ref ol)] [(.int zz), (.int yy), (.int xx), (.int ia), (.long (ft (own_kx xx)))])) _
          refine XS.iload X113.here hx rfl (hb hby at_159) rfl ?_
          show Steps p.tables e below (T113.setTop (mkF m 161 #[.val (.int pa), .val (.int pb), .val (.int pc_), .val (.long w1), .second, .val (.long w2), .second, .val (.int pd), .val (.int xx), .val (.int yy), .val (.int zz), .val (.int nn), .val (.int ip), .val (.int ia), .val (.int ib), .val (.int ic), .val (.ref aw), .val (.ref ol)] [(.int nn), (.int zz), (.int yy), (.int xx), (.int ia), (.long (ft (own_kx xx)))])) _
          refine XS.iload X113.here hx rfl (hb hby at_161) rfl ?_
          show Steps p.tables e below (T113.setTop (mkF m 163 #[.val (.int pa), .val (.int pb), .val (.int pc_), .val (.long w1), .second, .val (.long w2), .second, .val (.int pd), .val (.int xx), .val (.int yy), .val (.int zz), .val (.int nn), .val (.int ip), .val (.int ia), .val (.int ib), .val (.int ic), .val (.ref aw), .val (.ref ol)] [(.int ia), (.int nn), (.int zz), (.int yy), (.int xx), (.int ia), (.long (ft (own_kx xx)))])) _
          refine XS.iload X113.here hx rfl (hb hby at_163) rfl ?_
          show Steps p.tables e below (T113.setTop (mkF m 165 #[.val (.int pa), .val (.int pb), .val (.int pc_), .val (.long w1), .second, .val (.long w2), .second, .val (.int pd), .val (.int xx), .val (.int yy), .val (.int zz), .val (.int nn), .val (.int ip), .val (.int ia), .val (.int ib), .val (.int ic), .val (.ref aw), .val (.ref ol)] [(.int ib), (.int ia), (.int nn), (.int zz), (.int yy), (.int xx), (.int ia), (.long (ft (own_kx xx)))])) _
          refine XS.iload X113.here hx rfl (hb hby at_165) rfl ?_
          show Steps p.tables e below (T113.setTop (mkF m 167 #[.val (.int pa), .val (.int pb), .val (.int pc_), .val (.long w1), .second, .val (.long w2), .second, .val (.int pd), .val (.int xx), .val (.int yy), .val (.int zz), .val (.int nn), .val (.int ip), .val (.int ia), .val (.int ib), .val (.int ic), .val (.ref aw), .val (.ref ol)] [(.int ip), (.int ib), (.int ia), (.int nn), (.int zz), (.int yy), (.int xx), (.int ia), (.long (ft (own_kx xx)))])) _
          refine XS.lloadN X113.here hx rfl (hb hby at_167) rfl ?_
          show Steps p.tables e below (T113.setTop (mkF m 168 #[.val (.int pa), .val (.int pb), .val (.int pc_), .val (.long w1), .second, .val (.long w2), .second, .val (.int pd), .val (.int xx), .val (.int yy), .val (.int zz), .val (.int nn), .val (.int ip), .val (.int ia), .val (.int ib), .val (.int ic), .val (.ref aw), .val (.ref ol)] [(.long w1), (.int ip), (.int ib), (.int ia), (.int nn), (.int zz), (.int yy), (.int xx), (.int ia), (.long (ft (own_kx xx)))])) _
          refine XS.lload X113.here hx rfl (hb hby at_168) rfl ?_
          show Steps p.tables e below (T113.setTop (mkF m 170 #[.val (.int pa), .val (.int pb), .val (.int pc_), .val (.long w1), .second, .val (.long w2), .second, .val (.int pd), .val (.int xx), .val (.int yy), .val (.int zz), .val (.int nn), .val (.int ip), .val (.int ia), .val (.int ib), .val (.int ic), .val (.ref aw), .val (.ref ol)] [(.long w2), (.long w1), (.int ip), (.int ib), (.int ia), (.int nn), (.int zz), (.int yy), (.int xx), (.int ia), (.long (ft (own_kx xx)))])) _
          refine st122 _ ?_
          show Steps p.tables e below (T122.setTop (mkF m 173 #[.val (.int pa), .val (.int pb), .val (.int pc_), .val (.long w1), .second, .val (.long w2), .second, .val (.int pd), .val (.int xx), .val (.int yy), .val (.int zz), .val (.int nn), .val (.int ip), .val (.int ia), .val (.int ib), .val (.int ic), .val (.ref aw), .val (.ref ol)] [(.long (fn6 ia xx yy zz nn ia ib ip w1 w2)), (.long (ft (own_kx xx)))])) _
          refine XT.lcmp X122.here hx rfl (hb hby at_173) rfl ?_
          exact kt
        by_cases hc174_124 : (ft (own_kx xx)) = (fn6 ia xx yy zz nn ia ib ip w1 w2)
        · skip
          obtain ⟨_, _, ⟨T125, L125, k125, n125⟩, -, X125, ⟨Lc125, hQ125, l125, y125, z125⟩, st125⟩ := Jvm.LawKit.callS X122 hx (y := (⟨"com/example/bitweight/bitweight/chunk/ArrayChunkOrIntoPinLaw", "expected", "(IIIIIIIIJJ)J"⟩ : MethodName)) hown (mvT hZ (hw _ (List.mem_of_getElem? (i := 32) rfl))) (mvT hZ (hw _ (List.mem_of_getElem? (i := 33) rfl))) (mvT hZ (hw _ (List.mem_of_getElem? (i := 34) rfl))) (mvT hZ (hw _ (List.mem_of_getElem? (i := 35) rfl))) (by decide) (backOf (W := 2) (rm6 l Z a0 hw [] ib xx yy zz nn ia ib ip w1 w2 T113.heap n0 Z121) hZ (hw _ (List.mem_of_getElem? (i := 35) rfl)) (hw _ (List.mem_of_getElem? (i := 34) rfl)) (by decide) (by decide)) (g := (mkF m 201 #[.val (.int pa), .val (.int pb), .val (.int pc_), .val (.long w1), .second, .val (.long w2), .second, .val (.int pd), .val (.int xx), .val (.int yy), .val (.int zz), .val (.int nn), .val (.int ip), .val (.int ia), .val (.int ib), .val (.int ic), .val (.ref aw), .val (.ref ol)] [(.long w2), (.long w1), (.int ip), (.int ib), (.int ia), (.int nn), (.int zz), (.int yy), (.int xx), (.int ib), (.long (ft (own_kx yy)))])) rfl (by rw [hml]; rfl) (argsL := [(.int ib), (.int xx), (.int yy), (.int zz), (.int nn), (.int ia), (.int ib), (.int ip), (.long w1), (.long w2)]) (rest := [(.long (ft (own_kx yy)))]) (lenOf pd_12 rfl) rfl (by show 2 * 0 + _ ≤ _; exact Nat.le_of_eq rfl) (hb hby at_201) (fun _ _ => ⟨rfl, hE122, (by decide : 3 + 0 ≤ _), (by decide : 1031 + 0 ≤ _)⟩)
          dsimp only [Pt.U, Pt.locs, Pt.cells, Pt.slots] at X125 l125 y125 z125 st125 hQ125
          subst l125 y125 z125
          obtain ⟨rfl, N125q, hE125⟩ := hQ125
          have N125 := Fr.app N122 N125q
          have pre126 : ∀ t, Steps p.tables e below (T125.setTop (mkF m 205 #[.val (.int pa), .val (.int pb), .val (.int pc_), .val (.long w1), .second, .val (.long w2), .second, .val (.int pd), .val (.int xx), .val (.int yy), .val (.int zz), .val (.int nn), .val (.int ip), .val (.int ia), .val (.int ib), .val (.int ic), .val (.ref aw), .val (.ref ol)] [(.int (XT.cmpL (ft (own_kx yy)) (fn6 ib xx yy zz nn ia ib ip w1 w2)))])) t → Steps p.tables e below (s₁.setTop (entryFrame m #[(.int pa), (.int pb), (.int pc_), (.long w1), (.long w2), (.int pd)] maxLocals)) t := by
            intro t kt
            refine pre123 _ ?_
            show Steps p.tables e below (T122.setTop (mkF m 174 #[.val (.int pa), .val (.int pb), .val (.int pc_), .val (.long w1), .second, .val (.long w2), .second, .val (.int pd), .val (.int xx), .val (.int yy), .val (.int zz), .val (.int nn), .val (.int ip), .val (.int ia), .val (.int ib), .val (.int ic), .val (.ref aw), .val (.ref ol)] [(.int (XT.cmpL (ft (own_kx xx)) (fn6 ia xx yy zz nn ia ib ip w1 w2)))])) _
            refine XS.ifNo X122.here hx rfl (hb hby at_174) rfl (XT.ll_ne_f hc174_124) ?_
            show Steps p.tables e below (T122.setTop (mkF m 177 #[.val (.int pa), .val (.int pb), .val (.int pc_), .val (.long w1), .second, .val (.long w2), .second, .val (.int pd), .val (.int xx), .val (.int yy), .val (.int zz), .val (.int nn), .val (.int ip), .val (.int ia), .val (.int ib), .val (.int ic), .val (.ref aw), .val (.ref ol)] [])) _
            refine XS.aload X122.here hx rfl (hb hby at_177) rfl rfl ?_
            show Steps p.tables e below (T122.setTop (mkF m 179 #[.val (.int pa), .val (.int pb), .val (.int pc_), .val (.long w1), .second, .val (.long w2), .second, .val (.int pd), .val (.int xx), .val (.int yy), .val (.int zz), .val (.int nn), .val (.int ip), .val (.int ia), .val (.int ib), .val (.int ic), .val (.ref aw), .val (.ref ol)] [(.ref aw)])) _
            refine XS.iload X122.here hx rfl (hb hby at_179) rfl ?_
            show Steps p.tables e below (T122.setTop (mkF m 181 #[.val (.int pa), .val (.int pb), .val (.int pc_), .val (.long w1), .second, .val (.long w2), .second, .val (.int pd), .val (.int xx), .val (.int yy), .val (.int zz), .val (.int nn), .val (.int ip), .val (.int ia), .val (.int ib), .val (.int ic), .val (.ref aw), .val (.ref ol)] [(.int ib), (.ref aw)])) _
            refine owLdJ (k := (own_kx yy)) X122 hx hZ hE122 p113_0 (j := ib) h_kb (own_kx2 hy) (g := (mkF m 181 #[.val (.int pa), .val (.int pb), .val (.int pc_), .val (.long w1), .second, .val (.long w2), .second, .val (.int pd), .val (.int xx), .val (.int yy), .val (.int zz), .val (.int nn), .val (.int ip), .val (.int ia), .val (.int ib), .val (.int ic), .val (.ref aw), .val (.ref ol)] [(.int ib), (.ref aw)])) rfl rfl (hb hby at_181) _ ?_
            show Steps p.tables e below (T122.setTop (mkF m 182 #[.val (.int pa), .val (.int pb), .val (.int pc_), .val (.long w1), .second, .val (.long w2), .second, .val (.int pd), .val (.int xx), .val (.int yy), .val (.int zz), .val (.int nn), .val (.int ip), .val (.int ia), .val (.int ib), .val (.int ic), .val (.ref aw), .val (.ref ol)] [(.long (ft (own_kx yy)))])) _
            refine XS.iload X122.here hx rfl (hb hby at_182) rfl ?_
            show Steps p.tables e below (T122.setTop (mkF m 184 #[.val (.int pa), .val (.int pb), .val (.int pc_), .val (.long w1), .second, .val (.long w2), .second, .val (.int pd), .val (.int xx), .val (.int yy), .val (.int zz), .val (.int nn), .val (.int ip), .val (.int ia), .val (.int ib), .val (.int ic), .val (.ref aw), .val (.ref ol)] [(.int ib), (.long (ft (own_kx yy)))])) _
            refine XS.iload X122.here hx rfl (hb hby at_184) rfl ?_
            show Steps p.tables e below (T122.setTop (mkF m 186 #[.val (.int pa), .val (.int pb), .val (.int pc_), .val (.long w1), .second, .val (.long w2), .second, .val (.int pd), .val (.int xx), .val (.int yy), .val (.int zz), .val (.int nn), .val (.int ip), .val (.int ia), .val (.int ib), .val (.int ic), .val (.ref aw), .val (.ref ol)] [(.int xx), (.int ib), (.long (ft (own_kx yy)))])) _
            refine XS.iload X122.here hx rfl (hb hby at_186) rfl ?_
            show Steps p.tables e below (T122.setTop (mkF m 188 #[.val (.int pa), .val (.int pb), .val (.int pc_), .val (.long w1), .second, .val (.long w2), .second, .val (.int pd), .val (.int xx), .val (.int yy), .val (.int zz), .val (.int nn), .val (.int ip), .val (.int ia), .val (.int ib), .val (.int ic), .val (.ref aw), .val (.ref ol)] [(.int yy), (.int xx), (.int ib), (.long (ft (own_kx yy)))])) _
            refine XS.iload X122.here hx rfl (hb hby at_188) rfl ?_
            show Steps p.tables e below (T122.setTop (mkF m 190 #[.val (.int pa), .val (.int pb), .val (.int pc_), .val (.long w1), .second, .val (.long w2), .second, .val (.int pd), .val (.int xx), .val (.int yy), .val (.int zz), .val (.int nn), .val (.int ip), .val (.int ia), .val (.int ib), .val (.int ic), .val (.ref aw), .val (.ref ol)] [(.int zz), (.int yy), (.int xx), (.int ib), (.long (ft (own_kx yy)))])) _
            refine XS.iload X122.here hx rfl (hb hby at_190) rfl ?_
            show Steps p.tables e below (T122.setTop (mkF m 192 #[.val (.int pa), .val (.int pb), .val (.int pc_), .val (.long w1), .second, .val (.long w2), .second, .val (.int pd), .val (.int xx), .val (.int yy), .val (.int zz), .val (.int nn), .val (.int ip), .val (.int ia), .val (.int ib), .val (.int ic), .val (.ref aw), .val (.ref ol)] [(.int nn), (.int zz), (.int yy), (.int xx), (.int ib), (.long (ft (own_kx yy)))])) _
            refine XS.iload X122.here hx rfl (hb hby at_192) rfl ?_
            show Steps p.tables e below (T122.setTop (mkF m 194 #[.val (.int pa), .val (.int pb), .val (.int pc_), .val (.long w1), .second, .val (.long w2), .second, .val (.int pd), .val (.int xx), .val (.int yy), .val (.int zz), .val (.int nn), .val (.int ip), .val (.int ia), .val (.int ib), .val (.int ic), .val (.ref aw), .val (.ref ol)] [(.int ia), (.int nn), (.int zz), (.int yy), (.int xx), (.int ib), (.long (ft (own_kx yy)))])) _
            refine XS.iload X122.here hx rfl (hb hby at_194) rfl ?_
            show Steps p.tables e below (T122.setTop (mkF m 196 #[.val (.int pa), .val (.int pb), .val (.int pc_), .val (.long w1), .second, .val (.long w2), .second, .val (.int pd), .val (.int xx), .val (.int yy), .val (.int zz), .val (.int nn), .val (.int ip), .val (.int ia), .val (.int ib), .val (.int ic), .val (.ref aw), .val (.ref ol)] [(.int ib), (.int ia), (.int nn), (.int zz), (.int yy), (.int xx), (.int ib), (.long (ft (own_kx yy)))])) _
            refine XS.iload X122.here hx rfl (hb hby at_196) rfl ?_
            show Steps p.tables e below (T122.setTop (mkF m 198 #[.val (.int pa), .val (.int pb), .val (.int pc_), .val (.long w1), .second, .val (.long w2), .second, .val (.int pd), .val (.int xx), .val (.int yy), .val (.int zz), .val (.int nn), .val (.int ip), .val (.int ia), .val (.int ib), .val (.int ic), .val (.ref aw), .val (.ref ol)] [(.int ip), (.int ib), (.int ia), (.int nn), (.int zz), (.int yy), (.int xx), (.int ib), (.long (ft (own_kx yy)))])) _
            refine XS.lloadN X122.here hx rfl (hb hby at_198) rfl ?_
            show Steps p.tables e below (T122.setTop (mkF m 199 #[.val (.int pa), .val (.int pb), .val (.int pc_), .val (.long w1), .second, .val (.long w2), .second, .val (.int pd), .val (.int xx), .val (.int yy), .val (.int zz), .val (.int nn), .val (.int ip), .val (.int ia), .val (.int ib), .val (.int ic), .val (.ref aw), .val (.ref ol)] [(.long w1), (.int ip), (.int ib), (.int ia), (.int nn), (.int zz), (.int yy), (.int xx), (.int ib), (.long (ft (own_kx yy)))])) _
            refine XS.lload X122.here hx rfl (hb hby at_199) rfl ?_
            show Steps p.tables e below (T122.setTop (mkF m 201 #[.val (.int pa), .val (.int pb), .val (.int pc_), .val (.long w1), .second, .val (.long w2), .second, .val (.int pd), .val (.int xx), .val (.int yy), .val (.int zz), .val (.int nn), .val (.int ip), .val (.int ia), .val (.int ib), .val (.int ic), .val (.ref aw), .val (.ref ol)] [(.long w2), (.long w1), (.int ip), (.int ib), (.int ia), (.int nn), (.int zz), (.int yy), (.int xx), (.int ib), (.long (ft (own_kx yy)))])) _
            refine st125 _ ?_
            show Steps p.tables e below (T125.setTop (mkF m 204 #[.val (.int pa), .val (.int pb), .val (.int pc_), .val (.long w1), .second, .val (.long w2), .second, .val (.int pd), .val (.int xx), .val (.int yy), .val (.int zz), .val (.int nn), .val (.int ip), .val (.int ia), .val (.int ib), .val (.int ic), .val (.ref aw), .val (.ref ol)] [(.long (fn6 ib xx yy zz nn ia ib ip w1 w2)), (.long (ft (own_kx yy)))])) _
            refine XT.lcmp X125.here hx rfl (hb hby at_204) rfl ?_
            exact kt
          by_cases hc205_127 : (ft (own_kx yy)) = (fn6 ib xx yy zz nn ia ib ip w1 w2)
          · skip
            obtain ⟨_, _, ⟨T128, L128, k128, n128⟩, -, X128, ⟨Lc128, hQ128, l128, y128, z128⟩, st128⟩ := Jvm.LawKit.callS X125 hx (y := (⟨"com/example/bitweight/bitweight/chunk/ArrayChunkOrIntoPinLaw", "expected", "(IIIIIIIIJJ)J"⟩ : MethodName)) hown (mvT hZ (hw _ (List.mem_of_getElem? (i := 32) rfl))) (mvT hZ (hw _ (List.mem_of_getElem? (i := 33) rfl))) (mvT hZ (hw _ (List.mem_of_getElem? (i := 34) rfl))) (mvT hZ (hw _ (List.mem_of_getElem? (i := 35) rfl))) (by decide) (backOf (W := 2) (rm6 l Z a0 hw [] ic xx yy zz nn ia ib ip w1 w2 T113.heap n0 Z121) hZ (hw _ (List.mem_of_getElem? (i := 35) rfl)) (hw _ (List.mem_of_getElem? (i := 34) rfl)) (by decide) (by decide)) (g := (mkF m 232 #[.val (.int pa), .val (.int pb), .val (.int pc_), .val (.long w1), .second, .val (.long w2), .second, .val (.int pd), .val (.int xx), .val (.int yy), .val (.int zz), .val (.int nn), .val (.int ip), .val (.int ia), .val (.int ib), .val (.int ic), .val (.ref aw), .val (.ref ol)] [(.long w2), (.long w1), (.int ip), (.int ib), (.int ia), (.int nn), (.int zz), (.int yy), (.int xx), (.int ic), (.long (ft (own_kx zz)))])) rfl (by rw [hml]; rfl) (argsL := [(.int ic), (.int xx), (.int yy), (.int zz), (.int nn), (.int ia), (.int ib), (.int ip), (.long w1), (.long w2)]) (rest := [(.long (ft (own_kx zz)))]) (lenOf pd_12 rfl) rfl (by show 2 * 0 + _ ≤ _; exact Nat.le_of_eq rfl) (hb hby at_232) (fun _ _ => ⟨rfl, hE125, (by decide : 3 + 0 ≤ _), (by decide : 1031 + 0 ≤ _)⟩)
            dsimp only [Pt.U, Pt.locs, Pt.cells, Pt.slots] at X128 l128 y128 z128 st128 hQ128
            subst l128 y128 z128
            obtain ⟨rfl, N128q, hE128⟩ := hQ128
            have N128 := Fr.app N125 N128q
            have pre129 : ∀ t, Steps p.tables e below (T128.setTop (mkF m 236 #[.val (.int pa), .val (.int pb), .val (.int pc_), .val (.long w1), .second, .val (.long w2), .second, .val (.int pd), .val (.int xx), .val (.int yy), .val (.int zz), .val (.int nn), .val (.int ip), .val (.int ia), .val (.int ib), .val (.int ic), .val (.ref aw), .val (.ref ol)] [(.int (XT.cmpL (ft (own_kx zz)) (fn6 ic xx yy zz nn ia ib ip w1 w2)))])) t → Steps p.tables e below (s₁.setTop (entryFrame m #[(.int pa), (.int pb), (.int pc_), (.long w1), (.long w2), (.int pd)] maxLocals)) t := by
              intro t kt
              refine pre126 _ ?_
              show Steps p.tables e below (T125.setTop (mkF m 205 #[.val (.int pa), .val (.int pb), .val (.int pc_), .val (.long w1), .second, .val (.long w2), .second, .val (.int pd), .val (.int xx), .val (.int yy), .val (.int zz), .val (.int nn), .val (.int ip), .val (.int ia), .val (.int ib), .val (.int ic), .val (.ref aw), .val (.ref ol)] [(.int (XT.cmpL (ft (own_kx yy)) (fn6 ib xx yy zz nn ia ib ip w1 w2)))])) _
              refine XS.ifNo X125.here hx rfl (hb hby at_205) rfl (XT.ll_ne_f hc205_127) ?_
              show Steps p.tables e below (T125.setTop (mkF m 208 #[.val (.int pa), .val (.int pb), .val (.int pc_), .val (.long w1), .second, .val (.long w2), .second, .val (.int pd), .val (.int xx), .val (.int yy), .val (.int zz), .val (.int nn), .val (.int ip), .val (.int ia), .val (.int ib), .val (.int ic), .val (.ref aw), .val (.ref ol)] [])) _
              refine XS.aload X125.here hx rfl (hb hby at_208) rfl rfl ?_
              show Steps p.tables e below (T125.setTop (mkF m 210 #[.val (.int pa), .val (.int pb), .val (.int pc_), .val (.long w1), .second, .val (.long w2), .second, .val (.int pd), .val (.int xx), .val (.int yy), .val (.int zz), .val (.int nn), .val (.int ip), .val (.int ia), .val (.int ib), .val (.int ic), .val (.ref aw), .val (.ref ol)] [(.ref aw)])) _
              refine XS.iload X125.here hx rfl (hb hby at_210) rfl ?_
              show Steps p.tables e below (T125.setTop (mkF m 212 #[.val (.int pa), .val (.int pb), .val (.int pc_), .val (.long w1), .second, .val (.long w2), .second, .val (.int pd), .val (.int xx), .val (.int yy), .val (.int zz), .val (.int nn), .val (.int ip), .val (.int ia), .val (.int ib), .val (.int ic), .val (.ref aw), .val (.ref ol)] [(.int ic), (.ref aw)])) _
              refine owLdJ (k := (own_kx zz)) X125 hx hZ hE125 p113_0 (j := ic) h_kc (own_kx2 hz) (g := (mkF m 212 #[.val (.int pa), .val (.int pb), .val (.int pc_), .val (.long w1), .second, .val (.long w2), .second, .val (.int pd), .val (.int xx), .val (.int yy), .val (.int zz), .val (.int nn), .val (.int ip), .val (.int ia), .val (.int ib), .val (.int ic), .val (.ref aw), .val (.ref ol)] [(.int ic), (.ref aw)])) rfl rfl (hb hby at_212) _ ?_
              show Steps p.tables e below (T125.setTop (mkF m 213 #[.val (.int pa), .val (.int pb), .val (.int pc_), .val (.long w1), .second, .val (.long w2), .second, .val (.int pd), .val (.int xx), .val (.int yy), .val (.int zz), .val (.int nn), .val (.int ip), .val (.int ia), .val (.int ib), .val (.int ic), .val (.ref aw), .val (.ref ol)] [(.long (ft (own_kx zz)))])) _
              refine XS.iload X125.here hx rfl (hb hby at_213) rfl ?_
              show Steps p.tables e below (T125.setTop (mkF m 215 #[.val (.int pa), .val (.int pb), .val (.int pc_), .val (.long w1), .second, .val (.long w2), .second, .val (.int pd), .val (.int xx), .val (.int yy), .val (.int zz), .val (.int nn), .val (.int ip), .val (.int ia), .val (.int ib), .val (.int ic), .val (.ref aw), .val (.ref ol)] [(.int ic), (.long (ft (own_kx zz)))])) _
              refine XS.iload X125.here hx rfl (hb hby at_215) rfl ?_
              show Steps p.tables e below (T125.setTop (mkF m 217 #[.val (.int pa), .val (.int pb), .val (.int pc_), .val (.long w1), .second, .val (.long w2), .second, .val (.int pd), .val (.int xx), .val (.int yy), .val (.int zz), .val (.int nn), .val (.int ip), .val (.int ia), .val (.int ib), .val (.int ic), .val (.ref aw), .val (.ref ol)] [(.int xx), (.int ic), (.long (ft (own_kx zz)))])) _
              refine XS.iload X125.here hx rfl (hb hby at_217) rfl ?_
              show Steps p.tables e below (T125.setTop (mkF m 219 #[.val (.int pa), .val (.int pb), .val (.int pc_), .val (.long w1), .second, .val (.long w2), .second, .val (.int pd), .val (.int xx), .val (.int yy), .val (.int zz), .val (.int nn), .val (.int ip), .val (.int ia), .val (.int ib), .val (.int ic), .val (.ref aw), .val (.ref ol)] [(.int yy), (.int xx), (.int ic), (.long (ft (own_kx zz)))])) _
              refine XS.iload X125.here hx rfl (hb hby at_219) rfl ?_
              show Steps p.tables e below (T125.setTop (mkF m 221 #[.val (.int pa), .val (.int pb), .val (.int pc_), .val (.long w1), .second, .val (.long w2), .second, .val (.int pd), .val (.int xx), .val (.int yy), .val (.int zz), .val (.int nn), .val (.int ip), .val (.int ia), .val (.int ib), .val (.int ic), .val (.ref aw), .val (.ref ol)] [(.int zz), (.int yy), (.int xx), (.int ic), (.long (ft (own_kx zz)))])) _
              refine XS.iload X125.here hx rfl (hb hby at_221) rfl ?_
              show Steps p.tables e below (T125.setTop (mkF m 223 #[.val (.int pa), .val (.int pb), .val (.int pc_), .val (.long w1), .second, .val (.long w2), .second, .val (.int pd), .val (.int xx), .val (.int yy), .val (.int zz), .val (.int nn), .val (.int ip), .val (.int ia), .val (.int ib), .val (.int ic), .val (.ref aw), .val (.ref ol)] [(.int nn), (.int zz), (.int yy), (.int xx), (.int ic), (.long (ft (own_kx zz)))])) _
              refine XS.iload X125.here hx rfl (hb hby at_223) rfl ?_
              show Steps p.tables e below (T125.setTop (mkF m 225 #[.val (.int pa), .val (.int pb), .val (.int pc_), .val (.long w1), .second, .val (.long w2), .second, .val (.int pd), .val (.int xx), .val (.int yy), .val (.int zz), .val (.int nn), .val (.int ip), .val (.int ia), .val (.int ib), .val (.int ic), .val (.ref aw), .val (.ref ol)] [(.int ia), (.int nn), (.int zz), (.int yy), (.int xx), (.int ic), (.long (ft (own_kx zz)))])) _
              refine XS.iload X125.here hx rfl (hb hby at_225) rfl ?_
              show Steps p.tables e below (T125.setTop (mkF m 227 #[.val (.int pa), .val (.int pb), .val (.int pc_), .val (.long w1), .second, .val (.long w2), .second, .val (.int pd), .val (.int xx), .val (.int yy), .val (.int zz), .val (.int nn), .val (.int ip), .val (.int ia), .val (.int ib), .val (.int ic), .val (.ref aw), .val (.ref ol)] [(.int ib), (.int ia), (.int nn), (.int zz), (.int yy), (.int xx), (.int ic), (.long (ft (own_kx zz)))])) _
              refine XS.iload X125.here hx rfl (hb hby at_227) rfl ?_
              show Steps p.tables e below (T125.setTop (mkF m 229 #[.val (.int pa), .val (.int pb), .val (.int pc_), .val (.long w1), .second, .val (.long w2), .second, .val (.int pd), .val (.int xx), .val (.int yy), .val (.int zz), .val (.int nn), .val (.int ip), .val (.int ia), .val (.int ib), .val (.int ic), .val (.ref aw), .val (.ref ol)] [(.int ip), (.int ib), (.int ia), (.int nn), (.int zz), (.int yy), (.int xx), (.int ic), (.long (ft (own_kx zz)))])) _
              refine XS.lloadN X125.here hx rfl (hb hby at_229) rfl ?_
              show Steps p.tables e below (T125.setTop (mkF m 230 #[.val (.int pa), .val (.int pb), .val (.int pc_), .val (.long w1), .second, .val (.long w2), .second, .val (.int pd), .val (.int xx), .val (.int yy), .val (.int zz), .val (.int nn), .val (.int ip), .val (.int ia), .val (.int ib), .val (.int ic), .val (.ref aw), .val (.ref ol)] [(.long w1), (.int ip), (.int ib), (.int ia), (.int nn), (.int zz), (.int yy), (.int xx), (.int ic), (.long (ft (own_kx zz)))])) _
              refine XS.lload X125.here hx rfl (hb hby at_230) rfl ?_
              show Steps p.tables e below (T125.setTop (mkF m 232 #[.val (.int pa), .val (.int pb), .val (.int pc_), .val (.long w1), .second, .val (.long w2), .second, .val (.int pd), .val (.int xx), .val (.int yy), .val (.int zz), .val (.int nn), .val (.int ip), .val (.int ia), .val (.int ib), .val (.int ic), .val (.ref aw), .val (.ref ol)] [(.long w2), (.long w1), (.int ip), (.int ib), (.int ia), (.int nn), (.int zz), (.int yy), (.int xx), (.int ic), (.long (ft (own_kx zz)))])) _
              refine st128 _ ?_
              show Steps p.tables e below (T128.setTop (mkF m 235 #[.val (.int pa), .val (.int pb), .val (.int pc_), .val (.long w1), .second, .val (.long w2), .second, .val (.int pd), .val (.int xx), .val (.int yy), .val (.int zz), .val (.int nn), .val (.int ip), .val (.int ia), .val (.int ib), .val (.int ic), .val (.ref aw), .val (.ref ol)] [(.long (fn6 ic xx yy zz nn ia ib ip w1 w2)), (.long (ft (own_kx zz)))])) _
              refine XT.lcmp X128.here hx rfl (hb hby at_235) rfl ?_
              exact kt
            by_cases hc236_130 : (ft (own_kx zz)) = (fn6 ic xx yy zz nn ia ib ip w1 w2)
            · skip
              obtain ⟨_, _, ⟨T131, L131, k131, n131⟩, -, X131, ⟨Lc131, hQ131, l131, y131, z131⟩, st131⟩ := Jvm.LawKit.callS X128 hx (y := (⟨"com/example/bitweight/bitweight/chunk/ArrayChunkOrIntoPinLaw", "expected", "(IIIIIIIIJJ)J"⟩ : MethodName)) hown (mvT hZ (hw _ (List.mem_of_getElem? (i := 32) rfl))) (mvT hZ (hw _ (List.mem_of_getElem? (i := 33) rfl))) (mvT hZ (hw _ (List.mem_of_getElem? (i := 34) rfl))) (mvT hZ (hw _ (List.mem_of_getElem? (i := 35) rfl))) (by decide) (backOf (W := 2) (rm6 l Z a0 hw [] ip xx yy zz nn ia ib ip w1 w2 T113.heap n0 Z121) hZ (hw _ (List.mem_of_getElem? (i := 35) rfl)) (hw _ (List.mem_of_getElem? (i := 34) rfl)) (by decide) (by decide)) (g := (mkF m 263 #[.val (.int pa), .val (.int pb), .val (.int pc_), .val (.long w1), .second, .val (.long w2), .second, .val (.int pd), .val (.int xx), .val (.int yy), .val (.int zz), .val (.int nn), .val (.int ip), .val (.int ia), .val (.int ib), .val (.int ic), .val (.ref aw), .val (.ref ol)] [(.long w2), (.long w1), (.int ip), (.int ib), (.int ia), (.int nn), (.int zz), (.int yy), (.int xx), (.int ip), (.long (ft kp))])) rfl (by rw [hml]; rfl) (argsL := [(.int ip), (.int xx), (.int yy), (.int zz), (.int nn), (.int ia), (.int ib), (.int ip), (.long w1), (.long w2)]) (rest := [(.long (ft kp))]) (lenOf pd_12 rfl) rfl (by show 2 * 0 + _ ≤ _; exact Nat.le_of_eq rfl) (hb hby at_263) (fun _ _ => ⟨rfl, hE128, (by decide : 3 + 0 ≤ _), (by decide : 1031 + 0 ≤ _)⟩)
              dsimp only [Pt.U, Pt.locs, Pt.cells, Pt.slots] at X131 l131 y131 z131 st131 hQ131
              subst l131 y131 z131
              obtain ⟨rfl, N131q, hE131⟩ := hQ131
              have N131 := Fr.app N128 N131q
              have pre132 : ∀ t, Steps p.tables e below (T131.setTop (mkF m 267 #[.val (.int pa), .val (.int pb), .val (.int pc_), .val (.long w1), .second, .val (.long w2), .second, .val (.int pd), .val (.int xx), .val (.int yy), .val (.int zz), .val (.int nn), .val (.int ip), .val (.int ia), .val (.int ib), .val (.int ic), .val (.ref aw), .val (.ref ol)] [(.int (XT.cmpL (ft kp) (fn6 ip xx yy zz nn ia ib ip w1 w2)))])) t → Steps p.tables e below (s₁.setTop (entryFrame m #[(.int pa), (.int pb), (.int pc_), (.long w1), (.long w2), (.int pd)] maxLocals)) t := by
                intro t kt
                refine pre129 _ ?_
                show Steps p.tables e below (T128.setTop (mkF m 236 #[.val (.int pa), .val (.int pb), .val (.int pc_), .val (.long w1), .second, .val (.long w2), .second, .val (.int pd), .val (.int xx), .val (.int yy), .val (.int zz), .val (.int nn), .val (.int ip), .val (.int ia), .val (.int ib), .val (.int ic), .val (.ref aw), .val (.ref ol)] [(.int (XT.cmpL (ft (own_kx zz)) (fn6 ic xx yy zz nn ia ib ip w1 w2)))])) _
                refine XS.ifNo X128.here hx rfl (hb hby at_236) rfl (XT.ll_ne_f hc236_130) ?_
                show Steps p.tables e below (T128.setTop (mkF m 239 #[.val (.int pa), .val (.int pb), .val (.int pc_), .val (.long w1), .second, .val (.long w2), .second, .val (.int pd), .val (.int xx), .val (.int yy), .val (.int zz), .val (.int nn), .val (.int ip), .val (.int ia), .val (.int ib), .val (.int ic), .val (.ref aw), .val (.ref ol)] [])) _
                refine XS.aload X128.here hx rfl (hb hby at_239) rfl rfl ?_
                show Steps p.tables e below (T128.setTop (mkF m 241 #[.val (.int pa), .val (.int pb), .val (.int pc_), .val (.long w1), .second, .val (.long w2), .second, .val (.int pd), .val (.int xx), .val (.int yy), .val (.int zz), .val (.int nn), .val (.int ip), .val (.int ia), .val (.int ib), .val (.int ic), .val (.ref aw), .val (.ref ol)] [(.ref aw)])) _
                refine XS.iload X128.here hx rfl (hb hby at_241) rfl ?_
                show Steps p.tables e below (T128.setTop (mkF m 243 #[.val (.int pa), .val (.int pb), .val (.int pc_), .val (.long w1), .second, .val (.long w2), .second, .val (.int pd), .val (.int xx), .val (.int yy), .val (.int zz), .val (.int nn), .val (.int ip), .val (.int ia), .val (.int ib), .val (.int ic), .val (.ref aw), .val (.ref ol)] [(.int ip), (.ref aw)])) _
                refine owLdJ (k := kp) X128 hx hZ hE128 p113_0 (j := ip) h_kp h_kp2 (g := (mkF m 243 #[.val (.int pa), .val (.int pb), .val (.int pc_), .val (.long w1), .second, .val (.long w2), .second, .val (.int pd), .val (.int xx), .val (.int yy), .val (.int zz), .val (.int nn), .val (.int ip), .val (.int ia), .val (.int ib), .val (.int ic), .val (.ref aw), .val (.ref ol)] [(.int ip), (.ref aw)])) rfl rfl (hb hby at_243) _ ?_
                show Steps p.tables e below (T128.setTop (mkF m 244 #[.val (.int pa), .val (.int pb), .val (.int pc_), .val (.long w1), .second, .val (.long w2), .second, .val (.int pd), .val (.int xx), .val (.int yy), .val (.int zz), .val (.int nn), .val (.int ip), .val (.int ia), .val (.int ib), .val (.int ic), .val (.ref aw), .val (.ref ol)] [(.long (ft kp))])) _
                refine XS.iload X128.here hx rfl (hb hby at_244) rfl ?_
                show Steps p.tables e below (T128.setTop (mkF m 246 #[.val (.int pa), .val (.int pb), .val (.int pc_), .val (.long w1), .second, .val (.long w2), .second, .val (.int pd), .val (.int xx), .val (.int yy), .val (.int zz), .val (.int nn), .val (.int ip), .val (.int ia), .val (.int ib), .val (.int ic), .val (.ref aw), .val (.ref ol)] [(.int ip), (.long (ft kp))])) _
                refine XS.iload X128.here hx rfl (hb hby at_246) rfl ?_
                show Steps p.tables e below (T128.setTop (mkF m 248 #[.val (.int pa), .val (.int pb), .val (.int pc_), .val (.long w1), .second, .val (.long w2), .second, .val (.int pd), .val (.int xx), .val (.int yy), .val (.int zz), .val (.int nn), .val (.int ip), .val (.int ia), .val (.int ib), .val (.int ic), .val (.ref aw), .val (.ref ol)] [(.int xx), (.int ip), (.long (ft kp))])) _
                refine XS.iload X128.here hx rfl (hb hby at_248) rfl ?_
                show Steps p.tables e below (T128.setTop (mkF m 250 #[.val (.int pa), .val (.int pb), .val (.int pc_), .val (.long w1), .second, .val (.long w2), .second, .val (.int pd), .val (.int xx), .val (.int yy), .val (.int zz), .val (.int nn), .val (.int ip), .val (.int ia), .val (.int ib), .val (.int ic), .val (.ref aw), .val (.ref ol)] [(.int yy), (.int xx), (.int ip), (.long (ft kp))])) _
                refine XS.iload X128.here hx rfl (hb hby at_250) rfl ?_
                show Steps p.tables e below (T128.setTop (mkF m 252 #[.val (.int pa), .val (.int pb), .val (.int pc_), .val (.long w1), .second, .val (.long w2), .second, .val (.int pd), .val (.int xx), .val (.int yy), .val (.int zz), .val (.int nn), .val (.int ip), .val (.int ia), .val (.int ib), .val (.int ic), .val (.ref aw), .val (.ref ol)] [(.int zz), (.int yy), (.int xx), (.int ip), (.long (ft kp))])) _
                refine XS.iload X128.here hx rfl (hb hby at_252) rfl ?_
                show Steps p.tables e below (T128.setTop (mkF m 254 #[.val (.int pa), .val (.int pb), .val (.int pc_), .val (.long w1), .second, .val (.long w2), .second, .val (.int pd), .val (.int xx), .val (.int yy), .val (.int zz), .val (.int nn), .val (.int ip), .val (.int ia), .val (.int ib), .val (.int ic), .val (.ref aw), .val (.ref ol)] [(.int nn), (.int zz), (.int yy), (.int xx), (.int ip), (.long (ft kp))])) _
                refine XS.iload X128.here hx rfl (hb hby at_254) rfl ?_
                show Steps p.tables e below (T128.setTop (mkF m 256 #[.val (.int pa), .val (.int pb), .val (.int pc_), .val (.long w1), .second, .val (.long w2), .second, .val (.int pd), .val (.int xx), .val (.int yy), .val (.int zz), .val (.int nn), .val (.int ip), .val (.int ia), .val (.int ib), .val (.int ic), .val (.ref aw), .val (.ref ol)] [(.int ia), (.int nn), (.int zz), (.int yy), (.int xx), (.int ip), (.long (ft kp))])) _
                refine XS.iload X128.here hx rfl (hb hby at_256) rfl ?_
                show Steps p.tables e below (T128.setTop (mkF m 258 #[.val (.int pa), .val (.int pb), .val (.int pc_), .val (.long w1), .second, .val (.long w2), .second, .val (.int pd), .val (.int xx), .val (.int yy), .val (.int zz), .val (.int nn), .val (.int ip), .val (.int ia), .val (.int ib), .val (.int ic), .val (.ref aw), .val (.ref ol)] [(.int ib), (.int ia), (.int nn), (.int zz), (.int yy), (.int xx), (.int ip), (.long (ft kp))])) _
                refine XS.iload X128.here hx rfl (hb hby at_258) rfl ?_
                show Steps p.tables e below (T128.setTop (mkF m 260 #[.val (.int pa), .val (.int pb), .val (.int pc_), .val (.long w1), .second, .val (.long w2), .second, .val (.int pd), .val (.int xx), .val (.int yy), .val (.int zz), .val (.int nn), .val (.int ip), .val (.int ia), .val (.int ib), .val (.int ic), .val (.ref aw), .val (.ref ol)] [(.int ip), (.int ib), (.int ia), (.int nn), (.int zz), (.int yy), (.int xx), (.int ip), (.long (ft kp))])) _
                refine XS.lloadN X128.here hx rfl (hb hby at_260) rfl ?_
                show Steps p.tables e below (T128.setTop (mkF m 261 #[.val (.int pa), .val (.int pb), .val (.int pc_), .val (.long w1), .second, .val (.long w2), .second, .val (.int pd), .val (.int xx), .val (.int yy), .val (.int zz), .val (.int nn), .val (.int ip), .val (.int ia), .val (.int ib), .val (.int ic), .val (.ref aw), .val (.ref ol)] [(.long w1), (.int ip), (.int ib), (.int ia), (.int nn), (.int zz), (.int yy), (.int xx), (.int ip), (.long (ft kp))])) _
                refine XS.lload X128.here hx rfl (hb hby at_261) rfl ?_
                show Steps p.tables e below (T128.setTop (mkF m 263 #[.val (.int pa), .val (.int pb), .val (.int pc_), .val (.long w1), .second, .val (.long w2), .second, .val (.int pd), .val (.int xx), .val (.int yy), .val (.int zz), .val (.int nn), .val (.int ip), .val (.int ia), .val (.int ib), .val (.int ic), .val (.ref aw), .val (.ref ol)] [(.long w2), (.long w1), (.int ip), (.int ib), (.int ia), (.int nn), (.int zz), (.int yy), (.int xx), (.int ip), (.long (ft kp))])) _
                refine st131 _ ?_
                show Steps p.tables e below (T131.setTop (mkF m 266 #[.val (.int pa), .val (.int pb), .val (.int pc_), .val (.long w1), .second, .val (.long w2), .second, .val (.int pd), .val (.int xx), .val (.int yy), .val (.int zz), .val (.int nn), .val (.int ip), .val (.int ia), .val (.int ib), .val (.int ic), .val (.ref aw), .val (.ref ol)] [(.long (fn6 ip xx yy zz nn ia ib ip w1 w2)), (.long (ft kp))])) _
                refine XT.lcmp X131.here hx rfl (hb hby at_266) rfl ?_
                exact kt
              by_cases hc267_133 : (ft kp) = (fn6 ip xx yy zz nn ia ib ip w1 w2)
              · skip
                have pre134 : ∀ t, Steps p.tables e below (T131.setTop (mkF m 275 #[.val (.int pa), .val (.int pb), .val (.int pc_), .val (.long w1), .second, .val (.long w2), .second, .val (.int pd), .val (.int xx), .val (.int yy), .val (.int zz), .val (.int nn), .val (.int ip), .val (.int ia), .val (.int ib), .val (.int ic), .val (.ref aw), .val (.ref ol)] [(.int (1 : Int32))])) t → Steps p.tables e below (s₁.setTop (entryFrame m #[(.int pa), (.int pb), (.int pc_), (.long w1), (.long w2), (.int pd)] maxLocals)) t := by
                  intro t kt
                  refine pre132 _ ?_
                  show Steps p.tables e below (T131.setTop (mkF m 267 #[.val (.int pa), .val (.int pb), .val (.int pc_), .val (.long w1), .second, .val (.long w2), .second, .val (.int pd), .val (.int xx), .val (.int yy), .val (.int zz), .val (.int nn), .val (.int ip), .val (.int ia), .val (.int ib), .val (.int ic), .val (.ref aw), .val (.ref ol)] [(.int (XT.cmpL (ft kp) (fn6 ip xx yy zz nn ia ib ip w1 w2)))])) _
                  refine XS.ifNo X131.here hx rfl (hb hby at_267) rfl (XT.ll_ne_f hc267_133) ?_
                  show Steps p.tables e below (T131.setTop (mkF m 270 #[.val (.int pa), .val (.int pb), .val (.int pc_), .val (.long w1), .second, .val (.long w2), .second, .val (.int pd), .val (.int xx), .val (.int yy), .val (.int zz), .val (.int nn), .val (.int ip), .val (.int ia), .val (.int ib), .val (.int ic), .val (.ref aw), .val (.ref ol)] [])) _
                  refine XS.iconst X131.here hx rfl (hb hby at_270) ?_
                  show Steps p.tables e below (T131.setTop (mkF m 271 #[.val (.int pa), .val (.int pb), .val (.int pc_), .val (.long w1), .second, .val (.long w2), .second, .val (.int pd), .val (.int xx), .val (.int yy), .val (.int zz), .val (.int nn), .val (.int ip), .val (.int ia), .val (.int ib), .val (.int ic), .val (.ref aw), .val (.ref ol)] [(.int (1 : Int32))])) _
                  refine XS.goto X131.here hx rfl (pc0 := 271) (pc' := 275) rfl (hb hby at_271) (by decide) (by decide) ?_
                  exact kt
                obtain ⟨fs, hr, hrun, hended, hW, hsame⟩ := X131.leave (v := some (.int (1 : Int32))) (fun h => by rw [Bd.returns] at h; cases h)
                refine ⟨_, _, pre134 _ ?_, hrun, hended, _, _, rfl, ?_, ⟨_, rfl⟩, hW, hsame.mono (by decide) (by decide)⟩
                · show Steps p.tables e below (T131.setTop (mkF m 275 #[.val (.int pa), .val (.int pb), .val (.int pc_), .val (.long w1), .second, .val (.long w2), .second, .val (.int pd), .val (.int xx), .val (.int yy), .val (.int zz), .val (.int nn), .val (.int ip), .val (.int ia), .val (.int ib), .val (.int ic), .val (.ref aw), .val (.ref ol)] [(.int (1 : Int32))])) _
                  exact retN X131 hx (t := .boolean) Bd.returns (by simp) (hb hby at_275) hr
                · show Q0 Z pa pb pc_ w1 w2 pd an ar h0 n0 _ T131.heap _
                  rw [hE131]
                  exact ⟨rfl, N131⟩
              · skip
                exact absurd (own_law xx yy zz nn ia ib ip ip w1 w2 fz ff1 cc1 mm1 (own_kx xx) (own_kx yy) kp kp ft h_ft h_fz h_kp h_ka h_kb h_kp hm1 (by have := rs1.2.1; omega) hxx hy hz hset) hc267_133
            · skip
              exact absurd (own_law xx yy zz nn ia ib ip ic w1 w2 fz ff1 cc1 mm1 (own_kx xx) (own_kx yy) kp (own_kx zz) ft h_ft h_fz h_kc h_ka h_kb h_kp hm1 (by have := rs1.2.1; omega) hxx hy hz hset) hc236_130
          · skip
            exact absurd (own_law xx yy zz nn ia ib ip ib w1 w2 fz ff1 cc1 mm1 (own_kx xx) (own_kx yy) kp (own_kx yy) ft h_ft h_fz h_kb h_ka h_kb h_kp hm1 (by have := rs1.2.1; omega) hxx hy hz hset) hc205_127
        · skip
          exact absurd (own_law xx yy zz nn ia ib ip ia w1 w2 fz ff1 cc1 mm1 (own_kx xx) (own_kx yy) kp (own_kx xx) ft h_ft h_fz h_ka h_ka h_kb h_kp hm1 (by have := rs1.2.1; omega) hxx hy hz hset) hc174_124
      · skip
        obtain ⟨cq135, kq135, q135a, q135b, q135c⟩ := isOf hZ rfl p102_E
        obtain ⟨_, _, ⟨T135, L135, k135, n135⟩, -, X135, ⟨Lc135, hQ135, l135, y135, z135⟩, st135⟩ := X102.virtualBack hx (y := (⟨"com/example/bitweight/bitweight/chunk/ArrayChunk", "add", "(C)Lcom/example/bitweight/bitweight/chunk/Chunk;"⟩ : MethodName)) (z := (⟨"com/example/bitweight/bitweight/chunk/ArrayChunk", "add", "(C)Lcom/example/bitweight/bitweight/chunk/Chunk;"⟩ : MethodName)) hown (mvT hZ (hw _ (List.mem_of_getElem? (i := 42) rfl))) (mvT hZ (hw _ (List.mem_of_getElem? (i := 43) rfl))) (notFace_of_selects (args := #[]) (mvT hZ (hw _ (List.mem_of_getElem? (i := 45) rfl)))) (mvT hZ (hw _ (List.mem_of_getElem? (i := 45) rfl))) (mvT hZ (hw _ (List.mem_of_getElem? (i := 44) rfl))) (by decide) (backOf (W := 0) (rm9b l Z a0 hw [] ol (zz.toUInt32.toUInt16.toUInt32.toInt32) bn an ar cc1 rn1 ff1 mm1 T102.heap n0 Z110 p102_E p102_v p102_c p102_r p102_A (A_an.ext f103.2) (S_none.ext f103.2) (S_room.ext f103.2) (E_ar.ext f103.2) g_ol g_bn ne_ol_bn nol_n nbn_n (own_chr _) hm1 rs1.1 (by have := rs1.2.1; omega) rs1.2.2.1) hZ (hw _ (List.mem_of_getElem? (i := 46) rfl)) (hw _ (List.mem_of_getElem? (i := 4) rfl)) (by decide) (by decide)) q135a q135c (g := (mkF m 135 #[.val (.int pa), .val (.int pb), .val (.int pc_), .val (.long w1), .second, .val (.long w2), .second, .val (.int pd), .val (.int xx), .val (.int yy), .val (.int zz), .val (.int nn), .val (.int ip), .val (.int ia), .val (.int ib), .val (.int ic), .val (.ref aw), .val (.ref ol)] [(.int (zz.toUInt32.toUInt16.toUInt32.toInt32)), (.ref ol)])) rfl (by rw [hml]; rfl) (Steps.refl _) (argsL := [(.int (zz.toUInt32.toUInt16.toUInt32.toInt32))]) (rest := []) (lenOf pd_13 rfl) rfl (by show 2 * 0 + _ ≤ _; exact Nat.le_of_eq rfl) (hb hby at_135) (fun _ _ => ⟨rfl, rfl, (by decide : 3 + 0 ≤ _), (by decide : 1031 + 0 ≤ _)⟩)
        dsimp only [Pt.U, Pt.locs, Pt.cells, Pt.slots] at X135 l135 y135 z135 st135 hQ135
        subst l135 y135 z135
        obtain ⟨rn2, cc2, ff2, mm2, rfl, N135q, K135, p135_E, p135_v, p135_c, p135_r, p135_A, hm2, rs2⟩ := hQ135
        have N135 := Fr.app N102 N135q
        have f136 := f103.keep K135 (allS g_ol (allS g_bn all0))
        have f137 := f104.keep K135 (ninS ne_aw_ol (ninS ne_aw_bn nin0))
        have f138 := p102_E.keep K135
        have Z143 := Nat.le_trans Z110 K135.1
        obtain ⟨cq144, kq144, q144a, q144b, q144c⟩ := isOf hZ rfl p135_E
        obtain ⟨_, _, ⟨T144, L144, k144, n144⟩, -, X144, ⟨Lc144, hQ144, l144, y144, z144⟩, st144⟩ := X135.virtualBack hx (y := (⟨"com/example/bitweight/bitweight/chunk/ArrayChunk", "orInto", "([J)V"⟩ : MethodName)) (z := (⟨"com/example/bitweight/bitweight/chunk/ArrayChunk", "orInto", "([J)V"⟩ : MethodName)) hown (mvT hZ (hw _ (List.mem_of_getElem? (i := 27) rfl))) (mvT hZ (hw _ (List.mem_of_getElem? (i := 28) rfl))) (notFace_of_selects (args := #[]) (mvT hZ (hw _ (List.mem_of_getElem? (i := 30) rfl)))) (mvT hZ (hw _ (List.mem_of_getElem? (i := 30) rfl))) (mvT hZ (hw _ (List.mem_of_getElem? (i := 29) rfl))) (by decide) (backOf (W := 0) (rm5 l Z a0 hw [] ol aw bn cc2 ff2 fz T135.heap n0 Z143 p135_v p135_c (Or.inr p135_A) f137 g_aw (Ne.symm ne_aw_ol) (Ne.symm ne_aw_bn) rs2.2.2.1.1 (own_le3 hm2 (by have := rs2.2.1; have := rs1.2.1; omega))) hZ (hw _ (List.mem_of_getElem? (i := 31) rfl)) (hw _ (List.mem_of_getElem? (i := 4) rfl)) (by decide) (by decide)) q144a q144c (g := (mkF m 143 #[.val (.int pa), .val (.int pb), .val (.int pc_), .val (.long w1), .second, .val (.long w2), .second, .val (.int pd), .val (.int xx), .val (.int yy), .val (.int zz), .val (.int nn), .val (.int ip), .val (.int ia), .val (.int ib), .val (.int ic), .val (.ref aw), .val (.ref ol)] [(.ref aw), (.ref ol)])) rfl (by rw [hml]; rfl) (Steps.refl _) (argsL := [(.ref aw)]) (rest := []) (lenOf pd_11 rfl) rfl (by show 2 * 0 + _ ≤ _; exact Nat.le_of_eq rfl) (hb hby at_143) (fun _ _ => ⟨rfl, rfl, (by decide : 3 + 0 ≤ _), (by decide : 1031 + 0 ≤ _)⟩)
        dsimp only [Pt.U, Pt.locs, Pt.cells, Pt.slots] at X144 l144 y144 z144 st144 hQ144
        subst l144 y144 z144
        obtain ⟨rfl, N144q, K144, p144_0⟩ := hQ144
        have N144 := Fr.app N135 N144q
        have f145 := f136.keep K144 (allS g_aw all0)
        have f147 := p135_E.keep K144
        have f148 := p135_v.keep K144 (ninS (Ne.symm ne_aw_ol) nin0)
        have f149 := p135_c.keep K144 (ninS (Ne.symm ne_aw_ol) nin0)
        have f150 := p135_r.keep K144 (ninS (Ne.symm ne_aw_ol) nin0)
        have f151 := p135_A.keep K144 (ninS (Ne.symm ne_aw_bn) nin0)
        have Z152 := Nat.le_trans Z143 K144.1
        obtain ⟨ft, h_ft⟩ : ∃ g : Nat → Int64, g = (orf cc2 ff2 fz) := ⟨_, rfl⟩
        rw [← h_ft] at p144_0
        have hn1 : ¬ (nn < (1 : Int32)) := hc97_48
        have hn2 : ¬ (nn < (2 : Int32)) := hc112_79
        have hn3 : ¬ (nn < (3 : Int32)) := hc127_112
        have hset : ∀ v, own_mem ff2 mm2 v ↔ ((¬ nn < (1 : Int32) ∧ v = xx) ∨ (¬ nn < (2 : Int32) ∧ v = yy) ∨ (¬ nn < (3 : Int32) ∧ v = zz)) := by
          intro v
          rw [rs2.2.2.2 v, rs1.2.2.2 v, own_mem1, own_nc hxx, own_nc hy, own_nc hz]
          simp only [hn1, hn2, hn3, not_false_eq_true, true_and]
          constructor
          · rintro (h | h | h) <;> simp [h]
          · rintro (h | h | h) <;> simp [h]
        obtain ⟨_, _, ⟨T153, L153, k153, n153⟩, -, X153, ⟨Lc153, hQ153, l153, y153, z153⟩, st153⟩ := Jvm.LawKit.callS X144 hx (y := (⟨"com/example/bitweight/bitweight/chunk/ArrayChunkOrIntoPinLaw", "expected", "(IIIIIIIIJJ)J"⟩ : MethodName)) hown (mvT hZ (hw _ (List.mem_of_getElem? (i := 32) rfl))) (mvT hZ (hw _ (List.mem_of_getElem? (i := 33) rfl))) (mvT hZ (hw _ (List.mem_of_getElem? (i := 34) rfl))) (mvT hZ (hw _ (List.mem_of_getElem? (i := 35) rfl))) (by decide) (backOf (W := 2) (rm6 l Z a0 hw [] ia xx yy zz nn ia ib ip w1 w2 T144.heap n0 Z152) hZ (hw _ (List.mem_of_getElem? (i := 35) rfl)) (hw _ (List.mem_of_getElem? (i := 34) rfl)) (by decide) (by decide)) (g := (mkF m 170 #[.val (.int pa), .val (.int pb), .val (.int pc_), .val (.long w1), .second, .val (.long w2), .second, .val (.int pd), .val (.int xx), .val (.int yy), .val (.int zz), .val (.int nn), .val (.int ip), .val (.int ia), .val (.int ib), .val (.int ic), .val (.ref aw), .val (.ref ol)] [(.long w2), (.long w1), (.int ip), (.int ib), (.int ia), (.int nn), (.int zz), (.int yy), (.int xx), (.int ia), (.long (ft (own_kx xx)))])) rfl (by rw [hml]; rfl) (argsL := [(.int ia), (.int xx), (.int yy), (.int zz), (.int nn), (.int ia), (.int ib), (.int ip), (.long w1), (.long w2)]) (rest := [(.long (ft (own_kx xx)))]) (lenOf pd_12 rfl) rfl (by show 2 * 0 + _ ≤ _; exact Nat.le_of_eq rfl) (hb hby at_170) (fun _ _ => ⟨rfl, rfl, (by decide : 3 + 0 ≤ _), (by decide : 1031 + 0 ≤ _)⟩)
        dsimp only [Pt.U, Pt.locs, Pt.cells, Pt.slots] at X153 l153 y153 z153 st153 hQ153
        subst l153 y153 z153
        obtain ⟨rfl, N153q, hE153⟩ := hQ153
        have N153 := Fr.app N144 N153q
        have pre154 : ∀ t, Steps p.tables e below (T153.setTop (mkF m 174 #[.val (.int pa), .val (.int pb), .val (.int pc_), .val (.long w1), .second, .val (.long w2), .second, .val (.int pd), .val (.int xx), .val (.int yy), .val (.int zz), .val (.int nn), .val (.int ip), .val (.int ia), .val (.int ib), .val (.int ic), .val (.ref aw), .val (.ref ol)] [(.int (XT.cmpL (ft (own_kx xx)) (fn6 ia xx yy zz nn ia ib ip w1 w2)))])) t → Steps p.tables e below (s₁.setTop (entryFrame m #[(.int pa), (.int pb), (.int pc_), (.long w1), (.long w2), (.int pd)] maxLocals)) t := by
          intro t kt
          refine pre111 _ ?_
          show Steps p.tables e below (T102.setTop (mkF m 127 #[.val (.int pa), .val (.int pb), .val (.int pc_), .val (.long w1), .second, .val (.long w2), .second, .val (.int pd), .val (.int xx), .val (.int yy), .val (.int zz), .val (.int nn), .val (.int ip), .val (.int ia), .val (.int ib), .val (.int ic), .val (.ref aw), .val (.ref ol)] [(.int (3 : Int32)), (.int nn)])) _
          refine XS.icmpNo X102.here hx rfl (hb hby at_127) rfl (XT.ii_lt_f hc127_112) ?_
          show Steps p.tables e below (T102.setTop (mkF m 130 #[.val (.int pa), .val (.int pb), .val (.int pc_), .val (.long w1), .second, .val (.long w2), .second, .val (.int pd), .val (.int xx), .val (.int yy), .val (.int zz), .val (.int nn), .val (.int ip), .val (.int ia), .val (.int ib), .val (.int ic), .val (.ref aw), .val (.ref ol)] [])) _
          refine XS.aload X102.here hx rfl (hb hby at_130) rfl rfl ?_
          show Steps p.tables e below (T102.setTop (mkF m 132 #[.val (.int pa), .val (.int pb), .val (.int pc_), .val (.long w1), .second, .val (.long w2), .second, .val (.int pd), .val (.int xx), .val (.int yy), .val (.int zz), .val (.int nn), .val (.int ip), .val (.int ia), .val (.int ib), .val (.int ic), .val (.ref aw), .val (.ref ol)] [(.ref ol)])) _
          refine XS.iload X102.here hx rfl (hb hby at_132) rfl ?_
          show Steps p.tables e below (T102.setTop (mkF m 134 #[.val (.int pa), .val (.int pb), .val (.int pc_), .val (.long w1), .second, .val (.long w2), .second, .val (.int pd), .val (.int xx), .val (.int yy), .val (.int zz), .val (.int nn), .val (.int ip), .val (.int ia), .val (.int ib), .val (.int ic), .val (.ref aw), .val (.ref ol)] [(.int zz), (.ref ol)])) _
          refine XS.i2c X102.here hx rfl (hb hby at_134) rfl ?_
          show Steps p.tables e below (T102.setTop (mkF m 135 #[.val (.int pa), .val (.int pb), .val (.int pc_), .val (.long w1), .second, .val (.long w2), .second, .val (.int pd), .val (.int xx), .val (.int yy), .val (.int zz), .val (.int nn), .val (.int ip), .val (.int ia), .val (.int ib), .val (.int ic), .val (.ref aw), .val (.ref ol)] [(.int (zz.toUInt32.toUInt16.toUInt32.toInt32)), (.ref ol)])) _
          refine st135.trans ?_
          show Steps p.tables e below (T135.setTop (mkF m 138 #[.val (.int pa), .val (.int pb), .val (.int pc_), .val (.long w1), .second, .val (.long w2), .second, .val (.int pd), .val (.int xx), .val (.int yy), .val (.int zz), .val (.int nn), .val (.int ip), .val (.int ia), .val (.int ib), .val (.int ic), .val (.ref aw), .val (.ref ol)] [(.ref ol)])) _
          refine XS.pop X135.here hx rfl (hb hby at_138) rfl rfl ?_
          show Steps p.tables e below (T135.setTop (mkF m 139 #[.val (.int pa), .val (.int pb), .val (.int pc_), .val (.long w1), .second, .val (.long w2), .second, .val (.int pd), .val (.int xx), .val (.int yy), .val (.int zz), .val (.int nn), .val (.int ip), .val (.int ia), .val (.int ib), .val (.int ic), .val (.ref aw), .val (.ref ol)] [])) _
          refine XS.aload X135.here hx rfl (hb hby at_139) rfl rfl ?_
          show Steps p.tables e below (T135.setTop (mkF m 141 #[.val (.int pa), .val (.int pb), .val (.int pc_), .val (.long w1), .second, .val (.long w2), .second, .val (.int pd), .val (.int xx), .val (.int yy), .val (.int zz), .val (.int nn), .val (.int ip), .val (.int ia), .val (.int ib), .val (.int ic), .val (.ref aw), .val (.ref ol)] [(.ref ol)])) _
          refine XS.aload X135.here hx rfl (hb hby at_141) rfl rfl ?_
          show Steps p.tables e below (T135.setTop (mkF m 143 #[.val (.int pa), .val (.int pb), .val (.int pc_), .val (.long w1), .second, .val (.long w2), .second, .val (.int pd), .val (.int xx), .val (.int yy), .val (.int zz), .val (.int nn), .val (.int ip), .val (.int ia), .val (.int ib), .val (.int ic), .val (.ref aw), .val (.ref ol)] [(.ref aw), (.ref ol)])) _
          refine st144.trans ?_
          show Steps p.tables e below (T144.setTop (mkF m 146 #[.val (.int pa), .val (.int pb), .val (.int pc_), .val (.long w1), .second, .val (.long w2), .second, .val (.int pd), .val (.int xx), .val (.int yy), .val (.int zz), .val (.int nn), .val (.int ip), .val (.int ia), .val (.int ib), .val (.int ic), .val (.ref aw), .val (.ref ol)] [])) _
          refine XS.aload X144.here hx rfl (hb hby at_146) rfl rfl ?_
          show Steps p.tables e below (T144.setTop (mkF m 148 #[.val (.int pa), .val (.int pb), .val (.int pc_), .val (.long w1), .second, .val (.long w2), .second, .val (.int pd), .val (.int xx), .val (.int yy), .val (.int zz), .val (.int nn), .val (.int ip), .val (.int ia), .val (.int ib), .val (.int ic), .val (.ref aw), .val (.ref ol)] [(.ref aw)])) _
          refine XS.iload X144.here hx rfl (hb hby at_148) rfl ?_
          show Steps p.tables e below (T144.setTop (mkF m 150 #[.val (.int pa), .val (.int pb), .val (.int pc_), .val (.long w1), .second, .val (.long w2), .second, .val (.int pd), .val (.int xx), .val (.int yy), .val (.int zz), .val (.int nn), .val (.int ip), .val (.int ia), .val (.int ib), .val (.int ic), .val (.ref aw), .val (.ref ol)] [(.int ia), (.ref aw)])) _
          refine owLdJ (k := (own_kx xx)) X144 hx hZ rfl p144_0 (j := ia) h_ka (own_kx2 hxx) (g := (mkF m 150 #[.val (.int pa), .val (.int pb), .val (.int pc_), .val (.long w1), .second, .val (.long w2), .second, .val (.int pd), .val (.int xx), .val (.int yy), .val (.int zz), .val (.int nn), .val (.int ip), .val (.int ia), .val (.int ib), .val (.int ic), .val (.ref aw), .val (.ref ol)] [(.int ia), (.ref aw)])) rfl rfl (hb hby at_150) _ ?_
          show Steps p.tables e below (T144.setTop (mkF m 151 #[.val (.int pa), .val (.int pb), .val (.int pc_), .val (.long w1), .second, .val (.long w2), .second, .val (.int pd), .val (.int xx), .val (.int yy), .val (.int zz), .val (.int nn), .val (.int ip), .val (.int ia), .val (.int ib), .val (.int ic), .val (.ref aw), .val (.ref ol)] [(.long (ft (own_kx xx)))])) _
          refine XS.iload X144.here hx rfl (hb hby at_151) rfl ?_
          show Steps p.tables e below (T144.setTop (mkF m 153 #[.val (.int pa), .val (.int pb), .val (.int pc_), .val (.long w1), .second, .val (.long w2), .second, .val (.int pd), .val (.int xx), .val (.int yy), .val (.int zz), .val (.int nn), .val (.int ip), .val (.int ia), .val (.int ib), .val (.int ic), .val (.ref aw), .val (.ref ol)] [(.int ia), (.long (ft (own_kx xx)))])) _
          refine XS.iload X144.here hx rfl (hb hby at_153) rfl ?_
          show Steps p.tables e below (T144.setTop (mkF m 155 #[.val (.int pa), .val (.int pb), .val (.int pc_), .val (.long w1), .second, .val (.long w2), .second, .val (.int pd), .val (.int xx), .val (.int yy), .val (.int zz), .val (.int nn), .val (.int ip), .val (.int ia), .val (.int ib), .val (.int ic), .val (.ref aw), .val (.ref ol)] [(.int xx), (.int ia), (.long (ft (own_kx xx)))])) _
          refine XS.iload X144.here hx rfl (hb hby at_155) rfl ?_
          show Steps p.tables e below (T144.setTop (mkF m 157 #[.val (.int pa), .val (.int pb), .val (.int pc_), .val (.long w1), .second, .val (.long w2), .second, .val (.int pd), .val (.int xx), .val (.int yy), .val (.int zz), .val (.int nn), .val (.int ip), .val (.int ia), .val (.int ib), .val (.int ic), .val (.ref aw), .val (.ref ol)] [(.int yy), (.int xx), (.int ia), (.long (ft (own_kx xx)))])) _
          refine XS.iload X144.here hx rfl (hb hby at_157) rfl ?_
          show Steps p.tables e below (T144.setTop (mkF m 159 #[.val (.int pa), .val (.int pb), .val (.int pc_), .val (.long w1), .second, .val (.long w2), .second, .val (.int pd), .val (.int xx), .val (.int yy), .val (.int zz), .val (.int nn), .val (.int ip), .val (.int ia), .val (.int ib), .val (.int ic), .val (.ref aw), .val (.ref ol)] [(.int zz), (.int yy), (.int xx), (.int ia), (.long (ft (own_kx xx)))])) _
          refine XS.iload X144.here hx rfl (hb hby at_159) rfl ?_
          show Steps p.tables e below (T144.setTop (mkF m 161 #[.val (.int pa), .val (.int pb), .val (.int pc_), .val (.long w1), .second, .val (.long w2), .second, .val (.int pd), .val (.int xx), .val (.int yy), .val (.int zz), .val (.int nn), .val (.int ip), .val (.int ia), .val (.int ib), .val (.int ic), .val (.ref aw), .val (.ref ol)] [(.int nn), (.int zz), (.int yy), (.int xx), (.int ia), (.long (ft (own_kx xx)))])) _
          refine XS.iload X144.here hx rfl (hb hby at_161) rfl ?_
          show Steps p.tables e below (T144.setTop (mkF m 163 #[.val (.int pa), .val (.int pb), .val (.int pc_), .val (.long w1), .second, .val (.long w2), .second, .val (.int pd), .val (.int xx), .val (.int yy), .val (.int zz), .val (.int nn), .val (.int ip), .val (.int ia), .val (.int ib), .val (.int ic), .val (.ref aw), .val (.ref ol)] [(.int ia), (.int nn), (.int zz), (.int yy), (.int xx), (.int ia), (.long (ft (own_kx xx)))])) _
          refine XS.iload X144.here hx rfl (hb hby at_163) rfl ?_
          show Steps p.tables e below (T144.setTop (mkF m 165 #[.val (.int pa), .val (.int pb), .val (.int pc_), .val (.long w1), .second, .val (.long w2), .second, .val (.int pd), .val (.int xx), .val (.int yy), .val (.int zz), .val (.int nn), .val (.int ip), .val (.int ia), .val (.int ib), .val (.int ic), .val (.ref aw), .val (.ref ol)] [(.int ib), (.int ia), (.int nn), (.int zz), (.int yy), (.int xx), (.int ia), (.long (ft (own_kx xx)))])) _
          refine XS.iload X144.here hx rfl (hb hby at_165) rfl ?_
          show Steps p.tables e below (T144.setTop (mkF m 167 #[.val (.int pa), .val (.int pb), .val (.int pc_), .val (.long w1), .second, .val (.long w2), .second, .val (.int pd), .val (.int xx), .val (.int yy), .val (.int zz), .val (.int nn), .val (.int ip), .val (.int ia), .val (.int ib), .val (.int ic), .val (.ref aw), .val (.ref ol)] [(.int ip), (.int ib), (.int ia), (.int nn), (.int zz), (.int yy), (.int xx), (.int ia), (.long (ft (own_kx xx)))])) _
          refine XS.lloadN X144.here hx rfl (hb hby at_167) rfl ?_
          show Steps p.tables e below (T144.setTop (mkF m 168 #[.val (.int pa), .val (.int pb), .val (.int pc_), .val (.long w1), .second, .val (.long w2), .second, .val (.int pd), .val (.int xx), .val (.int yy), .val (.int zz), .val (.int nn), .val (.int ip), .val (.int ia), .val (.int ib), .val (.int ic), .val (.ref aw), .val (.ref ol)] [(.long w1), (.int ip), (.int ib), (.int ia), (.int nn), (.int zz), (.int yy), (.int xx), (.int ia), (.long (ft (own_kx xx)))])) _
          refine XS.lload X144.here hx rfl (hb hby at_168) rfl ?_
          show Steps p.tables e below (T144.setTop (mkF m 170 #[.val (.int pa), .val (.int pb), .val (.int pc_), .val (.long w1), .second, .val (.long w2), .second, .val (.int pd), .val (.int xx), .val (.int yy), .val (.int zz), .val (.int nn), .val (.int ip), .val (.int ia), .val (.int ib), .val (.int ic), .val (.ref aw), .val (.ref ol)] [(.long w2), (.long w1), (.int ip), (.int ib), (.int ia), (.int nn), (.int zz), (.int yy), (.int xx), (.int ia), (.long (ft (own_kx xx)))])) _
          refine st153 _ ?_
          show Steps p.tables e below (T153.setTop (mkF m 173 #[.val (.int pa), .val (.int pb), .val (.int pc_), .val (.long w1), .second, .val (.long w2), .second, .val (.int pd), .val (.int xx), .val (.int yy), .val (.int zz), .val (.int nn), .val (.int ip), .val (.int ia), .val (.int ib), .val (.int ic), .val (.ref aw), .val (.ref ol)] [(.long (fn6 ia xx yy zz nn ia ib ip w1 w2)), (.long (ft (own_kx xx)))])) _
          refine XT.lcmp X153.here hx rfl (hb hby at_173) rfl ?_
          exact kt
        by_cases hc174_155 : (ft (own_kx xx)) = (fn6 ia xx yy zz nn ia ib ip w1 w2)
        · skip
          obtain ⟨_, _, ⟨T156, L156, k156, n156⟩, -, X156, ⟨Lc156, hQ156, l156, y156, z156⟩, st156⟩ := Jvm.LawKit.callS X153 hx (y := (⟨"com/example/bitweight/bitweight/chunk/ArrayChunkOrIntoPinLaw", "expected", "(IIIIIIIIJJ)J"⟩ : MethodName)) hown (mvT hZ (hw _ (List.mem_of_getElem? (i := 32) rfl))) (mvT hZ (hw _ (List.mem_of_getElem? (i := 33) rfl))) (mvT hZ (hw _ (List.mem_of_getElem? (i := 34) rfl))) (mvT hZ (hw _ (List.mem_of_getElem? (i := 35) rfl))) (by decide) (backOf (W := 2) (rm6 l Z a0 hw [] ib xx yy zz nn ia ib ip w1 w2 T144.heap n0 Z152) hZ (hw _ (List.mem_of_getElem? (i := 35) rfl)) (hw _ (List.mem_of_getElem? (i := 34) rfl)) (by decide) (by decide)) (g := (mkF m 201 #[.val (.int pa), .val (.int pb), .val (.int pc_), .val (.long w1), .second, .val (.long w2), .second, .val (.int pd), .val (.int xx), .val (.int yy), .val (.int zz), .val (.int nn), .val (.int ip), .val (.int ia), .val (.int ib), .val (.int ic), .val (.ref aw), .val (.ref ol)] [(.long w2), (.long w1), (.int ip), (.int ib), (.int ia), (.int nn), (.int zz), (.int yy), (.int xx), (.int ib), (.long (ft (own_kx yy)))])) rfl (by rw [hml]; rfl) (argsL := [(.int ib), (.int xx), (.int yy), (.int zz), (.int nn), (.int ia), (.int ib), (.int ip), (.long w1), (.long w2)]) (rest := [(.long (ft (own_kx yy)))]) (lenOf pd_12 rfl) rfl (by show 2 * 0 + _ ≤ _; exact Nat.le_of_eq rfl) (hb hby at_201) (fun _ _ => ⟨rfl, hE153, (by decide : 3 + 0 ≤ _), (by decide : 1031 + 0 ≤ _)⟩)
          dsimp only [Pt.U, Pt.locs, Pt.cells, Pt.slots] at X156 l156 y156 z156 st156 hQ156
          subst l156 y156 z156
          obtain ⟨rfl, N156q, hE156⟩ := hQ156
          have N156 := Fr.app N153 N156q
          have pre157 : ∀ t, Steps p.tables e below (T156.setTop (mkF m 205 #[.val (.int pa), .val (.int pb), .val (.int pc_), .val (.long w1), .second, .val (.long w2), .second, .val (.int pd), .val (.int xx), .val (.int yy), .val (.int zz), .val (.int nn), .val (.int ip), .val (.int ia), .val (.int ib), .val (.int ic), .val (.ref aw), .val (.ref ol)] [(.int (XT.cmpL (ft (own_kx yy)) (fn6 ib xx yy zz nn ia ib ip w1 w2)))])) t → Steps p.tables e below (s₁.setTop (entryFrame m #[(.int pa), (.int pb), (.int pc_), (.long w1), (.long w2), (.int pd)] maxLocals)) t := by
            intro t kt
            refine pre154 _ ?_
            show Steps p.tables e below (T153.setTop (mkF m 174 #[.val (.int pa), .val (.int pb), .val (.int pc_), .val (.long w1), .second, .val (.long w2), .second, .val (.int pd), .val (.int xx), .val (.int yy), .val (.int zz), .val (.int nn), .val (.int ip), .val (.int ia), .val (.int ib), .val (.int ic), .val (.ref aw), .val (.ref ol)] [(.int (XT.cmpL (ft (own_kx xx)) (fn6 ia xx yy zz nn ia ib ip w1 w2)))])) _
            refine XS.ifNo X153.here hx rfl (hb hby at_174) rfl (XT.ll_ne_f hc174_155) ?_
            show Steps p.tables e below (T153.setTop (mkF m 177 #[.val (.int pa), .val (.int pb), .val (.int pc_), .val (.long w1), .second, .val (.long w2), .second, .val (.int pd), .val (.int xx), .val (.int yy), .val (.int zz), .val (.int nn), .val (.int ip), .val (.int ia), .val (.int ib), .val (.int ic), .val (.ref aw), .val (.ref ol)] [])) _
            refine XS.aload X153.here hx rfl (hb hby at_177) rfl rfl ?_
            show Steps p.tables e below (T153.setTop (mkF m 179 #[.val (.int pa), .val (.int pb), .val (.int pc_), .val (.long w1), .second, .val (.long w2), .second, .val (.int pd), .val (.int xx), .val (.int yy), .val (.int zz), .val (.int nn), .val (.int ip), .val (.int ia), .val (.int ib), .val (.int ic), .val (.ref aw), .val (.ref ol)] [(.ref aw)])) _
            refine XS.iload X153.here hx rfl (hb hby at_179) rfl ?_
            show Steps p.tables e below (T153.setTop (mkF m 181 #[.val (.int pa), .val (.int pb), .val (.int pc_), .val (.long w1), .second, .val (.long w2), .second, .val (.int pd), .val (.int xx), .val (.int yy), .val (.int zz), .val (.int nn), .val (.int ip), .val (.int ia), .val (.int ib), .val (.int ic), .val (.ref aw), .val (.ref ol)] [(.int ib), (.ref aw)])) _
            refine owLdJ (k := (own_kx yy)) X153 hx hZ hE153 p144_0 (j := ib) h_kb (own_kx2 hy) (g := (mkF m 181 #[.val (.int pa), .val (.int pb), .val (.int pc_), .val (.long w1), .second, .val (.long w2), .second, .val (.int pd), .val (.int xx), .val (.int yy), .val (.int zz), .val (.int nn), .val (.int ip), .val (.int ia), .val (.int ib), .val (.int ic), .val (.ref aw), .val (.ref ol)] [(.int ib), (.ref aw)])) rfl rfl (hb hby at_181) _ ?_
            show Steps p.tables e below (T153.setTop (mkF m 182 #[.val (.int pa), .val (.int pb), .val (.int pc_), .val (.long w1), .second, .val (.long w2), .second, .val (.int pd), .val (.int xx), .val (.int yy), .val (.int zz), .val (.int nn), .val (.int ip), .val (.int ia), .val (.int ib), .val (.int ic), .val (.ref aw), .val (.ref ol)] [(.long (ft (own_kx yy)))])) _
            refine XS.iload X153.here hx rfl (hb hby at_182) rfl ?_
            show Steps p.tables e below (T153.setTop (mkF m 184 #[.val (.int pa), .val (.int pb), .val (.int pc_), .val (.long w1), .second, .val (.long w2), .second, .val (.int pd), .val (.int xx), .val (.int yy), .val (.int zz), .val (.int nn), .val (.int ip), .val (.int ia), .val (.int ib), .val (.int ic), .val (.ref aw), .val (.ref ol)] [(.int ib), (.long (ft (own_kx yy)))])) _
            refine XS.iload X153.here hx rfl (hb hby at_184) rfl ?_
            show Steps p.tables e below (T153.setTop (mkF m 186 #[.val (.int pa), .val (.int pb), .val (.int pc_), .val (.long w1), .second, .val (.long w2), .second, .val (.int pd), .val (.int xx), .val (.int yy), .val (.int zz), .val (.int nn), .val (.int ip), .val (.int ia), .val (.int ib), .val (.int ic), .val (.ref aw), .val (.ref ol)] [(.int xx), (.int ib), (.long (ft (own_kx yy)))])) _
            refine XS.iload X153.here hx rfl (hb hby at_186) rfl ?_
            show Steps p.tables e below (T153.setTop (mkF m 188 #[.val (.int pa), .val (.int pb), .val (.int pc_), .val (.long w1), .second, .val (.long w2), .second, .val (.int pd), .val (.int xx), .val (.int yy), .val (.int zz), .val (.int nn), .val (.int ip), .val (.int ia), .val (.int ib), .val (.int ic), .val (.ref aw), .val (.ref ol)] [(.int yy), (.int xx), (.int ib), (.long (ft (own_kx yy)))])) _
            refine XS.iload X153.here hx rfl (hb hby at_188) rfl ?_
            show Steps p.tables e below (T153.setTop (mkF m 190 #[.val (.int pa), .val (.int pb), .val (.int pc_), .val (.long w1), .second, .val (.long w2), .second, .val (.int pd), .val (.int xx), .val (.int yy), .val (.int zz), .val (.int nn), .val (.int ip), .val (.int ia), .val (.int ib), .val (.int ic), .val (.ref aw), .val (.ref ol)] [(.int zz), (.int yy), (.int xx), (.int ib), (.long (ft (own_kx yy)))])) _
            refine XS.iload X153.here hx rfl (hb hby at_190) rfl ?_
            show Steps p.tables e below (T153.setTop (mkF m 192 #[.val (.int pa), .val (.int pb), .val (.int pc_), .val (.long w1), .second, .val (.long w2), .second, .val (.int pd), .val (.int xx), .val (.int yy), .val (.int zz), .val (.int nn), .val (.int ip), .val (.int ia), .val (.int ib), .val (.int ic), .val (.ref aw), .val (.ref ol)] [(.int nn), (.int zz), (.int yy), (.int xx), (.int ib), (.long (ft (own_kx yy)))])) _
            refine XS.iload X153.here hx rfl (hb hby at_192) rfl ?_
            show Steps p.tables e below (T153.setTop (mkF m 194 #[.val (.int pa), .val (.int pb), .val (.int pc_), .val (.long w1), .second, .val (.long w2), .second, .val (.int pd), .val (.int xx), .val (.int yy), .val (.int zz), .val (.int nn), .val (.int ip), .val (.int ia), .val (.int ib), .val (.int ic), .val (.ref aw), .val (.ref ol)] [(.int ia), (.int nn), (.int zz), (.int yy), (.int xx), (.int ib), (.long (ft (own_kx yy)))])) _
            refine XS.iload X153.here hx rfl (hb hby at_194) rfl ?_
            show Steps p.tables e below (T153.setTop (mkF m 196 #[.val (.int pa), .val (.int pb), .val (.int pc_), .val (.long w1), .second, .val (.long w2), .second, .val (.int pd), .val (.int xx), .val (.int yy), .val (.int zz), .val (.int nn), .val (.int ip), .val (.int ia), .val (.int ib), .val (.int ic), .val (.ref aw), .val (.ref ol)] [(.int ib), (.int ia), (.int nn), (.int zz), (.int yy), (.int xx), (.int ib), (.long (ft (own_kx yy)))])) _
            refine XS.iload X153.here hx rfl (hb hby at_196) rfl ?_
            show Steps p.tables e below (T153.setTop (mkF m 198 #[.val (.int pa), .val (.int pb), .val (.int pc_), .val (.long w1), .second, .val (.long w2), .second, .val (.int pd), .val (.int xx), .val (.int yy), .val (.int zz), .val (.int nn), .val (.int ip), .val (.int ia), .val (.int ib), .val (.int ic), .val (.ref aw), .val (.ref ol)] [(.int ip), (.int ib), (.int ia), (.int nn), (.int zz), (.int yy), (.int xx), (.int ib), (.long (ft (own_kx yy)))])) _
            refine XS.lloadN X153.here hx rfl (hb hby at_198) rfl ?_
            show Steps p.tables e below (T153.setTop (mkF m 199 #[.val (.int pa), .val (.int pb), .val (.int pc_), .val (.long w1), .second, .val (.long w2), .second, .val (.int pd), .val (.int xx), .val (.int yy), .val (.int zz), .val (.int nn), .val (.int ip), .val (.int ia), .val (.int ib), .val (.int ic), .val (.ref aw), .val (.ref ol)] [(.long w1), (.int ip), (.int ib), (.int ia), (.int nn), (.int zz), (.int yy), (.int xx), (.int ib), (.long (ft (own_kx yy)))])) _
            refine XS.lload X153.here hx rfl (hb hby at_199) rfl ?_
            show Steps p.tables e below (T153.setTop (mkF m 201 #[.val (.int pa), .val (.int pb), .val (.int pc_), .val (.long w1), .second, .val (.long w2), .second, .val (.int pd), .val (.int xx), .val (.int yy), .val (.int zz), .val (.int nn), .val (.int ip), .val (.int ia), .val (.int ib), .val (.int ic), .val (.ref aw), .val (.ref ol)] [(.long w2), (.long w1), (.int ip), (.int ib), (.int ia), (.int nn), (.int zz), (.int yy), (.int xx), (.int ib), (.long (ft (own_kx yy)))])) _
            refine st156 _ ?_
            show Steps p.tables e below (T156.setTop (mkF m 204 #[.val (.int pa), .val (.int pb), .val (.int pc_), .val (.long w1), .second, .val (.long w2), .second, .val (.int pd), .val (.int xx), .val (.int yy), .val (.int zz), .val (.int nn), .val (.int ip), .val (.int ia), .val (.int ib), .val (.int ic), .val (.ref aw), .val (.ref ol)] [(.long (fn6 ib xx yy zz nn ia ib ip w1 w2)), (.long (ft (own_kx yy)))])) _
            refine XT.lcmp X156.here hx rfl (hb hby at_204) rfl ?_
            exact kt
          by_cases hc205_158 : (ft (own_kx yy)) = (fn6 ib xx yy zz nn ia ib ip w1 w2)
          · skip
            obtain ⟨_, _, ⟨T159, L159, k159, n159⟩, -, X159, ⟨Lc159, hQ159, l159, y159, z159⟩, st159⟩ := Jvm.LawKit.callS X156 hx (y := (⟨"com/example/bitweight/bitweight/chunk/ArrayChunkOrIntoPinLaw", "expected", "(IIIIIIIIJJ)J"⟩ : MethodName)) hown (mvT hZ (hw _ (List.mem_of_getElem? (i := 32) rfl))) (mvT hZ (hw _ (List.mem_of_getElem? (i := 33) rfl))) (mvT hZ (hw _ (List.mem_of_getElem? (i := 34) rfl))) (mvT hZ (hw _ (List.mem_of_getElem? (i := 35) rfl))) (by decide) (backOf (W := 2) (rm6 l Z a0 hw [] ic xx yy zz nn ia ib ip w1 w2 T144.heap n0 Z152) hZ (hw _ (List.mem_of_getElem? (i := 35) rfl)) (hw _ (List.mem_of_getElem? (i := 34) rfl)) (by decide) (by decide)) (g := (mkF m 232 #[.val (.int pa), .val (.int pb), .val (.int pc_), .val (.long w1), .second, .val (.long w2), .second, .val (.int pd), .val (.int xx), .val (.int yy), .val (.int zz), .val (.int nn), .val (.int ip), .val (.int ia), .val (.int ib), .val (.int ic), .val (.ref aw), .val (.ref ol)] [(.long w2), (.long w1), (.int ip), (.int ib), (.int ia), (.int nn), (.int zz), (.int yy), (.int xx), (.int ic), (.long (ft (own_kx zz)))])) rfl (by rw [hml]; rfl) (argsL := [(.int ic), (.int xx), (.int yy), (.int zz), (.int nn), (.int ia), (.int ib), (.int ip), (.long w1), (.long w2)]) (rest := [(.long (ft (own_kx zz)))]) (lenOf pd_12 rfl) rfl (by show 2 * 0 + _ ≤ _; exact Nat.le_of_eq rfl) (hb hby at_232) (fun _ _ => ⟨rfl, hE156, (by decide : 3 + 0 ≤ _), (by decide : 1031 + 0 ≤ _)⟩)
            dsimp only [Pt.U, Pt.locs, Pt.cells, Pt.slots] at X159 l159 y159 z159 st159 hQ159
            subst l159 y159 z159
            obtain ⟨rfl, N159q, hE159⟩ := hQ159
            have N159 := Fr.app N156 N159q
            have pre160 : ∀ t, Steps p.tables e below (T159.setTop (mkF m 236 #[.val (.int pa), .val (.int pb), .val (.int pc_), .val (.long w1), .second, .val (.long w2), .second, .val (.int pd), .val (.int xx), .val (.int yy), .val (.int zz), .val (.int nn), .val (.int ip), .val (.int ia), .val (.int ib), .val (.int ic), .val (.ref aw), .val (.ref ol)] [(.int (XT.cmpL (ft (own_kx zz)) (fn6 ic xx yy zz nn ia ib ip w1 w2)))])) t → Steps p.tables e below (s₁.setTop (entryFrame m #[(.int pa), (.int pb), (.int pc_), (.long w1), (.long w2), (.int pd)] maxLocals)) t := by
              intro t kt
              refine pre157 _ ?_
              show Steps p.tables e below (T156.setTop (mkF m 205 #[.val (.int pa), .val (.int pb), .val (.int pc_), .val (.long w1), .second, .val (.long w2), .second, .val (.int pd), .val (.int xx), .val (.int yy), .val (.int zz), .val (.int nn), .val (.int ip), .val (.int ia), .val (.int ib), .val (.int ic), .val (.ref aw), .val (.ref ol)] [(.int (XT.cmpL (ft (own_kx yy)) (fn6 ib xx yy zz nn ia ib ip w1 w2)))])) _
              refine XS.ifNo X156.here hx rfl (hb hby at_205) rfl (XT.ll_ne_f hc205_158) ?_
              show Steps p.tables e below (T156.setTop (mkF m 208 #[.val (.int pa), .val (.int pb), .val (.int pc_), .val (.long w1), .second, .val (.long w2), .second, .val (.int pd), .val (.int xx), .val (.int yy), .val (.int zz), .val (.int nn), .val (.int ip), .val (.int ia), .val (.int ib), .val (.int ic), .val (.ref aw), .val (.ref ol)] [])) _
              refine XS.aload X156.here hx rfl (hb hby at_208) rfl rfl ?_
              show Steps p.tables e below (T156.setTop (mkF m 210 #[.val (.int pa), .val (.int pb), .val (.int pc_), .val (.long w1), .second, .val (.long w2), .second, .val (.int pd), .val (.int xx), .val (.int yy), .val (.int zz), .val (.int nn), .val (.int ip), .val (.int ia), .val (.int ib), .val (.int ic), .val (.ref aw), .val (.ref ol)] [(.ref aw)])) _
              refine XS.iload X156.here hx rfl (hb hby at_210) rfl ?_
              show Steps p.tables e below (T156.setTop (mkF m 212 #[.val (.int pa), .val (.int pb), .val (.int pc_), .val (.long w1), .second, .val (.long w2), .second, .val (.int pd), .val (.int xx), .val (.int yy), .val (.int zz), .val (.int nn), .val (.int ip), .val (.int ia), .val (.int ib), .val (.int ic), .val (.ref aw), .val (.ref ol)] [(.int ic), (.ref aw)])) _
              refine owLdJ (k := (own_kx zz)) X156 hx hZ hE156 p144_0 (j := ic) h_kc (own_kx2 hz) (g := (mkF m 212 #[.val (.int pa), .val (.int pb), .val (.int pc_), .val (.long w1), .second, .val (.long w2), .second, .val (.int pd), .val (.int xx), .val (.int yy), .val (.int zz), .val (.int nn), .val (.int ip), .val (.int ia), .val (.int ib), .val (.int ic), .val (.ref aw), .val (.ref ol)] [(.int ic), (.ref aw)])) rfl rfl (hb hby at_212) _ ?_
              show Steps p.tables e below (T156.setTop (mkF m 213 #[.val (.int pa), .val (.int pb), .val (.int pc_), .val (.long w1), .second, .val (.long w2), .second, .val (.int pd), .val (.int xx), .val (.int yy), .val (.int zz), .val (.int nn), .val (.int ip), .val (.int ia), .val (.int ib), .val (.int ic), .val (.ref aw), .val (.ref ol)] [(.long (ft (own_kx zz)))])) _
              refine XS.iload X156.here hx rfl (hb hby at_213) rfl ?_
              show Steps p.tables e below (T156.setTop (mkF m 215 #[.val (.int pa), .val (.int pb), .val (.int pc_), .val (.long w1), .second, .val (.long w2), .second, .val (.int pd), .val (.int xx), .val (.int yy), .val (.int zz), .val (.int nn), .val (.int ip), .val (.int ia), .val (.int ib), .val (.int ic), .val (.ref aw), .val (.ref ol)] [(.int ic), (.long (ft (own_kx zz)))])) _
              refine XS.iload X156.here hx rfl (hb hby at_215) rfl ?_
              show Steps p.tables e below (T156.setTop (mkF m 217 #[.val (.int pa), .val (.int pb), .val (.int pc_), .val (.long w1), .second, .val (.long w2), .second, .val (.int pd), .val (.int xx), .val (.int yy), .val (.int zz), .val (.int nn), .val (.int ip), .val (.int ia), .val (.int ib), .val (.int ic), .val (.ref aw), .val (.ref ol)] [(.int xx), (.int ic), (.long (ft (own_kx zz)))])) _
              refine XS.iload X156.here hx rfl (hb hby at_217) rfl ?_
              show Steps p.tables e below (T156.setTop (mkF m 219 #[.val (.int pa), .val (.int pb), .val (.int pc_), .val (.long w1), .second, .val (.long w2), .second, .val (.int pd), .val (.int xx), .val (.int yy), .val (.int zz), .val (.int nn), .val (.int ip), .val (.int ia), .val (.int ib), .val (.int ic), .val (.ref aw), .val (.ref ol)] [(.int yy), (.int xx), (.int ic), (.long (ft (own_kx zz)))])) _
              refine XS.iload X156.here hx rfl (hb hby at_219) rfl ?_
              show Steps p.tables e below (T156.setTop (mkF m 221 #[.val (.int pa), .val (.int pb), .val (.int pc_), .val (.long w1), .second, .val (.long w2), .second, .val (.int pd), .val (.int xx), .val (.int yy), .val (.int zz), .val (.int nn), .val (.int ip), .val (.int ia), .val (.int ib), .val (.int ic), .val (.ref aw), .val (.ref ol)] [(.int zz), (.int yy), (.int xx), (.int ic), (.long (ft (own_kx zz)))])) _
              refine XS.iload X156.here hx rfl (hb hby at_221) rfl ?_
              show Steps p.tables e below (T156.setTop (mkF m 223 #[.val (.int pa), .val (.int pb), .val (.int pc_), .val (.long w1), .second, .val (.long w2), .second, .val (.int pd), .val (.int xx), .val (.int yy), .val (.int zz), .val (.int nn), .val (.int ip), .val (.int ia), .val (.int ib), .val (.int ic), .val (.ref aw), .val (.ref ol)] [(.int nn), (.int zz), (.int yy), (.int xx), (.int ic), (.long (ft (own_kx zz)))])) _
              refine XS.iload X156.here hx rfl (hb hby at_223) rfl ?_
              show Steps p.tables e below (T156.setTop (mkF m 225 #[.val (.int pa), .val (.int pb), .val (.int pc_), .val (.long w1), .second, .val (.long w2), .second, .val (.int pd), .val (.int xx), .val (.int yy), .val (.int zz), .val (.int nn), .val (.int ip), .val (.int ia), .val (.int ib), .val (.int ic), .val (.ref aw), .val (.ref ol)] [(.int ia), (.int nn), (.int zz), (.int yy), (.int xx), (.int ic), (.long (ft (own_kx zz)))])) _
              refine XS.iload X156.here hx rfl (hb hby at_225) rfl ?_
              show Steps p.tables e below (T156.setTop (mkF m 227 #[.val (.int pa), .val (.int pb), .val (.int pc_), .val (.long w1), .second, .val (.long w2), .second, .val (.int pd), .val (.int xx), .val (.int yy), .val (.int zz), .val (.int nn), .val (.int ip), .val (.int ia), .val (.int ib), .val (.int ic), .val (.ref aw), .val (.ref ol)] [(.int ib), (.int ia), (.int nn), (.int zz), (.int yy), (.int xx), (.int ic), (.long (ft (own_kx zz)))])) _
              refine XS.iload X156.here hx rfl (hb hby at_227) rfl ?_
              show Steps p.tables e below (T156.setTop (mkF m 229 #[.val (.int pa), .val (.int pb), .val (.int pc_), .val (.long w1), .second, .val (.long w2), .second, .val (.int pd), .val (.int xx), .val (.int yy), .val (.int zz), .val (.int nn), .val (.int ip), .val (.int ia), .val (.int ib), .val (.int ic), .val (.ref aw), .val (.ref ol)] [(.int ip), (.int ib), (.int ia), (.int nn), (.int zz), (.int yy), (.int xx), (.int ic), (.long (ft (own_kx zz)))])) _
              refine XS.lloadN X156.here hx rfl (hb hby at_229) rfl ?_
              show Steps p.tables e below (T156.setTop (mkF m 230 #[.val (.int pa), .val (.int pb), .val (.int pc_), .val (.long w1), .second, .val (.long w2), .second, .val (.int pd), .val (.int xx), .val (.int yy), .val (.int zz), .val (.int nn), .val (.int ip), .val (.int ia), .val (.int ib), .val (.int ic), .val (.ref aw), .val (.ref ol)] [(.long w1), (.int ip), (.int ib), (.int ia), (.int nn), (.int zz), (.int yy), (.int xx), (.int ic), (.long (ft (own_kx zz)))])) _
              refine XS.lload X156.here hx rfl (hb hby at_230) rfl ?_
              show Steps p.tables e below (T156.setTop (mkF m 232 #[.val (.int pa), .val (.int pb), .val (.int pc_), .val (.long w1), .second, .val (.long w2), .second, .val (.int pd), .val (.int xx), .val (.int yy), .val (.int zz), .val (.int nn), .val (.int ip), .val (.int ia), .val (.int ib), .val (.int ic), .val (.ref aw), .val (.ref ol)] [(.long w2), (.long w1), (.int ip), (.int ib), (.int ia), (.int nn), (.int zz), (.int yy), (.int xx), (.int ic), (.long (ft (own_kx zz)))])) _
              refine st159 _ ?_
              show Steps p.tables e below (T159.setTop (mkF m 235 #[.val (.int pa), .val (.int pb), .val (.int pc_), .val (.long w1), .second, .val (.long w2), .second, .val (.int pd), .val (.int xx), .val (.int yy), .val (.int zz), .val (.int nn), .val (.int ip), .val (.int ia), .val (.int ib), .val (.int ic), .val (.ref aw), .val (.ref ol)] [(.long (fn6 ic xx yy zz nn ia ib ip w1 w2)), (.long (ft (own_kx zz)))])) _
              refine XT.lcmp X159.here hx rfl (hb hby at_235) rfl ?_
              exact kt
            by_cases hc236_161 : (ft (own_kx zz)) = (fn6 ic xx yy zz nn ia ib ip w1 w2)
            · skip
              obtain ⟨_, _, ⟨T162, L162, k162, n162⟩, -, X162, ⟨Lc162, hQ162, l162, y162, z162⟩, st162⟩ := Jvm.LawKit.callS X159 hx (y := (⟨"com/example/bitweight/bitweight/chunk/ArrayChunkOrIntoPinLaw", "expected", "(IIIIIIIIJJ)J"⟩ : MethodName)) hown (mvT hZ (hw _ (List.mem_of_getElem? (i := 32) rfl))) (mvT hZ (hw _ (List.mem_of_getElem? (i := 33) rfl))) (mvT hZ (hw _ (List.mem_of_getElem? (i := 34) rfl))) (mvT hZ (hw _ (List.mem_of_getElem? (i := 35) rfl))) (by decide) (backOf (W := 2) (rm6 l Z a0 hw [] ip xx yy zz nn ia ib ip w1 w2 T144.heap n0 Z152) hZ (hw _ (List.mem_of_getElem? (i := 35) rfl)) (hw _ (List.mem_of_getElem? (i := 34) rfl)) (by decide) (by decide)) (g := (mkF m 263 #[.val (.int pa), .val (.int pb), .val (.int pc_), .val (.long w1), .second, .val (.long w2), .second, .val (.int pd), .val (.int xx), .val (.int yy), .val (.int zz), .val (.int nn), .val (.int ip), .val (.int ia), .val (.int ib), .val (.int ic), .val (.ref aw), .val (.ref ol)] [(.long w2), (.long w1), (.int ip), (.int ib), (.int ia), (.int nn), (.int zz), (.int yy), (.int xx), (.int ip), (.long (ft kp))])) rfl (by rw [hml]; rfl) (argsL := [(.int ip), (.int xx), (.int yy), (.int zz), (.int nn), (.int ia), (.int ib), (.int ip), (.long w1), (.long w2)]) (rest := [(.long (ft kp))]) (lenOf pd_12 rfl) rfl (by show 2 * 0 + _ ≤ _; exact Nat.le_of_eq rfl) (hb hby at_263) (fun _ _ => ⟨rfl, hE159, (by decide : 3 + 0 ≤ _), (by decide : 1031 + 0 ≤ _)⟩)
              dsimp only [Pt.U, Pt.locs, Pt.cells, Pt.slots] at X162 l162 y162 z162 st162 hQ162
              subst l162 y162 z162
              obtain ⟨rfl, N162q, hE162⟩ := hQ162
              have N162 := Fr.app N159 N162q
              have pre163 : ∀ t, Steps p.tables e below (T162.setTop (mkF m 267 #[.val (.int pa), .val (.int pb), .val (.int pc_), .val (.long w1), .second, .val (.long w2), .second, .val (.int pd), .val (.int xx), .val (.int yy), .val (.int zz), .val (.int nn), .val (.int ip), .val (.int ia), .val (.int ib), .val (.int ic), .val (.ref aw), .val (.ref ol)] [(.int (XT.cmpL (ft kp) (fn6 ip xx yy zz nn ia ib ip w1 w2)))])) t → Steps p.tables e below (s₁.setTop (entryFrame m #[(.int pa), (.int pb), (.int pc_), (.long w1), (.long w2), (.int pd)] maxLocals)) t := by
                intro t kt
                refine pre160 _ ?_
                show Steps p.tables e below (T159.setTop (mkF m 236 #[.val (.int pa), .val (.int pb), .val (.int pc_), .val (.long w1), .second, .val (.long w2), .second, .val (.int pd), .val (.int xx), .val (.int yy), .val (.int zz), .val (.int nn), .val (.int ip), .val (.int ia), .val (.int ib), .val (.int ic), .val (.ref aw), .val (.ref ol)] [(.int (XT.cmpL (ft (own_kx zz)) (fn6 ic xx yy zz nn ia ib ip w1 w2)))])) _
                refine XS.ifNo X159.here hx rfl (hb hby at_236) rfl (XT.ll_ne_f hc236_161) ?_
                show Steps p.tables e below (T159.setTop (mkF m 239 #[.val (.int pa), .val (.int pb), .val (.int pc_), .val (.long w1), .second, .val (.long w2), .second, .val (.int pd), .val (.int xx), .val (.int yy), .val (.int zz), .val (.int nn), .val (.int ip), .val (.int ia), .val (.int ib), .val (.int ic), .val (.ref aw), .val (.ref ol)] [])) _
                refine XS.aload X159.here hx rfl (hb hby at_239) rfl rfl ?_
                show Steps p.tables e below (T159.setTop (mkF m 241 #[.val (.int pa), .val (.int pb), .val (.int pc_), .val (.long w1), .second, .val (.long w2), .second, .val (.int pd), .val (.int xx), .val (.int yy), .val (.int zz), .val (.int nn), .val (.int ip), .val (.int ia), .val (.int ib), .val (.int ic), .val (.ref aw), .val (.ref ol)] [(.ref aw)])) _
                refine XS.iload X159.here hx rfl (hb hby at_241) rfl ?_
                show Steps p.tables e below (T159.setTop (mkF m 243 #[.val (.int pa), .val (.int pb), .val (.int pc_), .val (.long w1), .second, .val (.long w2), .second, .val (.int pd), .val (.int xx), .val (.int yy), .val (.int zz), .val (.int nn), .val (.int ip), .val (.int ia), .val (.int ib), .val (.int ic), .val (.ref aw), .val (.ref ol)] [(.int ip), (.ref aw)])) _
                refine owLdJ (k := kp) X159 hx hZ hE159 p144_0 (j := ip) h_kp h_kp2 (g := (mkF m 243 #[.val (.int pa), .val (.int pb), .val (.int pc_), .val (.long w1), .second, .val (.long w2), .second, .val (.int pd), .val (.int xx), .val (.int yy), .val (.int zz), .val (.int nn), .val (.int ip), .val (.int ia), .val (.int ib), .val (.int ic), .val (.ref aw), .val (.ref ol)] [(.int ip), (.ref aw)])) rfl rfl (hb hby at_243) _ ?_
                show Steps p.tables e below (T159.setTop (mkF m 244 #[.val (.int pa), .val (.int pb), .val (.int pc_), .val (.long w1), .second, .val (.long w2), .second, .val (.int pd), .val (.int xx), .val (.int yy), .val (.int zz), .val (.int nn), .val (.int ip), .val (.int ia), .val (.int ib), .val (.int ic), .val (.ref aw), .val (.ref ol)] [(.long (ft kp))])) _
                refine XS.iload X159.here hx rfl (hb hby at_244) rfl ?_
                show Steps p.tables e below (T159.setTop (mkF m 246 #[.val (.int pa), .val (.int pb), .val (.int pc_), .val (.long w1), .second, .val (.long w2), .second, .val (.int pd), .val (.int xx), .val (.int yy), .val (.int zz), .val (.int nn), .val (.int ip), .val (.int ia), .val (.int ib), .val (.int ic), .val (.ref aw), .val (.ref ol)] [(.int ip), (.long (ft kp))])) _
                refine XS.iload X159.here hx rfl (hb hby at_246) rfl ?_
                show Steps p.tables e below (T159.setTop (mkF m 248 #[.val (.int pa), .val (.int pb), .val (.int pc_), .val (.long w1), .second, .val (.long w2), .second, .val (.int pd), .val (.int xx), .val (.int yy), .val (.int zz), .val (.int nn), .val (.int ip), .val (.int ia), .val (.int ib), .val (.int ic), .val (.ref aw), .val (.ref ol)] [(.int xx), (.int ip), (.long (ft kp))])) _
                refine XS.iload X159.here hx rfl (hb hby at_248) rfl ?_
                show Steps p.tables e below (T159.setTop (mkF m 250 #[.val (.int pa), .val (.int pb), .val (.int pc_), .val (.long w1), .second, .val (.long w2), .second, .val (.int pd), .val (.int xx), .val (.int yy), .val (.int zz), .val (.int nn), .val (.int ip), .val (.int ia), .val (.int ib), .val (.int ic), .val (.ref aw), .val (.ref ol)] [(.int yy), (.int xx), (.int ip), (.long (ft kp))])) _
                refine XS.iload X159.here hx rfl (hb hby at_250) rfl ?_
                show Steps p.tables e below (T159.setTop (mkF m 252 #[.val (.int pa), .val (.int pb), .val (.int pc_), .val (.long w1), .second, .val (.long w2), .second, .val (.int pd), .val (.int xx), .val (.int yy), .val (.int zz), .val (.int nn), .val (.int ip), .val (.int ia), .val (.int ib), .val (.int ic), .val (.ref aw), .val (.ref ol)] [(.int zz), (.int yy), (.int xx), (.int ip), (.long (ft kp))])) _
                refine XS.iload X159.here hx rfl (hb hby at_252) rfl ?_
                show Steps p.tables e below (T159.setTop (mkF m 254 #[.val (.int pa), .val (.int pb), .val (.int pc_), .val (.long w1), .second, .val (.long w2), .second, .val (.int pd), .val (.int xx), .val (.int yy), .val (.int zz), .val (.int nn), .val (.int ip), .val (.int ia), .val (.int ib), .val (.int ic), .val (.ref aw), .val (.ref ol)] [(.int nn), (.int zz), (.int yy), (.int xx), (.int ip), (.long (ft kp))])) _
                refine XS.iload X159.here hx rfl (hb hby at_254) rfl ?_
                show Steps p.tables e below (T159.setTop (mkF m 256 #[.val (.int pa), .val (.int pb), .val (.int pc_), .val (.long w1), .second, .val (.long w2), .second, .val (.int pd), .val (.int xx), .val (.int yy), .val (.int zz), .val (.int nn), .val (.int ip), .val (.int ia), .val (.int ib), .val (.int ic), .val (.ref aw), .val (.ref ol)] [(.int ia), (.int nn), (.int zz), (.int yy), (.int xx), (.int ip), (.long (ft kp))])) _
                refine XS.iload X159.here hx rfl (hb hby at_256) rfl ?_
                show Steps p.tables e below (T159.setTop (mkF m 258 #[.val (.int pa), .val (.int pb), .val (.int pc_), .val (.long w1), .second, .val (.long w2), .second, .val (.int pd), .val (.int xx), .val (.int yy), .val (.int zz), .val (.int nn), .val (.int ip), .val (.int ia), .val (.int ib), .val (.int ic), .val (.ref aw), .val (.ref ol)] [(.int ib), (.int ia), (.int nn), (.int zz), (.int yy), (.int xx), (.int ip), (.long (ft kp))])) _
                refine XS.iload X159.here hx rfl (hb hby at_258) rfl ?_
                show Steps p.tables e below (T159.setTop (mkF m 260 #[.val (.int pa), .val (.int pb), .val (.int pc_), .val (.long w1), .second, .val (.long w2), .second, .val (.int pd), .val (.int xx), .val (.int yy), .val (.int zz), .val (.int nn), .val (.int ip), .val (.int ia), .val (.int ib), .val (.int ic), .val (.ref aw), .val (.ref ol)] [(.int ip), (.int ib), (.int ia), (.int nn), (.int zz), (.int yy), (.int xx), (.int ip), (.long (ft kp))])) _
                refine XS.lloadN X159.here hx rfl (hb hby at_260) rfl ?_
                show Steps p.tables e below (T159.setTop (mkF m 261 #[.val (.int pa), .val (.int pb), .val (.int pc_), .val (.long w1), .second, .val (.long w2), .second, .val (.int pd), .val (.int xx), .val (.int yy), .val (.int zz), .val (.int nn), .val (.int ip), .val (.int ia), .val (.int ib), .val (.int ic), .val (.ref aw), .val (.ref ol)] [(.long w1), (.int ip), (.int ib), (.int ia), (.int nn), (.int zz), (.int yy), (.int xx), (.int ip), (.long (ft kp))])) _
                refine XS.lload X159.here hx rfl (hb hby at_261) rfl ?_
                show Steps p.tables e below (T159.setTop (mkF m 263 #[.val (.int pa), .val (.int pb), .val (.int pc_), .val (.long w1), .second, .val (.long w2), .second, .val (.int pd), .val (.int xx), .val (.int yy), .val (.int zz), .val (.int nn), .val (.int ip), .val (.int ia), .val (.int ib), .val (.int ic), .val (.ref aw), .val (.ref ol)] [(.long w2), (.long w1), (.int ip), (.int ib), (.int ia), (.int nn), (.int zz), (.int yy), (.int xx), (.int ip), (.long (ft kp))])) _
                refine st162 _ ?_
                show Steps p.tables e below (T162.setTop (mkF m 266 #[.val (.int pa), .val (.int pb), .val (.int pc_), .val (.long w1), .second, .val (.long w2), .second, .val (.int pd), .val (.int xx), .val (.int yy), .val (.int zz), .val (.int nn), .val (.int ip), .val (.int ia), .val (.int ib), .val (.int ic), .val (.ref aw), .val (.ref ol)] [(.long (fn6 ip xx yy zz nn ia ib ip w1 w2)), (.long (ft kp))])) _
                refine XT.lcmp X162.here hx rfl (hb hby at_266) rfl ?_
                exact kt
              by_cases hc267_164 : (ft kp) = (fn6 ip xx yy zz nn ia ib ip w1 w2)
              · skip
                have pre165 : ∀ t, Steps p.tables e below (T162.setTop (mkF m 275 #[.val (.int pa), .val (.int pb), .val (.int pc_), .val (.long w1), .second, .val (.long w2), .second, .val (.int pd), .val (.int xx), .val (.int yy), .val (.int zz), .val (.int nn), .val (.int ip), .val (.int ia), .val (.int ib), .val (.int ic), .val (.ref aw), .val (.ref ol)] [(.int (1 : Int32))])) t → Steps p.tables e below (s₁.setTop (entryFrame m #[(.int pa), (.int pb), (.int pc_), (.long w1), (.long w2), (.int pd)] maxLocals)) t := by
                  intro t kt
                  refine pre163 _ ?_
                  show Steps p.tables e below (T162.setTop (mkF m 267 #[.val (.int pa), .val (.int pb), .val (.int pc_), .val (.long w1), .second, .val (.long w2), .second, .val (.int pd), .val (.int xx), .val (.int yy), .val (.int zz), .val (.int nn), .val (.int ip), .val (.int ia), .val (.int ib), .val (.int ic), .val (.ref aw), .val (.ref ol)] [(.int (XT.cmpL (ft kp) (fn6 ip xx yy zz nn ia ib ip w1 w2)))])) _
                  refine XS.ifNo X162.here hx rfl (hb hby at_267) rfl (XT.ll_ne_f hc267_164) ?_
                  show Steps p.tables e below (T162.setTop (mkF m 270 #[.val (.int pa), .val (.int pb), .val (.int pc_), .val (.long w1), .second, .val (.long w2), .second, .val (.int pd), .val (.int xx), .val (.int yy), .val (.int zz), .val (.int nn), .val (.int ip), .val (.int ia), .val (.int ib), .val (.int ic), .val (.ref aw), .val (.ref ol)] [])) _
                  refine XS.iconst X162.here hx rfl (hb hby at_270) ?_
                  show Steps p.tables e below (T162.setTop (mkF m 271 #[.val (.int pa), .val (.int pb), .val (.int pc_), .val (.long w1), .second, .val (.long w2), .second, .val (.int pd), .val (.int xx), .val (.int yy), .val (.int zz), .val (.int nn), .val (.int ip), .val (.int ia), .val (.int ib), .val (.int ic), .val (.ref aw), .val (.ref ol)] [(.int (1 : Int32))])) _
                  refine XS.goto X162.here hx rfl (pc0 := 271) (pc' := 275) rfl (hb hby at_271) (by decide) (by decide) ?_
                  exact kt
                obtain ⟨fs, hr, hrun, hended, hW, hsame⟩ := X162.leave (v := some (.int (1 : Int32))) (fun h => by rw [Bd.returns] at h; cases h)
                refine ⟨_, _, pre165 _ ?_, hrun, hended, _, _, rfl, ?_, ⟨_, rfl⟩, hW, hsame.mono (by decide) (by decide)⟩
                · show Steps p.tables e below (T162.setTop (mkF m 275 #[.val (.int pa), .val (.int pb), .val (.int pc_), .val (.long w1), .second, .val (.long w2), .second, .val (.int pd), .val (.int xx), .val (.int yy), .val (.int zz), .val (.int nn), .val (.int ip), .val (.int ia), .val (.int ib), .val (.int ic), .val (.ref aw), .val (.ref ol)] [(.int (1 : Int32))])) _
                  exact retN X162 hx (t := .boolean) Bd.returns (by simp) (hb hby at_275) hr
                · show Q0 Z pa pb pc_ w1 w2 pd an ar h0 n0 _ T162.heap _
                  rw [hE162]
                  exact ⟨rfl, N162⟩
              · skip
                exact absurd (own_law xx yy zz nn ia ib ip ip w1 w2 fz ff2 cc2 mm2 (own_kx xx) (own_kx yy) kp kp ft h_ft h_fz h_kp h_ka h_kb h_kp hm2 (by have := rs2.2.1; have := rs1.2.1; omega) hxx hy hz hset) hc267_164
            · skip
              exact absurd (own_law xx yy zz nn ia ib ip ic w1 w2 fz ff2 cc2 mm2 (own_kx xx) (own_kx yy) kp (own_kx zz) ft h_ft h_fz h_kc h_ka h_kb h_kp hm2 (by have := rs2.2.1; have := rs1.2.1; omega) hxx hy hz hset) hc236_161
          · skip
            exact absurd (own_law xx yy zz nn ia ib ip ib w1 w2 fz ff2 cc2 mm2 (own_kx xx) (own_kx yy) kp (own_kx yy) ft h_ft h_fz h_kb h_ka h_kb h_kp hm2 (by have := rs2.2.1; have := rs1.2.1; omega) hxx hy hz hset) hc205_158
        · skip
          exact absurd (own_law xx yy zz nn ia ib ip ia w1 w2 fz ff2 cc2 mm2 (own_kx xx) (own_kx yy) kp (own_kx xx) ft h_ft h_fz h_ka h_ka h_kb h_kp hm2 (by have := rs2.2.1; have := rs1.2.1; omega) hxx hy hz hset) hc174_155
set_option maxRecDepth 65536 in
set_option maxHeartbeats 40000000 in
theorem comes_1 {Post : Tables → Env → Array Value → State → Outcome → State → Prop} (hpost : ∀ tb e args s v u, (limb_1_1.after args s (.returned v) u = true ∧ limb_1_2.after args s (.returned v) u = true ∧ True) → FrameEnd s (.returned v) u (Jvm.fieldLocs frame_1_writes args s ++ Jvm.arrayLocs frame_1_arrays args s ++ Jvm.staticLocs frame_1_statics s) 16 2176 → Post tb e args s (.returned v) u) :
    ArmFor flags0 classFile x code maxLocals ret World_1 tables_1 room_1 Calls_1 rest_1 Pre_1 Post := by
  intro l hfl _ _ p e ha hc hk s m args below hf hA hF happ hP
  obtain ⟨hcalls, hrest, hpre⟩ := hP
  obtain ⟨-, -, -, hnamed, -, -, -, hat⟩ := (Spec.applies_iff hf).mp happ
  obtain ⟨hg, hn⟩ := and_e (Cond.before_iff.mp (show (Jvm.Cond.and given_1 narrow_1).before args s = true from hpre))
  obtain ⟨g1, g2⟩ := and_e hg
  obtain ⟨g3, g4⟩ := and_e g2
  obtain ⟨g5, g6⟩ := and_e g4
  obtain ⟨g7, g8⟩ := and_e g6
  obtain ⟨g9, g10⟩ := and_e g8
  obtain ⟨g11, g12⟩ := and_e g10
  obtain ⟨w0, w1, w2, w3, w4, w5, rfl⟩ : ∃ w0 w1 w2 w3 w4 w5 : Value, args = #[w0, w1, w2, w3, w4, w5] := by
    have hs : args.size = 6 := by simpa [Cond.value, given_1] using g1
    obtain ⟨L⟩ := args
    match L, hs with
    | [w0, w1, w2, w3, w4, w5], _ => exact ⟨w0, w1, w2, w3, w4, w5, rfl⟩
  have hw := fun d (hd : d ∈ tables_1) => atoms_spec (ws := Jvm.Cond.code x code maxLocals ret :: tables_1) hat d (List.mem_cons_of_mem _ hd)
  have hfit : Fit s := fun {y c} hc i hi => by
    obtain ⟨ha, rfl⟩ := Array.getElem?_eq_some_iff.mp hc
    have q := List.all_eq_true.mp ((Array.all_eq_true_iff_forall_mem.mp hF) _ (Array.getElem_mem ha)) i (List.mem_range.mpr hi)
    simpa [Array.getElem?_eq_getElem hi] using q
  obtain ⟨i0, ei0⟩ := is_v g3
  obtain rfl : w0 = (.int i0) := Option.some.inj ei0
  obtain ⟨i1, ei1⟩ := is_v g5
  obtain rfl : w1 = (.int i1) := Option.some.inj ei1
  obtain ⟨i2, ei2⟩ := is_v g7
  obtain rfl : w2 = (.int i2) := Option.some.inj ei2
  obtain ⟨i3, ei3⟩ := isL_v g9
  obtain rfl : w3 = (.long i3) := Option.some.inj ei3
  obtain ⟨i4, ei4⟩ := isL_v g11
  obtain rfl : w4 = (.long i4) := Option.some.inj ei4
  obtain ⟨i5, ei5⟩ := is_v g12
  obtain rfl : w5 = (.int i5) := Option.some.inj ei5
  obtain ⟨m1a, m1b⟩ := and_e hn
  obtain ⟨m2a, m2b⟩ := and_e m1b
  obtain ⟨m3a, m3b⟩ := and_e m2b
  obtain ⟨m4a, m4b⟩ := and_e m3b
  obtain ⟨m5a, m5b⟩ := and_e m4b
  obtain ⟨m6a, m6b⟩ := and_e m5b
  obtain ⟨an, evn⟩ := arr_v m1a
  obtain ⟨cel, Ac⟩ := Arr.start evn m1a
  have S_none := Sta.start evn (Or.inr ⟨(hw _ (List.mem_of_getElem? (i := 4) rfl)), (hw _ (List.mem_of_getElem? (i := 9) rfl))⟩)
  have A_an : owAI s s.heap an .char 0 (fun _ => 0) := ⟨cel, Ac, by have q := own_len evn (Ac.fin (Vm.Alike.refl _)) (eqv_i (Term.int_eval 0) m3a); have o : (0 : Int32).toInt = 0 := rfl; omega, fun i hi => by omega⟩
  obtain ⟨ar, evr⟩ := exa_v m4a
  have E_ar := Exa.start evr m4a
  have S_room := Sta.start evr (Or.inr ⟨(hw _ (List.mem_of_getElem? (i := 4) rfl)), (hw _ (List.mem_of_getElem? (i := 52) rfl))⟩)
  have R_least := own_ord evr m5a
  have R_shift := own_ord evr m6a
  have R_most := own_ord evr m6b
  obtain ⟨n, o, h1, h2, h3, _, L, rfl, ⟨rfl, N⟩, hq⟩ := rm0 l s _ hw tables_1 i0 i1 i2 i3 i4 i5 an ar s.heap s.heap.size (Nat.le_refl _) (Old.start s) S_none A_an S_room E_ar R_least R_shift R_most p e ha hc hk s m _ below hf ((Spec.applies_iff_loose hf).mp happ).1 ⟨rfl, State.Warmed39.refl s, rfl⟩ trivial
  refine ⟨n, _, h1, h2, h3, hpost _ _ _ _ _ _ ⟨Cond.after_iff.mpr rfl, Cond.after_iff.mpr (eq_i res_at (Term.int_eval (1)) rfl), trivial⟩ ⟨hq.1, hq.2.1, (hq.2.2.sift fun y hy => Or.inr (N y hy)).mono (by decide) (by decide)⟩⟩
theorem main_1_1 : Claimed_1_1 := comes_1 fun _ _ _ _ _ _ h hF => ⟨h.1, hF⟩
theorem main_1_2 : Claimed_1_2 := comes_1 fun _ _ _ _ _ _ h hF => ⟨h.2.1, hF⟩
end Jvm.Pilot.@@N@@
namespace Jvm.Pilot.@@N@@
open Jvm Jvm.ClassFile Sem Op Lib Jvm.Free Jvm.Stand Jvm.Pilot.@@N@@.Jvm.D
/-! MADE BY PROGRAM (witnessworld.py) out of the Statement's table words and the real class files: 19 classes; the members and pool entries that the words name. The judged class is class 1, her method 4. -/
namespace start1
open Jvm.ClassFile
def u (s : String) : CpInfo := .utf8 (stringToUtf16 s)
/-- a pool by its gaps: so many unusable entries, then the entry; so many at the end -/
def gap : Nat → List CpInfo → List CpInfo
  | 0, r => r
  | n + 1, r => .unusable :: gap n r
def poolList (es : List (Nat × CpInfo)) (last : Nat) : List CpInfo := es.foldr (fun e r => gap e.1 (e.2 :: r)) (gap last [])
def pool (es : List (Nat × CpInfo)) (last : Nat) : Array CpInfo := ⟨poolList es last⟩
def fileOf (pool : Array CpInfo) (this : Nat) (attrs : Array Attribute := #[]) (ms : Array MethodInfo := #[]) (fl : Nat := 33) (sup : Nat := 0) (ifs : Array Nat := #[]) (fds : Array FieldInfo := #[]) : ClassFile where
  minorVersion := 0
  majorVersion := 65
  constantPool := pool
  accessFlags := fl
  thisClass := this
  superClass := sup
  interfaces := ifs
  fields := fds
  methods := ms
  attributes := attrs
def plain (name : String) (sup : Option ClassId) : Class where
  name := name
  kind := .ordinary
  loader := none
  accessFlags := 33
  super := sup
  interfaces := #[]
  cf := none
  fields := #[]
  methods := #[]
  instanceTypes := #[]
  staticTypes := #[]
  resolved := #[]
  callSites := []
  init := .initialized
  statics := none
  mirror := none

def pool0 : Array CpInfo := pool [(5, u "<init>"), (0, u "()V"), (1, .class_ 10), (1, u "java/lang/Object")] 113

def k0c0 : Code := { maxStack := 0, maxLocals := 1, code := object_method_1_code, exceptionTable := #[], attributes := #[] }
def k0m0 : Method := { name := "<init>", desc := "()V", sig := { parameters := [], returnType := none }, accessFlags := 1, code := some k0c0 }
/-- java/lang/Object -/
def k0 : Class := { plain "java/lang/Object" none with
  accessFlags := 33
  interfaces := #[]
  cf := some (fileOf pool0 8 #[] #[{ accessFlags := 1, nameIndex := 5, descriptorIndex := 6, attributes := #[] }] 33 0 #[] #[])
  fields := #[]
  methods := #[k0m0]
  instanceTypes := #[]
  staticTypes := #[]
  resolved := Array.replicate 124 none
  statics := none }

def pool1 : Array CpInfo := pool [(2, .class_ 4), (0, .nameAndType 5 6), (0, u "java/lang/Object"), (0, u "<init>"), (0, u "()V"), (0, .methodref 8 9), (0, .class_ 10), (0, .nameAndType 11 12), (0, u "com/example/bitweight/bitweight/chunk/ArrayChunkOrIntoPinLaw"), (0, u "pre"), (0, u "(IIIIJJ)J"), (0, .methodref 8 14), (0, .nameAndType 15 16), (0, u "bit"), (0, u "(IZI)J"), (0, .integer 65535), (0, .class_ 19), (0, u "com/example/bitweight/bitweight/chunk/ArrayChunk"), (0, .methodref 18 3), (0, .methodref 18 22), (0, .nameAndType 23 24), (0, u "add"), (0, u "(C)Lcom/example/bitweight/bitweight/chunk/Chunk;"), (0, .methodref 18 26), (0, .nameAndType 27 28), (0, u "orInto"), (0, u "([J)V"), (0, .methodref 8 30), (0, .nameAndType 31 32), (0, u "expected"), (0, u "(IIIIIIIIJJ)J"), (3, u "law"), (0, u "(IIIJJI)Z")] 4

def k1m0 : Method := { name := "<init>", desc := "()V", sig := { parameters := [], returnType := none }, accessFlags := 1, code := none }
def k1c1 : Code := { maxStack := 4, maxLocals := 3, code := method_2_code, exceptionTable := #[], attributes := #[] }
def k1m1 : Method := { name := "bit", desc := "(IZI)J", sig := { parameters := [.int, .boolean, .int], returnType := some .long }, accessFlags := 10, code := some k1c1 }
def k1c2 : Code := { maxStack := 4, maxLocals := 8, code := method_3_code, exceptionTable := #[], attributes := #[] }
def k1m2 : Method := { name := "pre", desc := "(IIIIJJ)J", sig := { parameters := [.int, .int, .int, .int, .long, .long], returnType := some .long }, accessFlags := 10, code := some k1c2 }
def k1c3 : Code := { maxStack := 8, maxLocals := 12, code := method_4_code, exceptionTable := #[], attributes := #[] }
def k1m3 : Method := { name := "expected", desc := "(IIIIIIIIJJ)J", sig := { parameters := [.int, .int, .int, .int, .int, .int, .int, .int, .long, .long], returnType := some .long }, accessFlags := 10, code := some k1c3 }
def k1c4 : Code := { maxStack := 14, maxLocals := 18, code := code, exceptionTable := #[], attributes := #[] }
def k1m4 : Method := { name := "law", desc := "(IIIJJI)Z", sig := { parameters := [.int, .int, .int, .long, .long, .int], returnType := some .boolean }, accessFlags := 9, code := some k1c4 }
/-- com/example/bitweight/bitweight/chunk/ArrayChunkOrIntoPinLaw -/
def k1 : Class := { plain "com/example/bitweight/bitweight/chunk/ArrayChunkOrIntoPinLaw" (some 0) with
  accessFlags := 49
  interfaces := #[]
  cf := some (fileOf pool1 8 #[] #[{ accessFlags := 1, nameIndex := 5, descriptorIndex := 6, attributes := #[] }, { accessFlags := 10, nameIndex := 15, descriptorIndex := 16, attributes := #[] }, { accessFlags := 10, nameIndex := 11, descriptorIndex := 12, attributes := #[] }, { accessFlags := 10, nameIndex := 31, descriptorIndex := 32, attributes := #[] }, { accessFlags := 9, nameIndex := 36, descriptorIndex := 37, attributes := #[] }] 49 2 #[] #[])
  fields := #[]
  methods := #[k1m0, k1m1, k1m2, k1m3, k1m4]
  instanceTypes := #[]
  staticTypes := #[]
  resolved := Array.replicate 42 none
  statics := none }

def pool2 : Array CpInfo := pool [(5, .methodref 6 7), (0, .class_ 8), (0, .nameAndType 9 10), (0, u "java/lang/Object"), (0, u "<init>"), (0, u "()V"), (18, .class_ 31), (1, u "com/example/bitweight/bitweight/chunk/Chunk"), (3, .class_ 37), (1, u "com/example/bitweight/bitweight/chunk/Chunk$Form"), (235, u "VALUES"), (0, u "I"), (1, u "NO_RUN"), (0, u "J"), (0, u "SLACK"), (1, u "MANY_RUNS"), (1, u "INTO_WORDS_FROM"), (1, u "BYTES_A_VALUE_ADDED"), (1, u "VALUES_ADDED_AT_LEAST"), (0, u "AND"), (0, u "OR"), (1, u "XOR"), (1, u "AND_NOT"), (1, u "ONLY_THEIRS"), (62, .class_ 358), (0, u "com/example/bitweight/bitweight/chunk/Chunk$HeldConsumer")] 23

def k2c0 : Code := { maxStack := 1, maxLocals := 1, code := prog_24_method_3_code, exceptionTable := #[], attributes := #[] }
def k2m0 : Method := { name := "<init>", desc := "()V", sig := { parameters := [], returnType := none }, accessFlags := 0, code := some k2c0 }
/-- com/example/bitweight/bitweight/chunk/Chunk -/
def k2 : Class := { plain "com/example/bitweight/bitweight/chunk/Chunk" (some 0) with
  accessFlags := 1057
  interfaces := #[]
  cf := some (fileOf pool2 29 #[.nestMembers #[35, 357]] #[{ accessFlags := 0, nameIndex := 9, descriptorIndex := 10, attributes := #[] }] 1057 6 #[] #[{ accessFlags := 25, nameIndex := 273, descriptorIndex := 274, attributes := #[] }, { accessFlags := 25, nameIndex := 276, descriptorIndex := 277, attributes := #[] }, { accessFlags := 26, nameIndex := 278, descriptorIndex := 274, attributes := #[] }, { accessFlags := 24, nameIndex := 280, descriptorIndex := 274, attributes := #[] }, { accessFlags := 24, nameIndex := 282, descriptorIndex := 274, attributes := #[] }, { accessFlags := 26, nameIndex := 284, descriptorIndex := 274, attributes := #[] }, { accessFlags := 26, nameIndex := 286, descriptorIndex := 274, attributes := #[] }, { accessFlags := 24, nameIndex := 287, descriptorIndex := 274, attributes := #[] }, { accessFlags := 24, nameIndex := 288, descriptorIndex := 274, attributes := #[] }, { accessFlags := 24, nameIndex := 290, descriptorIndex := 274, attributes := #[] }, { accessFlags := 24, nameIndex := 292, descriptorIndex := 274, attributes := #[] }, { accessFlags := 24, nameIndex := 294, descriptorIndex := 274, attributes := #[] }])
  fields := #[{ name := "VALUES", type := .int, accessFlags := 25, slot := 0, constantValue := 0 }, { name := "NO_RUN", type := .long, accessFlags := 25, slot := 1, constantValue := 0 }, { name := "SLACK", type := .int, accessFlags := 26, slot := 2, constantValue := 0 }, { name := "MANY_RUNS", type := .int, accessFlags := 24, slot := 3, constantValue := 0 }, { name := "INTO_WORDS_FROM", type := .int, accessFlags := 24, slot := 4, constantValue := 0 }, { name := "BYTES_A_VALUE_ADDED", type := .int, accessFlags := 26, slot := 5, constantValue := 0 }, { name := "VALUES_ADDED_AT_LEAST", type := .int, accessFlags := 26, slot := 6, constantValue := 0 }, { name := "AND", type := .int, accessFlags := 24, slot := 7, constantValue := 0 }, { name := "OR", type := .int, accessFlags := 24, slot := 8, constantValue := 0 }, { name := "XOR", type := .int, accessFlags := 24, slot := 9, constantValue := 0 }, { name := "AND_NOT", type := .int, accessFlags := 24, slot := 10, constantValue := 0 }, { name := "ONLY_THEIRS", type := .int, accessFlags := 24, slot := 11, constantValue := 0 }]
  methods := #[k2m0]
  instanceTypes := #[]
  staticTypes := #[.int, .long, .int, .int, .int, .int, .int, .int, .int, .int, .int, .int]
  resolved := Array.replicate 382 none
  statics := none }

def pool3 : Array CpInfo := pool [(1, .class_ 2), (0, u "com/example/bitweight/bitweight/chunk/ListEntries"), (0, .class_ 4), (0, u "java/lang/Object")] 11

/-- com/example/bitweight/bitweight/chunk/ListEntries -/
def k3 : Class := { plain "com/example/bitweight/bitweight/chunk/ListEntries" (some 0) with
  accessFlags := 1536
  interfaces := #[]
  cf := some (fileOf pool3 1 #[] #[] 1536 3 #[] #[])
  fields := #[]
  methods := #[]
  instanceTypes := #[]
  staticTypes := #[]
  resolved := Array.replicate 16 none
  statics := none }

def pool4 : Array CpInfo := pool [(1, .fieldref 2 3), (0, .class_ 4), (0, .nameAndType 5 6), (0, u "com/example/bitweight/bitweight/chunk/ArrayChunk"), (0, u "NONE"), (0, u "[C"), (0, .methodref 2 8), (0, .nameAndType 9 10), (0, u "<init>"), (0, u "([CII)V"), (0, .methodref 12 13), (0, .class_ 14), (0, .nameAndType 9 15), (0, u "com/example/bitweight/bitweight/chunk/Chunk"), (0, u "()V"), (0, .fieldref 2 17), (0, .nameAndType 18 6), (0, u "values"), (0, .fieldref 2 20), (0, .nameAndType 21 22), (0, u "cardinality"), (0, u "I"), (0, .fieldref 2 24), (0, .nameAndType 25 22), (0, u "runs"), (14, .methodref 2 41), (0, .nameAndType 42 43), (0, u "runStarts"), (0, u "(II)I"), (5, .class_ 51), (1, u "java/util/Arrays"), (1, .methodref 49 54), (0, .nameAndType 55 56), (0, u "copyOf"), (0, u "([CI)[C"), (8, .methodref 2 66), (0, .nameAndType 67 68), (0, u "addLast"), (0, u "(CI)Lcom/example/bitweight/bitweight/chunk/Chunk;"), (0, .methodref 49 70), (0, .nameAndType 71 72), (0, u "binarySearch"), (0, u "([CIIC)I"), (7, u "add"), (1, .methodref 2 83), (0, .nameAndType 84 85), (0, u "replace"), (0, u "(IIII[C)V"), (10, .fieldref 2 97), (0, .nameAndType 98 99), (0, u "ROOM"), (0, u "Lcom/example/bitweight/bitweight/chunk/Room;"), (0, .methodref 101 102), (0, .class_ 103), (0, .nameAndType 104 43), (0, u "com/example/bitweight/bitweight/chunk/Room"), (0, u "grown"), (24, .methodref 130 131), (0, .class_ 132), (0, .nameAndType 133 43), (0, u "java/lang/Math"), (0, u "min"), (0, .methodref 101 135), (0, .nameAndType 136 43), (0, u "resized"), (0, .methodref 138 139), (0, .class_ 140), (0, .nameAndType 141 142), (0, u "java/lang/System"), (0, u "arraycopy"), (0, u "(Ljava/lang/Object;ILjava/lang/Object;II)V"), (14, .class_ 158), (0, u "com/example/bitweight/bitweight/chunk/ListEntries"), (63, u "MAX_CARDINALITY"), (2, u "NO_LAST_MEMBER"), (14, u "(C)Lcom/example/bitweight/bitweight/chunk/Chunk;"), (16, u "orInto"), (0, u "([J)V")] 15

def k4c0 : Code := { maxStack := 4, maxLocals := 1, code := prog_22_method_1_code, exceptionTable := #[], attributes := #[] }
def k4m0 : Method := { name := "<init>", desc := "()V", sig := { parameters := [], returnType := none }, accessFlags := 0, code := some k4c0 }
def k4c1 : Code := { maxStack := 2, maxLocals := 4, code := prog_22_method_2_code, exceptionTable := #[], attributes := #[] }
def k4m1 : Method := { name := "<init>", desc := "([CII)V", sig := { parameters := [(.array .char), .int, .int], returnType := none }, accessFlags := 2, code := some k4c1 }
def k4c2 : Code := { maxStack := 6, maxLocals := 4, code := prog_22_method_10_code, exceptionTable := #[], attributes := #[] }
def k4m2 : Method := { name := "add", desc := "(C)Lcom/example/bitweight/bitweight/chunk/Chunk;", sig := { parameters := [.char], returnType := some (.object "com/example/bitweight/bitweight/chunk/Chunk") }, accessFlags := 1, code := some k4c2 }
def k4c3 : Code := { maxStack := 6, maxLocals := 3, code := prog_22_method_12_code, exceptionTable := #[], attributes := #[] }
def k4m3 : Method := { name := "addLast", desc := "(CI)Lcom/example/bitweight/bitweight/chunk/Chunk;", sig := { parameters := [.char, .int], returnType := some (.object "com/example/bitweight/bitweight/chunk/Chunk") }, accessFlags := 2, code := some k4c3 }
def k4c4 : Code := { maxStack := 6, maxLocals := 13, code := prog_22_method_15_code, exceptionTable := #[], attributes := #[] }
def k4m4 : Method := { name := "replace", desc := "(IIII[C)V", sig := { parameters := [.int, .int, .int, .int, (.array .char)], returnType := none }, accessFlags := 2, code := some k4c4 }
def k4c5 : Code := { maxStack := 4, maxLocals := 5, code := prog_22_method_16_code, exceptionTable := #[], attributes := #[] }
def k4m5 : Method := { name := "runStarts", desc := "(II)I", sig := { parameters := [.int, .int], returnType := some .int }, accessFlags := 2, code := some k4c5 }
def k4c6 : Code := { maxStack := 8, maxLocals := 3, code := prog_22_method_37_code, exceptionTable := #[], attributes := #[] }
def k4m6 : Method := { name := "orInto", desc := "([J)V", sig := { parameters := [(.array .long)], returnType := none }, accessFlags := 0, code := some k4c6 }
/-- com/example/bitweight/bitweight/chunk/ArrayChunk -/
def k4 : Class := { plain "com/example/bitweight/bitweight/chunk/ArrayChunk" (some 2) with
  accessFlags := 48
  interfaces := #[3]
  cf := some (fileOf pool4 2 #[] #[{ accessFlags := 0, nameIndex := 9, descriptorIndex := 15, attributes := #[] }, { accessFlags := 2, nameIndex := 9, descriptorIndex := 10, attributes := #[] }, { accessFlags := 1, nameIndex := 80, descriptorIndex := 240, attributes := #[] }, { accessFlags := 2, nameIndex := 67, descriptorIndex := 68, attributes := #[] }, { accessFlags := 2, nameIndex := 84, descriptorIndex := 85, attributes := #[] }, { accessFlags := 2, nameIndex := 42, descriptorIndex := 43, attributes := #[] }, { accessFlags := 0, nameIndex := 257, descriptorIndex := 258, attributes := #[] }] 48 12 #[157] #[{ accessFlags := 24, nameIndex := 222, descriptorIndex := 22, attributes := #[] }, { accessFlags := 26, nameIndex := 98, descriptorIndex := 99, attributes := #[] }, { accessFlags := 26, nameIndex := 5, descriptorIndex := 6, attributes := #[] }, { accessFlags := 26, nameIndex := 225, descriptorIndex := 22, attributes := #[] }, { accessFlags := 2, nameIndex := 18, descriptorIndex := 6, attributes := #[] }, { accessFlags := 2, nameIndex := 21, descriptorIndex := 22, attributes := #[] }, { accessFlags := 2, nameIndex := 25, descriptorIndex := 22, attributes := #[] }])
  fields := #[{ name := "MAX_CARDINALITY", type := .int, accessFlags := 24, slot := 0, constantValue := 0 }, { name := "ROOM", type := (.object "com/example/bitweight/bitweight/chunk/Room"), accessFlags := 26, slot := 1, constantValue := 0 }, { name := "NONE", type := (.array .char), accessFlags := 26, slot := 2, constantValue := 0 }, { name := "NO_LAST_MEMBER", type := .int, accessFlags := 26, slot := 3, constantValue := 0 }, { name := "values", type := (.array .char), accessFlags := 2, slot := 0, constantValue := 0 }, { name := "cardinality", type := .int, accessFlags := 2, slot := 1, constantValue := 0 }, { name := "runs", type := .int, accessFlags := 2, slot := 2, constantValue := 0 }]
  methods := #[k4m0, k4m1, k4m2, k4m3, k4m4, k4m5, k4m6]
  instanceTypes := #[(.array .char), .int, .int]
  staticTypes := #[.int, (.object "com/example/bitweight/bitweight/chunk/Room"), (.array .char), .int]
  resolved := Array.replicate 274 none
  statics := some 0 }

def pool5 : Array CpInfo := pool [(2, .class_ 4), (1, u "java/lang/Object"), (2, .fieldref 8 9), (0, .class_ 10), (0, .nameAndType 11 12), (0, u "com/example/bitweight/bitweight/chunk/Room"), (0, u "shift"), (0, u "I"), (0, .fieldref 8 14), (0, .nameAndType 15 12), (0, u "least"), (2, u "fewest"), (0, .fieldref 8 20), (0, .nameAndType 21 12), (0, u "most"), (0, .methodref 8 23), (0, .nameAndType 24 25), (0, u "stepped"), (0, u "(I)I"), (0, .methodref 27 28), (0, .class_ 29), (0, .nameAndType 30 31), (0, u "java/lang/Math"), (0, u "max"), (0, u "(II)I"), (0, .methodref 27 33), (0, .nameAndType 34 31), (0, u "min"), (2, u "grown"), (3, u "resized")] 3

def k5c0 : Code := { maxStack := 3, maxLocals := 3, code := prog_30_method_2_code, exceptionTable := #[], attributes := #[] }
def k5m0 : Method := { name := "grown", desc := "(II)I", sig := { parameters := [.int, .int], returnType := some .int }, accessFlags := 1, code := some k5c0 }
def k5c1 : Code := { maxStack := 4, maxLocals := 3, code := prog_30_method_3_code, exceptionTable := #[], attributes := #[] }
def k5m1 : Method := { name := "resized", desc := "(II)I", sig := { parameters := [.int, .int], returnType := some .int }, accessFlags := 1, code := some k5c1 }
def k5c2 : Code := { maxStack := 4, maxLocals := 2, code := prog_30_method_4_code, exceptionTable := #[], attributes := #[] }
def k5m2 : Method := { name := "stepped", desc := "(I)I", sig := { parameters := [.int], returnType := some .int }, accessFlags := 2, code := some k5c2 }
/-- com/example/bitweight/bitweight/chunk/Room -/
def k5 : Class := { plain "com/example/bitweight/bitweight/chunk/Room" (some 0) with
  accessFlags := 49
  interfaces := #[]
  cf := some (fileOf pool5 8 #[] #[{ accessFlags := 1, nameIndex := 37, descriptorIndex := 31, attributes := #[] }, { accessFlags := 1, nameIndex := 41, descriptorIndex := 31, attributes := #[] }, { accessFlags := 2, nameIndex := 24, descriptorIndex := 25, attributes := #[] }] 49 2 #[] #[{ accessFlags := 18, nameIndex := 11, descriptorIndex := 12, attributes := #[] }, { accessFlags := 18, nameIndex := 15, descriptorIndex := 12, attributes := #[] }, { accessFlags := 18, nameIndex := 18, descriptorIndex := 12, attributes := #[] }, { accessFlags := 18, nameIndex := 21, descriptorIndex := 12, attributes := #[] }])
  fields := #[{ name := "shift", type := .int, accessFlags := 18, slot := 0, constantValue := 0 }, { name := "least", type := .int, accessFlags := 18, slot := 1, constantValue := 0 }, { name := "fewest", type := .int, accessFlags := 18, slot := 2, constantValue := 0 }, { name := "most", type := .int, accessFlags := 18, slot := 3, constantValue := 0 }]
  methods := #[k5m0, k5m1, k5m2]
  instanceTypes := #[.int, .int, .int, .int]
  staticTypes := #[]
  resolved := Array.replicate 45 none
  statics := none }

def pool6 : Array CpInfo := pool [(1, .class_ 2), (0, u "java/lang/Math"), (1, .class_ 6), (1, u "java/lang/Object"), (0, u "<init>"), (0, u "()V"), (89, .class_ 100), (1, u "java/lang/Math$RandomNumberGeneratorHolder"), (71, u "negativeZeroFloatBits"), (0, u "J"), (2, u "negativeZeroDoubleBits"), (21, u "max"), (2, u "min"), (43, u "$assertionsDisabled"), (0, u "Z"), (88, u "(II)I"), (2, u "twoToTheDoubleScaleDown"), (0, u "D"), (4, u "twoToTheDoubleScaleUp"), (9, u "E"), (3, u "PI"), (2, u "TAU"), (2, u "DEGREES_TO_RADIANS"), (0, u "RADIANS_TO_DEGREES")] 94

def k6m0 : Method := { name := "<init>", desc := "()V", sig := { parameters := [], returnType := none }, accessFlags := 2, code := none }
def k6c1 : Code := { maxStack := 2, maxLocals := 2, code := jdk_29_method_65_code, exceptionTable := #[], attributes := #[] }
def k6m1 : Method := { name := "max", desc := "(II)I", sig := { parameters := [.int, .int], returnType := some .int }, accessFlags := 9, code := some k6c1 }
def k6c2 : Code := { maxStack := 2, maxLocals := 2, code := jdk_29_method_69_code, exceptionTable := #[], attributes := #[] }
def k6m2 : Method := { name := "min", desc := "(II)I", sig := { parameters := [.int, .int], returnType := some .int }, accessFlags := 9, code := some k6c2 }
/-- java/lang/Math -/
def k6 : Class := { plain "java/lang/Math" (some 0) with
  accessFlags := 49
  interfaces := #[]
  cf := some (fileOf pool6 1 #[.nestMembers #[98]] #[{ accessFlags := 2, nameIndex := 7, descriptorIndex := 8, attributes := #[] }, { accessFlags := 9, nameIndex := 198, descriptorIndex := 335, attributes := #[] }, { accessFlags := 9, nameIndex := 201, descriptorIndex := 335, attributes := #[] }] 49 4 #[] #[{ accessFlags := 25, nameIndex := 354, descriptorIndex := 339, attributes := #[] }, { accessFlags := 25, nameIndex := 358, descriptorIndex := 339, attributes := #[] }, { accessFlags := 25, nameIndex := 361, descriptorIndex := 339, attributes := #[] }, { accessFlags := 26, nameIndex := 364, descriptorIndex := 339, attributes := #[] }, { accessFlags := 26, nameIndex := 365, descriptorIndex := 339, attributes := #[] }, { accessFlags := 26, nameIndex := 172, descriptorIndex := 173, attributes := #[] }, { accessFlags := 26, nameIndex := 176, descriptorIndex := 173, attributes := #[] }, { accessFlags := 8, nameIndex := 344, descriptorIndex := 339, attributes := #[] }, { accessFlags := 8, nameIndex := 338, descriptorIndex := 339, attributes := #[] }, { accessFlags := 4120, nameIndex := 245, descriptorIndex := 246, attributes := #[] }])
  fields := #[{ name := "E", type := .double, accessFlags := 25, slot := 0, constantValue := 0 }, { name := "PI", type := .double, accessFlags := 25, slot := 1, constantValue := 0 }, { name := "TAU", type := .double, accessFlags := 25, slot := 2, constantValue := 0 }, { name := "DEGREES_TO_RADIANS", type := .double, accessFlags := 26, slot := 3, constantValue := 0 }, { name := "RADIANS_TO_DEGREES", type := .double, accessFlags := 26, slot := 4, constantValue := 0 }, { name := "negativeZeroFloatBits", type := .long, accessFlags := 26, slot := 5, constantValue := 0 }, { name := "negativeZeroDoubleBits", type := .long, accessFlags := 26, slot := 6, constantValue := 0 }, { name := "twoToTheDoubleScaleUp", type := .double, accessFlags := 8, slot := 7, constantValue := 0 }, { name := "twoToTheDoubleScaleDown", type := .double, accessFlags := 8, slot := 8, constantValue := 0 }, { name := "$assertionsDisabled", type := .boolean, accessFlags := 4120, slot := 9, constantValue := 0 }]
  methods := #[k6m0, k6m1, k6m2]
  instanceTypes := #[]
  staticTypes := #[.double, .double, .double, .double, .double, .long, .long, .double, .double, .boolean]
  resolved := Array.replicate 460 none
  statics := none }

def pool7 : Array CpInfo := pool [(2, .class_ 4), (1, u "java/lang/Object"), (0, u "<init>"), (0, u "()V"), (6, .methodref 14 15), (0, .class_ 16), (0, .nameAndType 17 18), (0, u "java/util/Arrays"), (0, u "rangeCheck"), (0, u "(III)V"), (55, .class_ 76), (1, u "java/util/Arrays$NaturalOrder"), (36, .class_ 115), (1, u "java/util/Arrays$LegacyMergeSort"), (1, u "Z"), (32, .methodref 151 152), (0, .class_ 153), (0, .nameAndType 154 155), (0, u "java/lang/System"), (0, u "arraycopy"), (0, u "(Ljava/lang/Object;ILjava/lang/Object;II)V"), (51, u "binarySearch0"), (7, .methodref 14 216), (0, .nameAndType 207 217), (0, u "([CIIC)I"), (84, u "copyOf"), (1, .methodref 305 306), (0, .class_ 307), (0, .nameAndType 308 309), (0, u "java/lang/Math"), (0, u "min"), (0, u "(II)I"), (65, .class_ 376), (0, u "java/util/Arrays$ArrayList"), (68, u "$assertionsDisabled"), (269, u "MIN_ARRAY_SORT_GRAN"), (0, u "I"), (2, u "INSERTIONSORT_THRESHOLD"), (74, u "binarySearch"), (78, u "([CI)[C"), (101, .class_ 976), (0, u "java/util/Arrays$ArrayItr")] 52

def k7m0 : Method := { name := "<init>", desc := "()V", sig := { parameters := [], returnType := none }, accessFlags := 2, code := none }
def k7c1 : Code := { maxStack := 4, maxLocals := 3, code := jdk_65_method_30_code, exceptionTable := #[], attributes := #[] }
def k7m1 : Method := { name := "rangeCheck", desc := "(III)V", sig := { parameters := [.int, .int, .int], returnType := none }, accessFlags := 8, code := some k7c1 }
def k7c2 : Code := { maxStack := 4, maxLocals := 4, code := jdk_65_method_64_code, exceptionTable := #[], attributes := #[] }
def k7m2 : Method := { name := "binarySearch", desc := "([CIIC)I", sig := { parameters := [(.array .char), .int, .int, .char], returnType := some .int }, accessFlags := 9, code := some k7c2 }
def k7c3 : Code := { maxStack := 2, maxLocals := 8, code := jdk_65_method_65_code, exceptionTable := #[], attributes := #[] }
def k7m3 : Method := { name := "binarySearch0", desc := "([CIIC)I", sig := { parameters := [(.array .char), .int, .int, .char], returnType := some .int }, accessFlags := 10, code := some k7c3 }
def k7c4 : Code := { maxStack := 6, maxLocals := 3, code := jdk_65_method_125_code, exceptionTable := #[], attributes := #[] }
def k7m4 : Method := { name := "copyOf", desc := "([CI)[C", sig := { parameters := [(.array .char), .int], returnType := some (.array .char) }, accessFlags := 9, code := some k7c4 }
/-- java/util/Arrays -/
def k7 : Class := { plain "java/util/Arrays" (some 0) with
  accessFlags := 49
  interfaces := #[]
  cf := some (fileOf pool7 14 #[.nestMembers #[975, 375, 113, 74]] #[{ accessFlags := 2, nameIndex := 5, descriptorIndex := 6, attributes := #[] }, { accessFlags := 8, nameIndex := 17, descriptorIndex := 18, attributes := #[] }, { accessFlags := 9, nameIndex := 794, descriptorIndex := 217, attributes := #[] }, { accessFlags := 10, nameIndex := 207, descriptorIndex := 217, attributes := #[] }, { accessFlags := 9, nameIndex := 302, descriptorIndex := 873, attributes := #[] }] 49 2 #[] #[{ accessFlags := 26, nameIndex := 715, descriptorIndex := 716, attributes := #[] }, { accessFlags := 26, nameIndex := 719, descriptorIndex := 716, attributes := #[] }, { accessFlags := 4120, nameIndex := 445, descriptorIndex := 117, attributes := #[] }])
  fields := #[{ name := "MIN_ARRAY_SORT_GRAN", type := .int, accessFlags := 26, slot := 0, constantValue := 0 }, { name := "INSERTIONSORT_THRESHOLD", type := .int, accessFlags := 26, slot := 1, constantValue := 0 }, { name := "$assertionsDisabled", type := .boolean, accessFlags := 4120, slot := 2, constantValue := 0 }]
  methods := #[k7m0, k7m1, k7m2, k7m3, k7m4]
  instanceTypes := #[]
  staticTypes := #[.int, .int, .boolean]
  resolved := Array.replicate 1029 none
  statics := none }

def pool8 : Array CpInfo := pool [(2, .class_ 4), (1, u "java/lang/Object"), (0, u "<init>"), (0, u "()V"), (1, .class_ 10), (1, u "java/lang/System"), (0, u "allowSecurityManager"), (0, u "I"), (16, u "cons"), (0, u "Ljava/io/Console;"), (77, .class_ 110), (1, u "java/lang/System$CallersHolder"), (43, u "initialErrStream"), (0, u "Ljava/io/PrintStream;"), (19, u "security"), (0, u "Ljava/lang/SecurityManager;"), (31, .class_ 209), (0, u "java/lang/System$1"), (7, u "props"), (0, u "Ljava/util/Properties;"), (2, u "lineSeparator"), (0, u "Ljava/lang/String;"), (96, .class_ 321), (1, u "java/lang/System$LoggerFinder"), (5, .class_ 328), (0, u "java/lang/System$Logger"), (67, u "err"), (2, u "out"), (91, u "notSupportedJnuEncoding"), (15, u "in"), (17, u "initialIn"), (0, u "Ljava/io/InputStream;"), (35, u "bootLayer"), (0, u "Ljava/lang/ModuleLayer;"), (99, .class_ 664), (0, u "java/lang/System$2"), (9, u "NEVER"), (2, u "MAYBE"), (49, u "arraycopy"), (0, u "(Ljava/lang/Object;ILjava/lang/Object;II)V"), (72, .class_ 802), (0, u "java/lang/System$Logger$Level")] 31

def k8m0 : Method := { name := "<init>", desc := "()V", sig := { parameters := [], returnType := none }, accessFlags := 2, code := none }
def k8m1 : Method := { name := "arraycopy", desc := "(Ljava/lang/Object;ILjava/lang/Object;II)V", sig := { parameters := [(.object "java/lang/Object"), .int, (.object "java/lang/Object"), .int, .int], returnType := none }, accessFlags := 265, code := none }
/-- java/lang/System -/
def k8 : Class := { plain "java/lang/System" (some 0) with
  accessFlags := 49
  interfaces := #[]
  cf := some (fileOf pool8 8 #[.nestMembers #[319, 327, 801, 108, 663, 208]] #[{ accessFlags := 2, nameIndex := 5, descriptorIndex := 6, attributes := #[] }, { accessFlags := 265, nameIndex := 727, descriptorIndex := 728, attributes := #[] }] 49 2 #[] #[{ accessFlags := 25, nameIndex := 507, descriptorIndex := 526, attributes := #[] }, { accessFlags := 25, nameIndex := 399, descriptorIndex := 155, attributes := #[] }, { accessFlags := 25, nameIndex := 396, descriptorIndex := 155, attributes := #[] }, { accessFlags := 10, nameIndex := 525, descriptorIndex := 526, attributes := #[] }, { accessFlags := 26, nameIndex := 674, descriptorIndex := 12, attributes := #[] }, { accessFlags := 26, nameIndex := 677, descriptorIndex := 12, attributes := #[] }, { accessFlags := 10, nameIndex := 11, descriptorIndex := 12, attributes := #[] }, { accessFlags := 74, nameIndex := 175, descriptorIndex := 176, attributes := #[] }, { accessFlags := 10, nameIndex := 491, descriptorIndex := 222, attributes := #[] }, { accessFlags := 74, nameIndex := 29, descriptorIndex := 30, attributes := #[] }, { accessFlags := 74, nameIndex := 154, descriptorIndex := 155, attributes := #[] }, { accessFlags := 10, nameIndex := 217, descriptorIndex := 218, attributes := #[] }, { accessFlags := 10, nameIndex := 221, descriptorIndex := 222, attributes := #[] }, { accessFlags := 8, nameIndex := 562, descriptorIndex := 563, attributes := #[] }])
  fields := #[{ name := "in", type := (.object "java/io/InputStream"), accessFlags := 25, slot := 0, constantValue := 0 }, { name := "out", type := (.object "java/io/PrintStream"), accessFlags := 25, slot := 1, constantValue := 0 }, { name := "err", type := (.object "java/io/PrintStream"), accessFlags := 25, slot := 2, constantValue := 0 }, { name := "initialIn", type := (.object "java/io/InputStream"), accessFlags := 10, slot := 3, constantValue := 0 }, { name := "NEVER", type := .int, accessFlags := 26, slot := 4, constantValue := 0 }, { name := "MAYBE", type := .int, accessFlags := 26, slot := 5, constantValue := 0 }, { name := "allowSecurityManager", type := .int, accessFlags := 10, slot := 6, constantValue := 0 }, { name := "security", type := (.object "java/lang/SecurityManager"), accessFlags := 74, slot := 7, constantValue := 0 }, { name := "notSupportedJnuEncoding", type := (.object "java/lang/String"), accessFlags := 10, slot := 8, constantValue := 0 }, { name := "cons", type := (.object "java/io/Console"), accessFlags := 74, slot := 9, constantValue := 0 }, { name := "initialErrStream", type := (.object "java/io/PrintStream"), accessFlags := 74, slot := 10, constantValue := 0 }, { name := "props", type := (.object "java/util/Properties"), accessFlags := 10, slot := 11, constantValue := 0 }, { name := "lineSeparator", type := (.object "java/lang/String"), accessFlags := 10, slot := 12, constantValue := 0 }, { name := "bootLayer", type := (.object "java/lang/ModuleLayer"), accessFlags := 8, slot := 13, constantValue := 0 }]
  methods := #[k8m0, k8m1]
  instanceTypes := #[]
  staticTypes := #[(.object "java/io/InputStream"), (.object "java/io/PrintStream"), (.object "java/io/PrintStream"), (.object "java/io/InputStream"), .int, .int, .int, (.object "java/lang/SecurityManager"), (.object "java/lang/String"), (.object "java/io/Console"), (.object "java/io/PrintStream"), (.object "java/util/Properties"), (.object "java/lang/String"), (.object "java/lang/ModuleLayer")]
  resolved := Array.replicate 834 none
  statics := none }

def pool9 : Array CpInfo := pool [(1, u "java/lang/Cloneable"), (0, .class_ 1), (0, u "java/lang/Object"), (0, .class_ 3)] 3

/-- java/lang/Cloneable -/
def k9 : Class := { plain "java/lang/Cloneable" (some 0) with
  accessFlags := 1537
  interfaces := #[]
  cf := some (fileOf pool9 2 #[] #[] 1537 4 #[] #[])
  fields := #[]
  methods := #[]
  instanceTypes := #[]
  staticTypes := #[]
  resolved := Array.replicate 8 none
  statics := none }

def pool10 : Array CpInfo := pool [(1, u "java/io/Serializable"), (0, .class_ 1), (0, u "java/lang/Object"), (0, .class_ 3)] 3

/-- java/io/Serializable -/
def k10 : Class := { plain "java/io/Serializable" (some 0) with
  accessFlags := 1537
  interfaces := #[]
  cf := some (fileOf pool10 2 #[] #[] 1537 4 #[] #[])
  fields := #[]
  methods := #[]
  instanceTypes := #[]
  staticTypes := #[]
  resolved := Array.replicate 8 none
  statics := none }

/-- the primitive byte -/
def k11 : Class := { plain "byte" none with kind := .primitive 'B', accessFlags := 0x411 }
/-- [B -/
def k12 : Class := { plain "[B" (some 0) with kind := .array 11 .byte, interfaces := #[9, 10], accessFlags := 1041 }

/-- the primitive char -/
def k13 : Class := { plain "char" none with kind := .primitive 'C', accessFlags := 0x411 }
/-- [C -/
def k14 : Class := { plain "[C" (some 0) with kind := .array 13 .char, interfaces := #[9, 10], accessFlags := 1041 }

/-- the primitive int -/
def k15 : Class := { plain "int" none with kind := .primitive 'I', accessFlags := 0x411 }
/-- [I -/
def k16 : Class := { plain "[I" (some 0) with kind := .array 15 .int, interfaces := #[9, 10], accessFlags := 1041 }

/-- the primitive long -/
def k17 : Class := { plain "long" none with kind := .primitive 'J', accessFlags := 0x411 }
/-- [J -/
def k18 : Class := { plain "[J" (some 0) with kind := .array 17 .long, interfaces := #[9, 10], accessFlags := 1041 }

def heap : Heap := #[{ cls := 4, slots := #[.int 0, .ref 2, .ref 1, .int 0], vm := .statics 4 },
  { cls := 14, slots := #[], vm := .none },
  { cls := 5, slots := #[.int 2, .int 4, .int 0, .int 4096], vm := .none }]
def classes : Array Class := #[k0, k1, k2, k3, k4, k5, k6, k7, k8, k9, k10, k11, k12, k13, k14, k15, k16, k17, k18]
def interned : List (Array UInt16 × Addr) := []
def slotsUsed : Nat := 8
def theMethod : MethodId := ⟨1, 4⟩
def args0 : Array Value := #[.int 5, .int 6, .int 7, .long 8, .long 9, .int 3]
def aboutOver (below : List Frame) : State where
  vm := { classes := classes, interned := interned.toArray }
  heap := heap
  slotsUsed := slotsUsed
  threads := #[{ frames := .invoking theMethod args0 :: below }]
def below0 : List Frame := [.native { method := ⟨0, 0⟩, args := #[] }]
def about1 : State := aboutOver below0
def p0 : Program := .bare "" "" ""
def e0 : Env := launch0.env 0 0 0
theorem w_frames : about1.frames = Frame.invoking theMethod args0 :: below0 := rfl
set_option maxRecDepth 65536 in
theorem w_args : argsFit about1.vm theMethod args0 = true := by decide +kernel
set_option maxRecDepth 65536 in
theorem w_heap : heapFits about1 = true := by decide +kernel
set_option maxRecDepth 65536 in
theorem w_runnable : about1.curStatus? = some .runnable := by decide +kernel
set_option maxRecDepth 65536 in
theorem w_alone : about1.alone = true := by decide +kernel
set_option maxRecDepth 65536 in
theorem w_named : about1.methodNamed? x = some theMethod := by decide +kernel
set_option maxRecDepth 65536 in
theorem w_hears : about1.hears theMethod below0 = true := by decide +kernel
set_option maxRecDepth 65536 in
theorem w_ripe : about1.ripe theMethod args0 below0 = true := by decide +kernel
theorem w_running : about1.status = .running := rfl
set_option maxRecDepth 65536 in
theorem w_room : about1.hasRoom e0.platform room_1 = true :=
  launch0.hasRoom_least _ room_1 (by decide +kernel) (by decide +kernel) (by decide +kernel) (by decide +kernel) (by decide +kernel) (by decide +kernel)
theorem allAtoms_all (ts : List Jvm.Cond) (a : Array Jvm.Value) (st : Jvm.State) : (allAtoms ts).before a st = ts.all (fun c => c.before a st) := by
  induction ts with
  | nil => rfl
  | cons c t ih =>
    show (Jvm.Cond.and c (allAtoms t)).before a st = _
    rw [Jvm.Cond.before_and, ih, List.all_cons]
def words1 : List Jvm.Cond := Jvm.Cond.code x code maxLocals ret :: tables_1
/-- a 'code' word, met by the world's own term for the bytes: nothing is compared byte by byte -/
theorem code_word {y : MethodName} {bytes : ByteArray} {mx : Nat} {rt : Option FieldType} {a : Array Value} {s : State} {m : MethodId} {meth : Method} {c : Code} (h1 : s.methodNamed? y = some m) (h2 : s.vm.method? m = some meth) (h3 : meth.code = some c) (h4 : c.code = bytes)
    (h5 : (c.maxLocals == mx && c.exceptionTable.isEmpty && decide (c.maxStack ≤ mostOperands) && decide (meth.sig.returnType = rt) && !meth.locks && decide (parseMethodDescriptor y.desc = some meth.sig)) = true) : (Jvm.Cond.code y bytes mx rt).before a s = true := by
  simp only [Bool.and_eq_true, beq_iff_eq, Bool.not_eq_true', decide_eq_true_eq] at h5
  obtain ⟨⟨⟨⟨⟨g1, g2⟩, g3⟩, g4⟩, g5⟩, g6⟩ := h5
  simp [Cond.before, Cond.holds, Cond.value, h1, h2, h3, h4, g1, g2, g3, g4, g5, g6]
def isCode : Jvm.Cond → Bool
  | .code _ _ _ _ => true
  | _ => false
theorem all_split {L : List Jvm.Cond} {P : Jvm.Cond → Bool} (h1 : L.all (fun c => isCode c || P c) = true) (h2 : ∀ c ∈ L.filter isCode, P c = true) : L.all P = true := by
  refine List.all_eq_true.mpr fun c hc => ?_
  have h := List.all_eq_true.mp h1 c hc
  rcases Bool.eq_false_or_eq_true (isCode c) with hi | hi
  · exact h2 c (List.mem_filter.mpr ⟨hc, hi⟩)
  · simpa [hi] using h
set_option maxRecDepth 65536 in
theorem w_c0 : (Jvm.Cond.code x code maxLocals ret).before args0 about1 = true := code_word (m := ⟨1, 4⟩) (meth := k1m4) (c := k1c4) (by decide +kernel) rfl rfl rfl (by decide +kernel)
set_option maxRecDepth 65536 in
theorem w_c1 : (Jvm.Cond.code ({ cls := "com/example/bitweight/bitweight/chunk/ArrayChunk", name := "<init>", desc := "()V" } : Jvm.MethodName) prog_22_method_1_code (1 : Nat) (Option.none : Option Jvm.ClassFile.FieldType)).before args0 about1 = true := code_word (m := ⟨4, 0⟩) (meth := k4m0) (c := k4c0) (by decide +kernel) rfl rfl rfl (by decide +kernel)
set_option maxRecDepth 65536 in
theorem w_c2 : (Jvm.Cond.code ({ cls := "com/example/bitweight/bitweight/chunk/ArrayChunk", name := "<init>", desc := "([CII)V" } : Jvm.MethodName) prog_22_method_2_code (4 : Nat) (Option.none : Option Jvm.ClassFile.FieldType)).before args0 about1 = true := code_word (m := ⟨4, 1⟩) (meth := k4m1) (c := k4c1) (by decide +kernel) rfl rfl rfl (by decide +kernel)
set_option maxRecDepth 65536 in
theorem w_c3 : (Jvm.Cond.code ({ cls := "com/example/bitweight/bitweight/chunk/Chunk", name := "<init>", desc := "()V" } : Jvm.MethodName) prog_24_method_3_code (1 : Nat) (Option.none : Option Jvm.ClassFile.FieldType)).before args0 about1 = true := code_word (m := ⟨2, 0⟩) (meth := k2m0) (c := k2c0) (by decide +kernel) rfl rfl rfl (by decide +kernel)
set_option maxRecDepth 65536 in
theorem w_c4 : (Jvm.Cond.code ({ cls := "java/lang/Object", name := "<init>", desc := "()V" } : Jvm.MethodName) object_method_1_code (1 : Nat) (Option.none : Option Jvm.ClassFile.FieldType)).before args0 about1 = true := code_word (m := ⟨0, 0⟩) (meth := k0m0) (c := k0c0) (by decide +kernel) rfl rfl rfl (by decide +kernel)
set_option maxRecDepth 65536 in
theorem w_c5 : (Jvm.Cond.code ({ cls := "com/example/bitweight/bitweight/chunk/ArrayChunk", name := "orInto", desc := "([J)V" } : Jvm.MethodName) prog_22_method_37_code (3 : Nat) (Option.none : Option Jvm.ClassFile.FieldType)).before args0 about1 = true := code_word (m := ⟨4, 6⟩) (meth := k4m6) (c := k4c6) (by decide +kernel) rfl rfl rfl (by decide +kernel)
set_option maxRecDepth 65536 in
theorem w_c6 : (Jvm.Cond.code ({ cls := "com/example/bitweight/bitweight/chunk/ArrayChunkOrIntoPinLaw", name := "expected", desc := "(IIIIIIIIJJ)J" } : Jvm.MethodName) method_4_code (12 : Nat) (Option.some Jvm.ClassFile.FieldType.long)).before args0 about1 = true := code_word (m := ⟨1, 3⟩) (meth := k1m3) (c := k1c3) (by decide +kernel) rfl rfl rfl (by decide +kernel)
set_option maxRecDepth 65536 in
theorem w_c7 : (Jvm.Cond.code ({ cls := "com/example/bitweight/bitweight/chunk/ArrayChunkOrIntoPinLaw", name := "pre", desc := "(IIIIJJ)J" } : Jvm.MethodName) method_3_code (8 : Nat) (Option.some Jvm.ClassFile.FieldType.long)).before args0 about1 = true := code_word (m := ⟨1, 2⟩) (meth := k1m2) (c := k1c2) (by decide +kernel) rfl rfl rfl (by decide +kernel)
set_option maxRecDepth 65536 in
theorem w_c8 : (Jvm.Cond.code ({ cls := "com/example/bitweight/bitweight/chunk/ArrayChunkOrIntoPinLaw", name := "bit", desc := "(IZI)J" } : Jvm.MethodName) method_2_code (3 : Nat) (Option.some Jvm.ClassFile.FieldType.long)).before args0 about1 = true := code_word (m := ⟨1, 1⟩) (meth := k1m1) (c := k1c1) (by decide +kernel) rfl rfl rfl (by decide +kernel)
set_option maxRecDepth 65536 in
theorem w_c9 : (Jvm.Cond.code ({ cls := "com/example/bitweight/bitweight/chunk/ArrayChunk", name := "add", desc := "(C)Lcom/example/bitweight/bitweight/chunk/Chunk;" } : Jvm.MethodName) prog_22_method_10_code (4 : Nat) (Option.some (Jvm.ClassFile.FieldType.object "com/example/bitweight/bitweight/chunk/Chunk"))).before args0 about1 = true := code_word (m := ⟨4, 2⟩) (meth := k4m2) (c := k4c2) (by decide +kernel) rfl rfl rfl (by decide +kernel)
set_option maxRecDepth 65536 in
theorem w_c10 : (Jvm.Cond.code ({ cls := "com/example/bitweight/bitweight/chunk/ArrayChunk", name := "addLast", desc := "(CI)Lcom/example/bitweight/bitweight/chunk/Chunk;" } : Jvm.MethodName) prog_22_method_12_code (3 : Nat) (Option.some (Jvm.ClassFile.FieldType.object "com/example/bitweight/bitweight/chunk/Chunk"))).before args0 about1 = true := code_word (m := ⟨4, 3⟩) (meth := k4m3) (c := k4c3) (by decide +kernel) rfl rfl rfl (by decide +kernel)
set_option maxRecDepth 65536 in
theorem w_c11 : (Jvm.Cond.code ({ cls := "com/example/bitweight/bitweight/chunk/Room", name := "grown", desc := "(II)I" } : Jvm.MethodName) prog_30_method_2_code (3 : Nat) (Option.some Jvm.ClassFile.FieldType.int)).before args0 about1 = true := code_word (m := ⟨5, 0⟩) (meth := k5m0) (c := k5c0) (by decide +kernel) rfl rfl rfl (by decide +kernel)
set_option maxRecDepth 65536 in
theorem w_c12 : (Jvm.Cond.code ({ cls := "com/example/bitweight/bitweight/chunk/Room", name := "stepped", desc := "(I)I" } : Jvm.MethodName) prog_30_method_4_code (2 : Nat) (Option.some Jvm.ClassFile.FieldType.int)).before args0 about1 = true := code_word (m := ⟨5, 2⟩) (meth := k5m2) (c := k5c2) (by decide +kernel) rfl rfl rfl (by decide +kernel)
set_option maxRecDepth 65536 in
theorem w_c13 : (Jvm.Cond.code ({ cls := "java/lang/Math", name := "max", desc := "(II)I" } : Jvm.MethodName) jdk_29_method_65_code (2 : Nat) (Option.some Jvm.ClassFile.FieldType.int)).before args0 about1 = true := code_word (m := ⟨6, 1⟩) (meth := k6m1) (c := k6c1) (by decide +kernel) rfl rfl rfl (by decide +kernel)
set_option maxRecDepth 65536 in
theorem w_c14 : (Jvm.Cond.code ({ cls := "java/lang/Math", name := "min", desc := "(II)I" } : Jvm.MethodName) jdk_29_method_69_code (2 : Nat) (Option.some Jvm.ClassFile.FieldType.int)).before args0 about1 = true := code_word (m := ⟨6, 2⟩) (meth := k6m2) (c := k6c2) (by decide +kernel) rfl rfl rfl (by decide +kernel)
set_option maxRecDepth 65536 in
theorem w_c15 : (Jvm.Cond.code ({ cls := "java/util/Arrays", name := "copyOf", desc := "([CI)[C" } : Jvm.MethodName) jdk_65_method_125_code (3 : Nat) (Option.some (Jvm.ClassFile.FieldType.array Jvm.ClassFile.FieldType.char))).before args0 about1 = true := code_word (m := ⟨7, 4⟩) (meth := k7m4) (c := k7c4) (by decide +kernel) rfl rfl rfl (by decide +kernel)
set_option maxRecDepth 65536 in
theorem w_c16 : (Jvm.Cond.code ({ cls := "java/util/Arrays", name := "binarySearch", desc := "([CIIC)I" } : Jvm.MethodName) jdk_65_method_64_code (4 : Nat) (Option.some Jvm.ClassFile.FieldType.int)).before args0 about1 = true := code_word (m := ⟨7, 2⟩) (meth := k7m2) (c := k7c2) (by decide +kernel) rfl rfl rfl (by decide +kernel)
set_option maxRecDepth 65536 in
theorem w_c17 : (Jvm.Cond.code ({ cls := "java/util/Arrays", name := "rangeCheck", desc := "(III)V" } : Jvm.MethodName) jdk_65_method_30_code (3 : Nat) (Option.none : Option Jvm.ClassFile.FieldType)).before args0 about1 = true := code_word (m := ⟨7, 1⟩) (meth := k7m1) (c := k7c1) (by decide +kernel) rfl rfl rfl (by decide +kernel)
set_option maxRecDepth 65536 in
theorem w_c18 : (Jvm.Cond.code ({ cls := "java/util/Arrays", name := "binarySearch0", desc := "([CIIC)I" } : Jvm.MethodName) jdk_65_method_65_code (8 : Nat) (Option.some Jvm.ClassFile.FieldType.int)).before args0 about1 = true := code_word (m := ⟨7, 3⟩) (meth := k7m3) (c := k7c3) (by decide +kernel) rfl rfl rfl (by decide +kernel)
set_option maxRecDepth 65536 in
theorem w_c19 : (Jvm.Cond.code ({ cls := "com/example/bitweight/bitweight/chunk/ArrayChunk", name := "replace", desc := "(IIII[C)V" } : Jvm.MethodName) prog_22_method_15_code (13 : Nat) (Option.none : Option Jvm.ClassFile.FieldType)).before args0 about1 = true := code_word (m := ⟨4, 4⟩) (meth := k4m4) (c := k4c4) (by decide +kernel) rfl rfl rfl (by decide +kernel)
set_option maxRecDepth 65536 in
theorem w_c20 : (Jvm.Cond.code ({ cls := "com/example/bitweight/bitweight/chunk/ArrayChunk", name := "runStarts", desc := "(II)I" } : Jvm.MethodName) prog_22_method_16_code (5 : Nat) (Option.some Jvm.ClassFile.FieldType.int)).before args0 about1 = true := code_word (m := ⟨4, 5⟩) (meth := k4m5) (c := k4c5) (by decide +kernel) rfl rfl rfl (by decide +kernel)
set_option maxRecDepth 65536 in
theorem w_c21 : (Jvm.Cond.code ({ cls := "com/example/bitweight/bitweight/chunk/Room", name := "resized", desc := "(II)I" } : Jvm.MethodName) prog_30_method_3_code (3 : Nat) (Option.some Jvm.ClassFile.FieldType.int)).before args0 about1 = true := code_word (m := ⟨5, 1⟩) (meth := k5m1) (c := k5c1) (by decide +kernel) rfl rfl rfl (by decide +kernel)
def codes1 : List Jvm.Cond := [Jvm.Cond.code x code maxLocals ret, Jvm.Cond.code ({ cls := "com/example/bitweight/bitweight/chunk/ArrayChunk", name := "<init>", desc := "()V" } : Jvm.MethodName) prog_22_method_1_code (1 : Nat) (Option.none : Option Jvm.ClassFile.FieldType), Jvm.Cond.code ({ cls := "com/example/bitweight/bitweight/chunk/ArrayChunk", name := "<init>", desc := "([CII)V" } : Jvm.MethodName) prog_22_method_2_code (4 : Nat) (Option.none : Option Jvm.ClassFile.FieldType), Jvm.Cond.code ({ cls := "com/example/bitweight/bitweight/chunk/Chunk", name := "<init>", desc := "()V" } : Jvm.MethodName) prog_24_method_3_code (1 : Nat) (Option.none : Option Jvm.ClassFile.FieldType), Jvm.Cond.code ({ cls := "java/lang/Object", name := "<init>", desc := "()V" } : Jvm.MethodName) object_method_1_code (1 : Nat) (Option.none : Option Jvm.ClassFile.FieldType), Jvm.Cond.code ({ cls := "com/example/bitweight/bitweight/chunk/ArrayChunk", name := "orInto", desc := "([J)V" } : Jvm.MethodName) prog_22_method_37_code (3 : Nat) (Option.none : Option Jvm.ClassFile.FieldType), Jvm.Cond.code ({ cls := "com/example/bitweight/bitweight/chunk/ArrayChunkOrIntoPinLaw", name := "expected", desc := "(IIIIIIIIJJ)J" } : Jvm.MethodName) method_4_code (12 : Nat) (Option.some Jvm.ClassFile.FieldType.long), Jvm.Cond.code ({ cls := "com/example/bitweight/bitweight/chunk/ArrayChunkOrIntoPinLaw", name := "pre", desc := "(IIIIJJ)J" } : Jvm.MethodName) method_3_code (8 : Nat) (Option.some Jvm.ClassFile.FieldType.long), Jvm.Cond.code ({ cls := "com/example/bitweight/bitweight/chunk/ArrayChunkOrIntoPinLaw", name := "bit", desc := "(IZI)J" } : Jvm.MethodName) method_2_code (3 : Nat) (Option.some Jvm.ClassFile.FieldType.long), Jvm.Cond.code ({ cls := "com/example/bitweight/bitweight/chunk/ArrayChunk", name := "add", desc := "(C)Lcom/example/bitweight/bitweight/chunk/Chunk;" } : Jvm.MethodName) prog_22_method_10_code (4 : Nat) (Option.some (Jvm.ClassFile.FieldType.object "com/example/bitweight/bitweight/chunk/Chunk")), Jvm.Cond.code ({ cls := "com/example/bitweight/bitweight/chunk/ArrayChunk", name := "addLast", desc := "(CI)Lcom/example/bitweight/bitweight/chunk/Chunk;" } : Jvm.MethodName) prog_22_method_12_code (3 : Nat) (Option.some (Jvm.ClassFile.FieldType.object "com/example/bitweight/bitweight/chunk/Chunk")), Jvm.Cond.code ({ cls := "com/example/bitweight/bitweight/chunk/Room", name := "grown", desc := "(II)I" } : Jvm.MethodName) prog_30_method_2_code (3 : Nat) (Option.some Jvm.ClassFile.FieldType.int), Jvm.Cond.code ({ cls := "com/example/bitweight/bitweight/chunk/Room", name := "stepped", desc := "(I)I" } : Jvm.MethodName) prog_30_method_4_code (2 : Nat) (Option.some Jvm.ClassFile.FieldType.int), Jvm.Cond.code ({ cls := "java/lang/Math", name := "max", desc := "(II)I" } : Jvm.MethodName) jdk_29_method_65_code (2 : Nat) (Option.some Jvm.ClassFile.FieldType.int), Jvm.Cond.code ({ cls := "java/lang/Math", name := "min", desc := "(II)I" } : Jvm.MethodName) jdk_29_method_69_code (2 : Nat) (Option.some Jvm.ClassFile.FieldType.int), Jvm.Cond.code ({ cls := "java/util/Arrays", name := "copyOf", desc := "([CI)[C" } : Jvm.MethodName) jdk_65_method_125_code (3 : Nat) (Option.some (Jvm.ClassFile.FieldType.array Jvm.ClassFile.FieldType.char)), Jvm.Cond.code ({ cls := "java/util/Arrays", name := "binarySearch", desc := "([CIIC)I" } : Jvm.MethodName) jdk_65_method_64_code (4 : Nat) (Option.some Jvm.ClassFile.FieldType.int), Jvm.Cond.code ({ cls := "java/util/Arrays", name := "rangeCheck", desc := "(III)V" } : Jvm.MethodName) jdk_65_method_30_code (3 : Nat) (Option.none : Option Jvm.ClassFile.FieldType), Jvm.Cond.code ({ cls := "java/util/Arrays", name := "binarySearch0", desc := "([CIIC)I" } : Jvm.MethodName) jdk_65_method_65_code (8 : Nat) (Option.some Jvm.ClassFile.FieldType.int), Jvm.Cond.code ({ cls := "com/example/bitweight/bitweight/chunk/ArrayChunk", name := "replace", desc := "(IIII[C)V" } : Jvm.MethodName) prog_22_method_15_code (13 : Nat) (Option.none : Option Jvm.ClassFile.FieldType), Jvm.Cond.code ({ cls := "com/example/bitweight/bitweight/chunk/ArrayChunk", name := "runStarts", desc := "(II)I" } : Jvm.MethodName) prog_22_method_16_code (5 : Nat) (Option.some Jvm.ClassFile.FieldType.int), Jvm.Cond.code ({ cls := "com/example/bitweight/bitweight/chunk/Room", name := "resized", desc := "(II)I" } : Jvm.MethodName) prog_30_method_3_code (3 : Nat) (Option.some Jvm.ClassFile.FieldType.int)]
set_option maxRecDepth 65536 in
theorem codes_eq : words1.filter isCode = codes1 := rfl
theorem w_codes : ∀ c ∈ words1.filter isCode, c.before args0 about1 = true := by
  rw [codes_eq]
  intro c hc
  simp only [codes1, List.mem_cons, List.not_mem_nil, or_false] at hc
  rcases hc with rfl | rfl | rfl | rfl | rfl | rfl | rfl | rfl | rfl | rfl | rfl | rfl | rfl | rfl | rfl | rfl | rfl | rfl | rfl | rfl | rfl | rfl
  · exact w_c0
  · exact w_c1
  · exact w_c2
  · exact w_c3
  · exact w_c4
  · exact w_c5
  · exact w_c6
  · exact w_c7
  · exact w_c8
  · exact w_c9
  · exact w_c10
  · exact w_c11
  · exact w_c12
  · exact w_c13
  · exact w_c14
  · exact w_c15
  · exact w_c16
  · exact w_c17
  · exact w_c18
  · exact w_c19
  · exact w_c20
  · exact w_c21
set_option maxRecDepth 65536 in
theorem w_t1 : (words1.take 24).all (fun c => isCode c || c.before args0 about1) = true := by decide +kernel
set_option maxRecDepth 65536 in
theorem w_t2 : ((words1.drop 24).take 24).all (fun c => isCode c || c.before args0 about1) = true := by decide +kernel
set_option maxRecDepth 65536 in
theorem w_t3 : (((words1.drop 24).drop 24).take 24).all (fun c => isCode c || c.before args0 about1) = true := by decide +kernel
set_option maxRecDepth 65536 in
theorem w_t4 : ((((words1.drop 24).drop 24).drop 24).take 24).all (fun c => isCode c || c.before args0 about1) = true := by decide +kernel
set_option maxRecDepth 65536 in
theorem w_t5 : ((((words1.drop 24).drop 24).drop 24).drop 24).all (fun c => isCode c || c.before args0 about1) = true := by decide +kernel
theorem w_tables : (allAtoms (Jvm.Cond.code x code maxLocals ret :: tables_1)).before args0 about1 = true := by
  rw [allAtoms_all]
  show words1.all (fun c => c.before args0 about1) = true
  refine all_split ?_ w_codes
  rw [← List.take_append_drop 24 words1, List.all_append, w_t1, ← List.take_append_drop 24 (words1.drop 24), List.all_append, w_t2, ← List.take_append_drop 24 ((words1.drop 24).drop 24), List.all_append, w_t3, ← List.take_append_drop 24 (((words1.drop 24).drop 24).drop 24), List.all_append, w_t4, w_t5]
  rfl
set_option maxRecDepth 65536 in
theorem w_case : (Jvm.Cond.and given_1 narrow_1).before args0 about1 = true := by decide +kernel
theorem w_applies : (headSpec (Jvm.Cond.code x code maxLocals ret :: tables_1) room_1).applies x e0.platform about1 = true :=
  (Spec.applies_iff w_frames).mpr ⟨w_running, w_runnable, w_alone, w_named, w_hears, w_ripe, w_room, w_tables⟩
theorem atStart : AtStart classFile x code maxLocals ret World_1 tables_1 room_1 Calls_1 rest_1 Pre_1 launch0 p0 e0 about1 theMethod args0 below0 :=
  ⟨lists_1, trivial, launch0.admits_env _ _ _, launch0.least_env, fairChoices_fair.cas, fairChoices_fair.clock, w_frames, w_args, w_heap, w_applies, trivial, trivial, w_case⟩
end start1
theorem witness_1 : WitnessClaimed_1 := ⟨start1.p0, start1.e0, start1.about1, start1.theMethod, start1.args0, start1.below0, start1.atStart⟩
end Jvm.Pilot.@@N@@
