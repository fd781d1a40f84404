import JvmDerived
import JvmDerived.Pilot.@@N@@Statement
import JvmDerived.Pilot.@@N@@Code
set_option linter.unusedVariables false
set_option linter.unusedSimpArgs false
namespace Jvm.Pilot.@@N@@
open Jvm Jvm.ClassFile Sem Op Lib Jvm.Free Jvm.Stand Jvm.LawKit Jvm.RoadKit Bundle Jvm.Pilot.@@N@@.Jvm.D
section Own
variable {p : Program} {l : Launch} {e : Env} {R : Room} {s : State} {m : MethodId} {args : Array Value} {below : List Frame} {meth : Method} {c : Code} {T : State} {locs : List Loc} {cells slots : Nat} {Z : State} {h h' : Heap} {a b : Addr} {n k : Nat}
/-- a function with one place turned -/
def owUp {α : Type} (f : Nat → α) (k : Nat) (v : α) : Nat → α := fun i => if i = k then v else f i
theorem owUp_at {α : Type} {f : Nat → α} {k : Nat} {v : α} : owUp f k v k = v := if_pos rfl
theorem owUp_ne {α : Type} {f : Nat → α} {k i : Nat} {v : α} (q : i ≠ k) : owUp f k v i = f i := if_neg q
theorem owUpP {α : Type} {P : α → Prop} {f : Nat → α} {k : Nat} {v : α} (hf : ∀ i, P (f i)) (hv : P v) : ∀ i, P (owUp f k v i) := fun i => by
  by_cases q : i = k
  · rw [q, owUp_at]; exact hv
  · rw [owUp_ne q]; exact hf i
theorem owIdx {j : Int32} {k : Nat} (hj : j.toInt = (k : Int)) : j.toNatClampNeg = k := by
  have q : j.toNatClampNeg = j.toInt.toNat := rfl
  rw [q, hj]; rfl
theorem owIn {j : Int32} {k n sz : Nat} (hj : j.toInt = (k : Int)) (hk : k < n) (hs : sz = n) : ¬ (j < 0 ∨ sz ≤ j.toNatClampNeg) := by
  rw [owIdx hj, Int32.lt_iff_toInt_lt, hj, hs]
  have q : (0 : Int32).toInt = 0 := rfl
  omega
theorem owSlot {cl : Cell} {k i : Nat} {v : Value} (hk : k < cl.slots.size) : (cl.setSlot k v).slots[i]? = if i = k then some v else cl.slots[i]? := by
  by_cases q : i = k
  · subst q; rw [if_pos rfl]; simp [Cell.setSlot, hk]
  · rw [if_neg q]; exact Array.getElem?_setIfInBounds_ne (Ne.symm q)
/-- an array of ints (bytes, chars ..) whose components a function tells -/
def owAI (Z : State) (h : Heap) (a : Addr) (ty : FieldType) (n : Nat) (f : Nat → Int32) : Prop := ∃ c : Cell, Arr Z h a c ty ∧ c.slots.size = n ∧ ∀ i, i < n → c.slots[i]? = some (.int (f i))
/-- an array of longs -/
def owAJ (Z : State) (h : Heap) (a : Addr) (ty : FieldType) (n : Nat) (f : Nat → Int64) : Prop := ∃ c : Cell, Arr Z h a c ty ∧ c.slots.size = n ∧ ∀ i, i < n → c.slots[i]? = some (.long (f i))
theorem owAI.lt {ty : FieldType} {f : Nat → Int32} (F : owAI Z h a ty n f) : a < h.size := by obtain ⟨c, A, -⟩ := F; exact A.lt
theorem owAI.ext {ty : FieldType} {f : Nat → Int32} (F : owAI Z h a ty n f) (E : Ext h h') : owAI Z h' a ty n f := by obtain ⟨c, A, r⟩ := F; exact ⟨c, A.ext E, r⟩
theorem owAI.other {ty : FieldType} {f : Nat → Int32} {sl : Nat} {v : Value} (F : owAI Z h b ty n f) (W : Wr h h' a sl v) (q : b ≠ a) : owAI Z h' b ty n f := by obtain ⟨c, A, r⟩ := F; exact ⟨c, A.other W q, r⟩
theorem owAI.keep {ty : FieldType} {f : Nat → Int32} {ws : List Addr} (F : owAI Z h a ty n f) (K : Keep h h' ws) (q : a ∉ ws) : owAI Z h' a ty n f := by obtain ⟨c, A, r⟩ := F; exact ⟨c, ⟨K.2.1 a c A.1 q, A.2⟩, r⟩
theorem owAJ.lt {ty : FieldType} {f : Nat → Int64} (F : owAJ Z h a ty n f) : a < h.size := by obtain ⟨c, A, -⟩ := F; exact A.lt
theorem owAJ.ext {ty : FieldType} {f : Nat → Int64} (F : owAJ Z h a ty n f) (E : Ext h h') : owAJ Z h' a ty n f := by obtain ⟨c, A, r⟩ := F; exact ⟨c, A.ext E, r⟩
theorem owAJ.other {ty : FieldType} {f : Nat → Int64} {sl : Nat} {v : Value} (F : owAJ Z h b ty n f) (W : Wr h h' a sl v) (q : b ≠ a) : owAJ Z h' b ty n f := by obtain ⟨c, A, r⟩ := F; exact ⟨c, A.other W q, r⟩
theorem owAJ.keep {ty : FieldType} {f : Nat → Int64} {ws : List Addr} (F : owAJ Z h a ty n f) (K : Keep h h' ws) (q : a ∉ ws) : owAJ Z h' a ty n f := by obtain ⟨c, A, r⟩ := F; exact ⟨c, ⟨K.2.1 a c A.1 q, A.2⟩, r⟩
theorem owAI.new {ty : FieldType} {k : ClassId} {z : Int32} (A : Arr Z h a (newA k ty z) ty) (hz : z.toInt = (n : Int)) (hd : defaultValue ty = .int 0) : owAI Z h a ty n (fun _ => 0) :=
  ⟨_, A, by rw [sz_new]; exact owIdx hz, fun i hi => by rw [← hd]; simp [newA, owIdx hz, hi]⟩
theorem owAJ.new {ty : FieldType} {k : ClassId} {z : Int32} (A : Arr Z h a (newA k ty z) ty) (hz : z.toInt = (n : Int)) (hd : defaultValue ty = .long 0) : owAJ Z h a ty n (fun _ => 0) :=
  ⟨_, A, by rw [sz_new]; exact owIdx hz, fun i hi => by rw [← hd]; simp [newA, owIdx hz, hi]⟩
theorem owAI.to {ty : FieldType} {f g : Nat → Int32} (F : owAI Z h a ty n f) (q : ∀ i, i < n → f i = g i) : owAI Z h a ty n g := by
  obtain ⟨c, A, S, H⟩ := F; exact ⟨c, A, S, fun i hi => by rw [H i hi, q i hi]⟩
theorem owAJ.to {ty : FieldType} {f g : Nat → Int64} (F : owAJ Z h a ty n f) (q : ∀ i, i < n → f i = g i) : owAJ Z h a ty n g := by
  obtain ⟨c, A, S, H⟩ := F; exact ⟨c, A, S, fun i hi => by rw [H i hi, q i hi]⟩
theorem owLdB (X : Stand p l e R s m args below meth c T locs cells slots) (hx : p.tables.exec = Jvm.exec) (hZ : Z.Warmed39 s.vm) (eT : T.heap = h) {f : Nat → Int32} (A : owAI Z h a .byte n f) {j : Int32} (hj : j.toInt = (k : Int)) (hk : k < n) {g : JFrame} (hg : g.method = m) {rest : List Value} (hs : g.stack = .int j :: .ref a :: rest) (hd : decode c.code g.pc = .ok (.baload, 1)) (target : State) (kt : Steps p.tables e below (T.setTop { g with pc := g.pc + 1, stack := .int (f k) :: rest }) target) : Steps p.tables e below (T.setTop g) target := by
  obtain ⟨cl, Ar, S, H⟩ := A
  exact X.baloadBytes hx (by rw [eT]; exact Ar.1) (State.isArrayOf_alike hZ.alike Ar.2.1) Ar.2.2 (owIn hj hk S) (by rw [owIdx hj]; exact H k hk) hg hs hd target kt
theorem owLdC (X : Stand p l e R s m args below meth c T locs cells slots) (hx : p.tables.exec = Jvm.exec) (hZ : Z.Warmed39 s.vm) (eT : T.heap = h) {f : Nat → Int32} (A : owAI Z h a .char n f) {j : Int32} (hj : j.toInt = (k : Int)) (hk : k < n) {g : JFrame} (hg : g.method = m) {rest : List Value} (hs : g.stack = .int j :: .ref a :: rest) (hd : decode c.code g.pc = .ok (.caload, 1)) (target : State) (kt : Steps p.tables e below (T.setTop { g with pc := g.pc + 1, stack := .int (f k) :: rest }) target) : Steps p.tables e below (T.setTop g) target := by
  obtain ⟨cl, Ar, S, H⟩ := A
  exact X.caload hx (by rw [eT]; exact Ar.1) (State.isArrayOf_alike hZ.alike Ar.2.1) Ar.2.2 (owIn hj hk S) (by rw [owIdx hj]; exact H k hk) hg hs hd target kt
theorem owLdI (X : Stand p l e R s m args below meth c T locs cells slots) (hx : p.tables.exec = Jvm.exec) (hZ : Z.Warmed39 s.vm) (eT : T.heap = h) {f : Nat → Int32} (A : owAI Z h a .int n f) {j : Int32} (hj : j.toInt = (k : Int)) (hk : k < n) {g : JFrame} (hg : g.method = m) {rest : List Value} (hs : g.stack = .int j :: .ref a :: rest) (hd : decode c.code g.pc = .ok (.iaload, 1)) (target : State) (kt : Steps p.tables e below (T.setTop { g with pc := g.pc + 1, stack := .int (f k) :: rest }) target) : Steps p.tables e below (T.setTop g) target := by
  obtain ⟨cl, Ar, S, H⟩ := A
  exact X.iaload hx (by rw [eT]; exact Ar.1) (State.isArrayOf_alike hZ.alike Ar.2.1) Ar.2.2 (owIn hj hk S) (by rw [owIdx hj]; exact H k hk) hg hs hd target kt
theorem owLdJ (X : Stand p l e R s m args below meth c T locs cells slots) (hx : p.tables.exec = Jvm.exec) (hZ : Z.Warmed39 s.vm) (eT : T.heap = h) {f : Nat → Int64} (A : owAJ Z h a .long n f) {j : Int32} (hj : j.toInt = (k : Int)) (hk : k < n) {g : JFrame} (hg : g.method = m) {rest : List Value} (hs : g.stack = .int j :: .ref a :: rest) (hd : decode c.code g.pc = .ok (.laload, 1)) (target : State) (kt : Steps p.tables e below (T.setTop { g with pc := g.pc + 1, stack := .long (f k) :: rest }) target) : Steps p.tables e below (T.setTop g) target := by
  obtain ⟨cl, Ar, S, H⟩ := A
  exact X.laload hx (by rw [eT]; exact Ar.1) (State.isArrayOf_alike hZ.alike Ar.2.1) Ar.2.2 (owIn hj hk S) (by rw [owIdx hj]; exact H k hk) hg hs hd target kt
/-- an array of objects -/
def owAR (Z : State) (h : Heap) (a : Addr) (ty : FieldType) (n : Nat) (f : Nat → Addr) : Prop := ∃ c : Cell, Arr Z h a c ty ∧ c.slots.size = n ∧ ∀ i, i < n → c.slots[i]? = some (.ref (f i))
theorem owAR.lt {ty : FieldType} {f : Nat → Addr} (F : owAR Z h a ty n f) : a < h.size := by obtain ⟨c, A, -⟩ := F; exact A.lt
theorem owAR.ext {ty : FieldType} {f : Nat → Addr} (F : owAR Z h a ty n f) (E : Ext h h') : owAR Z h' a ty n f := by obtain ⟨c, A, r⟩ := F; exact ⟨c, A.ext E, r⟩
theorem owAR.other {ty : FieldType} {f : Nat → Addr} {sl : Nat} {v : Value} (F : owAR Z h b ty n f) (W : Wr h h' a sl v) (q : b ≠ a) : owAR Z h' b ty n f := by obtain ⟨c, A, r⟩ := F; exact ⟨c, A.other W q, r⟩
theorem owAR.keep {ty : FieldType} {f : Nat → Addr} {ws : List Addr} (F : owAR Z h a ty n f) (K : Keep h h' ws) (q : a ∉ ws) : owAR Z h' a ty n f := by obtain ⟨c, A, r⟩ := F; exact ⟨c, ⟨K.2.1 a c A.1 q, A.2⟩, r⟩
theorem owLdR (X : Stand p l e R s m args below meth c T locs cells slots) (hx : p.tables.exec = Jvm.exec) (hZ : Z.Warmed39 s.vm) (eT : T.heap = h) {ty : FieldType} {f : Nat → Addr} (A : owAR Z h a ty n f) (hty : ty.isReference = true) {j : Int32} (hj : j.toInt = (k : Int)) (hk : k < n) {g : JFrame} (hg : g.method = m) {rest : List Value} (hs : g.stack = .int j :: .ref a :: rest) (hd : decode c.code g.pc = .ok (.aaload, 1)) (target : State) (kt : Steps p.tables e below (T.setTop { g with pc := g.pc + 1, stack := .ref (f k) :: rest }) target) : Steps p.tables e below (T.setTop g) target := by
  obtain ⟨cl, Ar, S, H⟩ := A
  exact X.aaload hx (by rw [eT]; exact Ar.1) (State.isArrayOf_alike hZ.alike Ar.2.1) hty Ar.2.2 (owIn hj hk S) (by rw [owIdx hj]; exact H k hk) hg hs hd target kt
theorem owLenI (X : Stand p l e R s m args below meth c T locs cells slots) (hx : p.tables.exec = Jvm.exec) (hZ : Z.Warmed39 s.vm) (eT : T.heap = h) {ty : FieldType} {f : Nat → Int32} (A : owAI Z h a ty n f) {z : Int32} (hz : n.toInt32 = z) {g : JFrame} (hg : g.method = m) {rest : List Value} (hs : g.stack = .ref a :: rest) (hd : decode c.code g.pc = .ok (.arraylength, 1)) (target : State) (kt : Steps p.tables e below (T.setTop { g with pc := g.pc + 1, stack := .int z :: rest }) target) : Steps p.tables e below (T.setTop g) target := by
  obtain ⟨cl, Ar, S, H⟩ := A
  exact X.arraylength hx (by rw [eT]; exact Ar.1) (State.isArrayOf_alike hZ.alike Ar.2.1) hg hs hd target (by rw [S, hz]; exact kt)
theorem owLenJ (X : Stand p l e R s m args below meth c T locs cells slots) (hx : p.tables.exec = Jvm.exec) (hZ : Z.Warmed39 s.vm) (eT : T.heap = h) {ty : FieldType} {f : Nat → Int64} (A : owAJ Z h a ty n f) {z : Int32} (hz : n.toInt32 = z) {g : JFrame} (hg : g.method = m) {rest : List Value} (hs : g.stack = .ref a :: rest) (hd : decode c.code g.pc = .ok (.arraylength, 1)) (target : State) (kt : Steps p.tables e below (T.setTop { g with pc := g.pc + 1, stack := .int z :: rest }) target) : Steps p.tables e below (T.setTop g) target := by
  obtain ⟨cl, Ar, S, H⟩ := A
  exact X.arraylength hx (by rw [eT]; exact Ar.1) (State.isArrayOf_alike hZ.alike Ar.2.1) hg hs hd target (by rw [S, hz]; exact kt)
theorem owSetI {ty : FieldType} {f : Nat → Int32} {cl : Cell} {x : Int32} (Ar : Arr Z h a cl ty) (S : cl.slots.size = n) (H : ∀ i, i < n → cl.slots[i]? = some (.int (f i))) (hk : k < n) (W : Wr h h' a k (.int x)) : owAI Z h' a ty n (owUp f k x) :=
  ⟨cl.setSlot k (.int x), Ar.same W, by rw [sz_set]; exact S, fun i hi => by
    rw [owSlot (by omega)]
    by_cases q : i = k
    · rw [if_pos q, q, owUp_at]
    · rw [if_neg q, owUp_ne q]; exact H i hi⟩
theorem owSetJ {ty : FieldType} {f : Nat → Int64} {cl : Cell} {x : Int64} (Ar : Arr Z h a cl ty) (S : cl.slots.size = n) (H : ∀ i, i < n → cl.slots[i]? = some (.long (f i))) (hk : k < n) (W : Wr h h' a k (.long x)) : owAJ Z h' a ty n (owUp f k x) :=
  ⟨cl.setSlot k (.long x), Ar.same W, by rw [sz_set]; exact S, fun i hi => by
    rw [owSlot (by omega)]
    by_cases q : i = k
    · rw [if_pos q, q, owUp_at]
    · rw [if_neg q, owUp_ne q]; exact H i hi⟩
theorem owStB (X : Stand p l e R s m args below meth c T locs cells slots) (hx : p.tables.exec = Jvm.exec) (hZ : Z.Warmed39 s.vm) (eT : T.heap = h) {f : Nat → Int32} (A : owAI Z h a .byte n f) {j x : Int32} (hj : j.toInt = (k : Int)) (hk : k < n) {g : JFrame} (hg : g.method = m) {rest : List Value} (hs : g.stack = .int x :: .int j :: .ref a :: rest) (hd : decode c.code g.pc = .ok (.bastore, 1)) :
    ∃ T' h', Stand p l e R s m args below meth c T' (locs ++ [⟨a, k⟩]) cells slots ∧ T'.heap = h' ∧ Wr h h' a k (.int x.toInt8.toInt32) ∧ owAI Z h' a .byte n (owUp f k x.toInt8.toInt32) ∧ ∀ target, Steps p.tables e below (T'.setTop { g with pc := g.pc + 1, stack := rest }) target → Steps p.tables e below (T.setTop g) target := by
  obtain ⟨cl, Ar, S, H⟩ := A
  have st := stB X hx hZ eT Ar (j := j) (owIn hj hk S) hg hs hd
  rw [owIdx hj] at st
  obtain ⟨T', h', X', e', W, st⟩ := st
  exact ⟨T', h', X', e', W, owSetI Ar S H hk W, st⟩
theorem owStC (X : Stand p l e R s m args below meth c T locs cells slots) (hx : p.tables.exec = Jvm.exec) (hZ : Z.Warmed39 s.vm) (eT : T.heap = h) {f : Nat → Int32} (A : owAI Z h a .char n f) {j x : Int32} (hj : j.toInt = (k : Int)) (hk : k < n) {g : JFrame} (hg : g.method = m) {rest : List Value} (hs : g.stack = .int x :: .int j :: .ref a :: rest) (hd : decode c.code g.pc = .ok (.castore, 1)) :
    ∃ T' h', Stand p l e R s m args below meth c T' (locs ++ [⟨a, k⟩]) cells slots ∧ T'.heap = h' ∧ Wr h h' a k (.int x.toUInt32.toUInt16.toUInt32.toInt32) ∧ owAI Z h' a .char n (owUp f k x.toUInt32.toUInt16.toUInt32.toInt32) ∧ ∀ target, Steps p.tables e below (T'.setTop { g with pc := g.pc + 1, stack := rest }) target → Steps p.tables e below (T.setTop g) target := by
  obtain ⟨cl, Ar, S, H⟩ := A
  have st := stC X hx hZ eT Ar (j := j) (owIn hj hk S) hg hs hd
  rw [owIdx hj] at st
  obtain ⟨T', h', X', e', W, st⟩ := st
  exact ⟨T', h', X', e', W, owSetI Ar S H hk W, st⟩
theorem owStI (X : Stand p l e R s m args below meth c T locs cells slots) (hx : p.tables.exec = Jvm.exec) (hZ : Z.Warmed39 s.vm) (eT : T.heap = h) {f : Nat → Int32} (A : owAI Z h a .int n f) {j x : Int32} (hj : j.toInt = (k : Int)) (hk : k < n) {g : JFrame} (hg : g.method = m) {rest : List Value} (hs : g.stack = .int x :: .int j :: .ref a :: rest) (hd : decode c.code g.pc = .ok (.iastore, 1)) :
    ∃ T' h', Stand p l e R s m args below meth c T' (locs ++ [⟨a, k⟩]) cells slots ∧ T'.heap = h' ∧ Wr h h' a k (.int x) ∧ owAI Z h' a .int n (owUp f k x) ∧ ∀ target, Steps p.tables e below (T'.setTop { g with pc := g.pc + 1, stack := rest }) target → Steps p.tables e below (T.setTop g) target := by
  obtain ⟨cl, Ar, S, H⟩ := A
  have st := stI X hx hZ eT Ar (j := j) (owIn hj hk S) hg hs hd
  rw [owIdx hj] at st
  obtain ⟨T', h', X', e', W, st⟩ := st
  exact ⟨T', h', X', e', W, owSetI Ar S H hk W, st⟩
theorem owStJ (X : Stand p l e R s m args below meth c T locs cells slots) (hx : p.tables.exec = Jvm.exec) (hZ : Z.Warmed39 s.vm) (eT : T.heap = h) {f : Nat → Int64} (A : owAJ Z h a .long n f) {j : Int32} {x : Int64} (hj : j.toInt = (k : Int)) (hk : k < n) {g : JFrame} (hg : g.method = m) {rest : List Value} (hs : g.stack = .long x :: .int j :: .ref a :: rest) (hd : decode c.code g.pc = .ok (.lastore, 1)) :
    ∃ T' h', Stand p l e R s m args below meth c T' (locs ++ [⟨a, k⟩]) cells slots ∧ T'.heap = h' ∧ Wr h h' a k (.long x) ∧ owAJ Z h' a .long n (owUp f k x) ∧ ∀ target, Steps p.tables e below (T'.setTop { g with pc := g.pc + 1, stack := rest }) target → Steps p.tables e below (T.setTop g) target := by
  obtain ⟨cl, Ar, S, H⟩ := A
  have st := stJ X hx hZ eT Ar (j := j) (owIn hj hk S) hg hs hd
  rw [owIdx hj] at st
  obtain ⟨T', h', X', e', W, st⟩ := st
  exact ⟨T', h', X', e', W, owSetJ Ar S H hk W, st⟩
theorem owSel {s : State} {args : Array Value} {y : MethodName} {n : Nat} (hi : (Cond.instantiable y.cls n).before args s = true) (hpriv : s.PrivateAt y) (hinst : (Cond.instanceMethod y).before args s = true) (hy : y.cls ≠ "java/lang/invoke/MethodHandle" ∧ y.cls ≠ "java/lang/invoke/VarHandle") : (Cond.selects y.cls y y).before args s = true := by
  obtain ⟨c, k, h1, h2, -, h4, -⟩ := Cond.instantiable_spec hi
  have h5 : k.isInterface = false := by cases hq : k.isInterface <;> simp_all
  exact selects_self_of_private h1 h2 h5 hpriv hinst hy
theorem owRetI (X : Stand p l e R s m args below meth c T locs cells slots) (hx : p.tables.exec = Jvm.exec) {pc : Nat} {Ls : Array Slot} {z : Int32} (hret : meth.sig.returnType = some .int) (hd : decode c.code pc = .ok (.ireturn, 1)) {fs : List Frame}
    (hl : ∀ (f : JFrame) (acts : List Action), f.method = m → f.locked = none → f.entered = [] → (doReturn e (T.setTop f) acts (some (.int z))).1 = T.setFrames fs) : Steps p.tables e below (T.setTop (mkF m pc Ls [.int z])) (T.setFrames fs) :=
  X.ireturnOut hx hret rfl (Or.inl rfl) hd hl
end Own
section OwnCopy
variable {p : Program} {l : Launch} {e : Env} {R : Room} {s : State} {m : MethodId} {args : Array Value} {below : List Frame} {meth : Method} {c : Code} {T : State} {locs : List Loc} {cells slots : Nat} {Z : State} {h h' : Heap} {a b : Addr} {n k : Nat}
theorem owArv {ty : FieldType} {f : Nat → Int32} {z : Int32} (A : owAI Z h a ty n f) (hz : z.toInt = (n : Int)) (hf : ∀ i, i < n → fits ty (.int (f i)) = true) : ∃ k, Arv Z h a k ty z ((List.range n).map fun i => Value.int (f i)) (.int 0) := by
  obtain ⟨c, Ar, S, H⟩ := A
  have g : ∀ i, i < n → ((List.range n).map fun i => Value.int (f i)).getD i (.int 0) = .int (f i) := fun i hi => by simp [List.getD, hi]
  refine ⟨c.cls, c, Ar, rfl, by rw [owIdx hz]; exact S, ?_, fun i hi => ?_, fun i hi => ?_⟩
  · rw [Int32.lt_iff_toInt_lt, hz]
    have q : (0 : Int32).toInt = 0 := rfl
    omega
  · rw [S] at hi; rw [H i hi, g i hi]
  · rw [S] at hi; rw [g i hi]; exact hf i hi
theorem owAI.of_arv {ty : FieldType} {z : Int32} {vs : List Value} {d : Value} {k : ClassId} {g : Nat → Int32} (F : Arv Z h a k ty z vs d) (hz : z.toInt = (n : Int)) (hv : ∀ i, i < n → vs.getD i d = .int (g i)) : owAI Z h a ty n g := by
  obtain ⟨c, A, q, S, N, H, G⟩ := F
  exact ⟨c, A, by rw [S]; exact owIdx hz, fun i hi => by rw [H i (by rw [S, owIdx hz]; exact hi), hv i hi]⟩
theorem owCp (X : Stand p l e R s m args below meth c T locs cells slots) (hx : p.tables.exec = Jvm.exec) (hZ : Z.Warmed39 s.vm) {a0 : Array Value} {own : String} {index : Nat} (hown : s.vm.findClass own = some m.cls)
    (w1 : (Cond.methodLink own index Jvm.Stand.acN).before a0 Z = true) (w2 : (Cond.native Jvm.Stand.acN).before a0 Z = true) (w3 : (Cond.static Jvm.Stand.acN).before a0 Z = true) (w4 : (Cond.initialized "java/lang/System").before a0 Z = true) (eT : T.heap = h)
    {ty : FieldType} (hty : refKind ty = false) {na nb : Nat} {fa fb : Nat → Int32} (A : owAI Z h a ty na fa) (B : owAI Z h b ty nb fb) (ga : ∀ i, i < na → fits ty (.int (fa i)) = true) (gb : ∀ i, i < nb → fits ty (.int (fb i)) = true)
    {sp dp nn : Int32} {ks kd kn : Nat} (h1 : sp.toInt = (ks : Int)) (h2 : dp.toInt = (kd : Int)) (h3 : nn.toInt = (kn : Int)) (h4 : ks + kn ≤ na) (h5 : kd + kn ≤ nb) (hna : na < 2147483648) (hnb : nb < 2147483648) {n0 : Nat} (N : Fr n0 locs) (ge : n0 ≤ b)
    {g : JFrame} (hg : g.method = m) (hsize : g.locals.size = c.maxLocals) {rest : List Value} (hs : g.stack = .int nn :: .int dp :: .ref b :: .int sp :: .ref a :: rest) (hd : decode c.code g.pc = .ok (.invokestatic index, 3))
    (hf : 1 ≤ R.frames) {W : Nat} (hW : 2 * g.monitorRoom + (rest.map fun v => v.category).sum ≤ W) (hlo : W + (nativeFrameWords "java/lang/System" "arraycopy" 5 + 11) ≤ R.locals) :
    ∃ T' h' L, Stand p l e R s m args below meth c T' L cells slots ∧ T'.heap = h' ∧ Fr n0 L ∧ Keep h h' [b] ∧ owAI Z h' b ty nb (fun i => if kd ≤ i ∧ i < kd + kn then fa (ks + (i - kd)) else fb i) ∧
      ∀ target, Steps p.tables e below (T'.setTop { g with pc := g.pc + 3, stack := rest }) target → Steps p.tables e below (T.setTop g) target := by
  have za : (Int32.ofNat na).toInt = (na : Int) := Int32.toInt_ofNat_of_lt (by omega)
  have zb : (Int32.ofNat nb).toInt = (nb : Int) := Int32.toInt_ofNat_of_lt (by omega)
  obtain ⟨ka, VA⟩ := owArv A za ga
  obtain ⟨kb, VB⟩ := owArv B zb gb
  have neg : ∀ {x : Int32} {j : Nat}, x.toInt = (j : Int) → ¬ x < 0 := fun {x j} hq => by
    rw [Int32.lt_iff_toInt_lt, hq]
    have q : (0 : Int32).toInt = 0 := rfl
    omega
  obtain ⟨T', h', L, X', e', N', K', V', st⟩ := cpA X hx hZ hown w1 w2 w3 w4 eT (us := (List.range nn.toNatClampNeg).map fun i => ((List.range na).map fun i => Value.int (fa i)).getD (sp.toNatClampNeg + i) (.int 0)) VA VB (Or.inl ⟨rfl, hty⟩) (neg h1) (neg h2) (neg h3) (by rw [owIdx h1, owIdx h3, owIdx za]; exact h4) (by rw [owIdx h2, owIdx h3, owIdx zb]; exact h5) rfl (by rw [owIdx h2, owIdx h3]; simpa using h5) N ge hg hsize hs hd hf hW hlo
  refine ⟨T', h', L, X', e', N', K', owAI.of_arv V' zb fun i hi => ?_, st⟩
  rw [owIdx h1, owIdx h2, owIdx h3]
  by_cases q1 : i < kd
  · have q2 : ¬ (kd ≤ i ∧ i < kd + kn) := by omega
    rw [if_neg q2]
    have l1 : i < min kd nb := by omega
    simp [List.getD, List.getElem?_append, List.getElem?_take, q1, hi, l1]
  · by_cases q3 : i < kd + kn
    · rw [if_pos ⟨by omega, q3⟩]
      have l1 : ¬ i < min kd nb := by omega
      have l2 : i - min kd nb < kn := by omega
      have l3 : ks + (i - min kd nb) < na := by omega
      have l4 : min kd nb = kd := by omega
      have l5 : ks + (i - kd) < na := by omega
      have l6 : i - kd < kn := by omega
      have l7 : i < min kd nb + kn := by omega
      simp [List.getD, List.getElem?_append, List.getElem?_drop, l1, l4, l5, l6, q1, q3]
    · rw [if_neg (by omega)]
      have l4 : min kd nb = kd := by omega
      have l6 : ¬ i - kd < kn := by omega
      have l8 : kd + kn + (i - (kd + kn)) = i := by omega
      have l9 : kd + kn + (i - kd - kn) = i := by omega
      simp [List.getD, List.getElem?_append, List.getElem?_drop, l4, l6, q1, q3, hi, l8, l9]
theorem owSel2 {s : State} {args : Array Value} {C : String} {y y' : MethodName} (hs : (Cond.selects C y' y').before args s = true) (hc : y'.cls = y.cls) (hpriv : s.PrivateAt y) (hinst : (Cond.instanceMethod y).before args s = true) (hy : y.cls ≠ "java/lang/invoke/MethodHandle" ∧ y.cls ≠ "java/lang/invoke/VarHandle") : (Cond.selects y.cls y y).before args s = true := by
  obtain ⟨c2, r2, m2, -, -, q3, -, kP, hkP, hkPi⟩ := Cond.selects_spec hs
  have q := findClass_of_methodNamed q3
  rw [hc] at q
  exact selects_self_of_private q hkP hkPi hpriv hinst hy
end OwnCopy

def EL1 : List (String × Nat) := [("java/lang/String", 7)]
theorem own_mem : (("java/lang/String", 7) : String × Nat) ∈ EL1 := List.mem_cons_self ..
theorem own_EW {Z : State} {a0 : Array Value} (hw : ∀ d ∈ tables_1, d.before a0 Z = true) : EW Z a0 EL1 := EW.cons (hw _ (List.mem_of_getElem? (i := 135) rfl)) (by decide) EW.nil
theorem own_wS {Z : State} {a0 : Array Value} (hw : ∀ d ∈ tables_1, d.before a0 Z = true) : ∀ a ∈ Bundle.stringAtoms, a.before a0 Z = true := by
  intro a h
  simp only [Bundle.stringAtoms, List.mem_cons, List.not_mem_nil, or_false] at h
  rcases h with rfl | rfl | rfl | rfl | rfl | rfl | rfl
  · exact (hw _ (List.mem_of_getElem? (i := 33) rfl))
  · exact (hw _ (List.mem_of_getElem? (i := 32) rfl))
  · exact (hw _ (List.mem_of_getElem? (i := 49) rfl))
  · exact (hw _ (List.mem_of_getElem? (i := 59) rfl))
  · exact (hw _ (List.mem_of_getElem? (i := 57) rfl))
  · exact (hw _ (List.mem_of_getElem? (i := 136) rfl))
  · exact (hw _ (List.mem_of_getElem? (i := 137) rfl))
/-- a String whose field value is null isn't booked -/
theorem own_safe {Z : State} {vm : Vm} {h : Heap} {x : Addr} {EL : List (String × Nat)} (hal : Z.vm.Alike vm) (E : Exa Z h x "java/lang/String") (F : Fld Z h x "java/lang/String" "value" "[B" .null) : Safe Z EL vm h x := fun B => by
  obtain ⟨p, -, u, a, -, q, -, F', rfl | rfl⟩ := B
  · obtain ⟨cell, cv, kv, iv, f, e1, e2, e3, e4, e5, e6, e7⟩ := F
    obtain ⟨cS, ⟨⟨s1, s2, s3, ⟨cv', kv', iv', s4, s4'⟩, -, s6, s7, s8, -⟩, -⟩, -⟩ := F'
    cases (show h[q.sa]? = some q.sC from s1).symm.trans e1
    obtain ⟨k3, z4⟩ := ff_back (U := Wst Z vm h) hal s4
    have e8 := z4.symm.trans e2
    simp only [Option.some.injEq, Prod.mk.injEq] at e8
    rw [e8.2.2.2] at s8
    have := s8.symm.trans e7
    cases this
  · obtain ⟨cell, k, e1, e2, e3, -, -⟩ := E
    cases (show h[q.sd]? = some q.SA from F'.hd).symm.trans e1
    obtain ⟨cS, -, -, f, -⟩ := F'
    have f' : vm.findClass "[B" = some q.SA.cls := f
    rw [hal.findClass] at f'
    obtain ⟨k1, q1, q2⟩ := Vm.findClass_spec f'
    obtain ⟨k2, q3, q4⟩ := Vm.findClass_spec e2
    cases q1.symm.trans q3
    have := q2.symm.trans q4
    exact absurd this (by decide)
theorem own_fldne {Z : State} {h : Heap} {x a b : Addr} (F : Fld Z h x "java/lang/String" "value" "[B" .null) (G : Fld Z h a "java/lang/String" "value" "[B" (.ref b)) : x ≠ a := fun q => by
  subst q
  obtain ⟨cell, cv, kv, iv, f, e1, e2, e3, e4, e5, e6, e7⟩ := F
  obtain ⟨cell', cv', kv', iv', f', d1, d2, d3, d4, d5, d6, d7⟩ := G
  cases e1.symm.trans d1
  have e8 := e2.symm.trans d2
  simp only [Option.some.injEq, Prod.mk.injEq] at e8
  rw [e8.2.2.2] at e7
  have := e7.symm.trans d7
  cases this
theorem own_exaA {Z : State} {h : Heap} {x b : Addr} {a0 : Array Value} {k : ClassId} {z : Int32} {vs : List Value} {d : Value} (E : Exa Z h x "java/lang/String") (w : (Cond.instantiable "java/lang/String" 4).before a0 Z = true) (F : Arv Z h b k .byte z vs d) : x ≠ b := E.neArv F w
def OST (Z : State) (cs : Int32) (fmv : Value) : Prop := Sta Z Z.heap "java/lang/String" "COMPACT_STRINGS" "Z" (.int cs) ∧ ¬ cs = (0 : Int32) ∧ Sta Z Z.heap "jdk/internal/util/Preconditions" "SIOOBE_FORMATTER" "Ljava/util/function/BiFunction;" fmv ∧ fmv.isRef = true
def OEM (Z : State) (em : Addr) : Prop := Sta Z Z.heap "java/util/OptionalLong" "EMPTY" "Ljava/util/OptionalLong;" (.ref em) ∧ Exa Z Z.heap em "java/util/OptionalLong" ∧ Fld Z Z.heap em "java/util/OptionalLong" "isPresent" "Z" (.int (0 : Int32)) ∧ Fld Z Z.heap em "java/util/OptionalLong" "value" "J" (.long (0 : Int64))
theorem own_up {j : Int32} {k : Nat} (h : j.toInt = (k : Int)) (hk : k < 1000) : (j + (1 : Int32)).toInt = ((k + 1 : Nat) : Int) := by
  have h1 := c_iadd j 1
  have h2 := rng32 (j + 1)
  have l1 : (1 : Int32).toInt = 1 := rfl
  omega
theorem own_ltn {i n : Int32} {a b : Nat} (h1 : i.toInt = (a : Int)) (h2 : n.toInt = (b : Int)) (h : a < b) : i < n := by rw [Int32.lt_iff_toInt_lt]; omega
theorem own_nltn {i n : Int32} {a b : Nat} (h1 : i.toInt = (a : Int)) (h2 : n.toInt = (b : Int)) (h : b ≤ a) : ¬ i < n := by rw [Int32.lt_iff_toInt_lt]; omega
theorem own_nat32 {n : Nat} {z : Int32} (h : z.toInt = (n : Int)) : n.toInt32 = z := by
  have h2 := rng32 z
  apply Int32.toInt_inj.mp
  have q : (n.toInt32).toInt = (n : Int) := Int32.toInt_ofNat_of_lt (by omega)
  rw [q, h]
theorem own_nc {v : Int32} (h : 0 ≤ v.toInt ∧ v.toInt < 65536) : (v.toUInt32.toUInt16.toUInt32.toInt32) = v := by
  have q := c_i2c v
  apply Int32.toInt_inj.mp; omega
/-- a char below 256, kept as a byte, read back -/
theorem own_bc {v : Int32} (h : 0 ≤ v.toInt ∧ v.toInt < 256) : nar .char (nar .char ((((v.toInt8.toInt32) &&& (255 : Int32)).toUInt32.toUInt16.toUInt32.toInt32))) = v := by
  have h1 := c_i2b v
  have h2 := c_mask (v.toInt8.toInt32) 255 8 (by decide) (by decide)
  obtain ⟨w, hw⟩ : ∃ w, w = (v.toInt8.toInt32) &&& (255 : Int32) := ⟨_, rfl⟩
  rw [← hw] at h2 ⊢
  have e : w = v := by apply Int32.toInt_inj.mp; omega
  subst e
  have e2 := own_nc (v := w) (by omega)
  show ((((w.toUInt32.toUInt16.toUInt32.toInt32).toUInt32.toUInt16.toUInt32.toInt32)).toUInt32.toUInt16.toUInt32.toInt32) = w
  rw [e2, e2, e2]
def own_p10 : Nat → Int64 := (owUp (owUp (owUp (owUp (owUp (owUp (owUp (owUp (owUp (owUp (owUp (owUp (owUp (owUp (owUp (owUp (owUp (owUp (owUp (fun _ => 0) 0 (1 : Int64)) 1 (10 : Int64)) 2 (100 : Int64)) 3 (1000 : Int64)) 4 (10000 : Int64)) 5 (100000 : Int64)) 6 (1000000 : Int64)) 7 (10000000 : Int64)) 8 (100000000 : Int64)) 9 (1000000000 : Int64)) 10 (10000000000 : Int64)) 11 (100000000000 : Int64)) 12 (1000000000000 : Int64)) 13 (10000000000000 : Int64)) 14 (100000000000000 : Int64)) 15 (1000000000000000 : Int64)) 16 (10000000000000000 : Int64)) 17 (100000000000000000 : Int64)) 18 (1000000000000000000 : Int64))
theorem own_p10v : ∀ k, k < 19 → (own_p10 k).toInt = (10 ^ k : Nat) := by decide +kernel
theorem own_p10nz {k : Nat} (h : k < 19) : own_p10 k ≠ 0 := fun q => by
  have h1 := own_p10v k h
  rw [q] at h1
  have h2 : 0 < (10 ^ k : Nat) := (by first | exact Nat.pow_pos (by decide) | exact Nat.pos_pow_of_pos _ (by decide))
  have h3 : (0 : Int64).toInt = 0 := rfl
  omega
def OC (n : Nat) (fc : Nat → Int32) : Prop := n ≤ 20 ∧ ∀ i, i < n → 0 ≤ (fc i).toInt ∧ (fc i).toInt < 256

theorem d1_0 : decode method_3_code 0 = .ok (.iload_n 0, 1) := by decide +kernel
theorem d1_1 : decode method_3_code 1 = .ok (.iconst 1, 1) := by decide +kernel
theorem d1_2 : decode method_3_code 2 = .ok (.iand, 1) := by decide +kernel
theorem d1_3 : decode method_3_code 3 = .ok (.ifCond .ne 14, 3) := by decide +kernel
theorem d1_6 : decode method_3_code 6 = .ok (.bipush 48, 2) := by decide +kernel
theorem d1_8 : decode method_3_code 8 = .ok (.iload_n 0, 1) := by decide +kernel
theorem d1_9 : decode method_3_code 9 = .ok (.iconst 1, 1) := by decide +kernel
theorem d1_10 : decode method_3_code 10 = .ok (.iushr, 1) := by decide +kernel
theorem d1_11 : decode method_3_code 11 = .ok (.bipush 10, 2) := by decide +kernel
theorem d1_13 : decode method_3_code 13 = .ok (.irem, 1) := by decide +kernel
theorem d1_14 : decode method_3_code 14 = .ok (.iadd, 1) := by decide +kernel
theorem d1_15 : decode method_3_code 15 = .ok (.i2c, 1) := by decide +kernel
theorem d1_16 : decode method_3_code 16 = .ok (.ireturn, 1) := by decide +kernel
theorem d1_17 : decode method_3_code 17 = .ok (.iload_n 0, 1) := by decide +kernel
theorem d1_18 : decode method_3_code 18 = .ok (.iconst 1, 1) := by decide +kernel
theorem d1_19 : decode method_3_code 19 = .ok (.iushr, 1) := by decide +kernel
theorem d1_20 : decode method_3_code 20 = .ok (.sipush 255, 3) := by decide +kernel
theorem d1_23 : decode method_3_code 23 = .ok (.iand, 1) := by decide +kernel
theorem d1_24 : decode method_3_code 24 = .ok (.i2c, 1) := by decide +kernel
theorem d1_25 : decode method_3_code 25 = .ok (.ireturn, 1) := by decide +kernel
theorem pn_1 : plainName "com/example/relent/relent/WholeNumbersUnsignedPinLaw" = true := by first | (simp [plainName, overriddenIn]; done) | decide +kernel
theorem ef_1 (m : MethodId) (x0 : Int32) : entryFrame m #[(.int x0)] 1 = mkF m 0 #[.val (.int x0)] [] := by first | (simp [entryFrame, mkF, argsToLocals, Value.category]; done) | rfl
def fn1 (p1 : Int32) : Int32 := (if (p1 &&& (1 : Int32)) = (0 : Int32) then (nar .char (((48 : Int32) + (((p1.toUInt32 >>> ((1 : Int32) &&& 31).toUInt32).toInt32) % (10 : Int32))).toUInt32.toUInt16.toUInt32.toInt32)) else (nar .char ((((p1.toUInt32 >>> ((1 : Int32) &&& 31).toUInt32).toInt32) &&& (255 : Int32)).toUInt32.toUInt16.toUInt32.toInt32)))
def Q1 (Z : State) (p1 : Int32) (h0 : Heap) (n0 : Nat) (v : Option Value) (h : Heap) (L : List Loc) : Prop := v = some (.int (fn1 p1)) ∧ Fr n0 L ∧ h = h0
set_option maxRecDepth 65536 in
set_option maxHeartbeats 40000000 in
theorem rm1 (l : Launch) (Z : State) (a0 : Array Value) (hw : ∀ d ∈ tables_1, d.before a0 Z = true) (ws : List Jvm.Cond) (p1 : Int32) (h0 : Heap) (n0 : Nat) (Z0 : n0 ≤ h0.size) :
    MetFree l (⟨"com/example/relent/relent/WholeNumbersUnsignedPinLaw", "draw", "(I)C"⟩ : MethodName) (head1 (Jvm.Cond.code (⟨"com/example/relent/relent/WholeNumbersUnsignedPinLaw", "draw", "(I)C"⟩ : MethodName) method_3_code 1 (some .char) :: ws) ({ frames := 0, cells := 0, slots := 0, locals := 0 } : Room)) (fun a U => a = #[(.int p1)] ∧ Z.Warmed39 U.vm ∧ U.heap = h0) (fun _ _ _ _ _ => True) (fun _ U o U' => ∃ v L, o = .returned v ∧ Q1 Z p1 h0 n0 v U'.heap L ∧ FrameEnd U o U' L ({ frames := 0, cells := 0, slots := 0, locals := 0 } : Room).cells ({ frames := 0, cells := 0, slots := 0, locals := 0 } : Room).slots) := by
  refine MetFree.of_bodySF (plainFor_of_name pn_1) hisR ?_
  intro p e s m args below meth c s₁ Bd hml0 hP hK
  obtain ⟨rfl, hZ, hh⟩ := hP
  have hx := Bd.exec
  have hby := Bd.bytes
  have hml : c.maxLocals = 1 := hml0
  have hown : s.vm.findClass "com/example/relent/relent/WholeNumbersUnsignedPinLaw" = some m.cls := findClass_of_methodNamed Bd.named
  have hnm := (name_of_methodNamed Bd.named Bd.method).1
  have X0 : Stand p l e ({ frames := 0, cells := 0, slots := 0, locals := 0 } : Room) s m #[(.int p1)] below meth c s₁ [] 0 0 := Stand.of_body Bd
  have e0 : s₁.heap = h0 := by rw [← hh, Bd.state]; rfl
  have N0 := Fr.nil n0
  have pre0 : ∀ t, Steps p.tables e below (s₁.setTop (mkF m 0 #[.val (.int p1)] [])) t → Steps p.tables e below (s₁.setTop (entryFrame m #[(.int p1)] 1)) t := fun t k => castTop (ef_1 m p1) k
  have pre1 : ∀ t, Steps p.tables e below (s₁.setTop (mkF m 3 #[.val (.int p1)] [(.int (p1 &&& (1 : Int32)))])) t → Steps p.tables e below (s₁.setTop (entryFrame m #[(.int p1)] 1)) t := by
    intro t kt
    refine pre0 _ ?_
    show Steps p.tables e below (s₁.setTop (mkF m 0 #[.val (.int p1)] [])) _
    refine XS.iloadN X0.here hx rfl (hb hby d1_0) rfl ?_
    show Steps p.tables e below (s₁.setTop (mkF m 1 #[.val (.int p1)] [(.int p1)])) _
    refine XS.iconst X0.here hx rfl (hb hby d1_1) ?_
    show Steps p.tables e below (s₁.setTop (mkF m 2 #[.val (.int p1)] [(.int (1 : Int32)), (.int p1)])) _
    refine XS.iand X0.here hx rfl (hb hby d1_2) rfl ?_
    exact kt
  by_cases hc3_2 : (p1 &&& (1 : Int32)) = (0 : Int32)
  · skip
    have pre3 : ∀ t, Steps p.tables e below (s₁.setTop (mkF m 16 #[.val (.int p1)] [(.int (((48 : Int32) + (((p1.toUInt32 >>> ((1 : Int32) &&& 31).toUInt32).toInt32) % (10 : Int32))).toUInt32.toUInt16.toUInt32.toInt32))])) t → Steps p.tables e below (s₁.setTop (entryFrame m #[(.int p1)] 1)) t := by
      intro t kt
      refine pre1 _ ?_
      show Steps p.tables e below (s₁.setTop (mkF m 3 #[.val (.int p1)] [(.int (p1 &&& (1 : Int32)))])) _
      refine XS.ifNo X0.here hx rfl (hb hby d1_3) rfl (XT.i0_ne_f hc3_2) ?_
      show Steps p.tables e below (s₁.setTop (mkF m 6 #[.val (.int p1)] [])) _
      refine XS.bipush X0.here hx rfl (hb hby d1_6) ?_
      show Steps p.tables e below (s₁.setTop (mkF m 8 #[.val (.int p1)] [(.int (48 : Int32))])) _
      refine XS.iloadN X0.here hx rfl (hb hby d1_8) rfl ?_
      show Steps p.tables e below (s₁.setTop (mkF m 9 #[.val (.int p1)] [(.int p1), (.int (48 : Int32))])) _
      refine XS.iconst X0.here hx rfl (hb hby d1_9) ?_
      show Steps p.tables e below (s₁.setTop (mkF m 10 #[.val (.int p1)] [(.int (1 : Int32)), (.int p1), (.int (48 : Int32))])) _
      refine XS.iushr X0.here hx rfl (hb hby d1_10) rfl ?_
      show Steps p.tables e below (s₁.setTop (mkF m 11 #[.val (.int p1)] [(.int ((p1.toUInt32 >>> ((1 : Int32) &&& 31).toUInt32).toInt32)), (.int (48 : Int32))])) _
      refine XS.bipush X0.here hx rfl (hb hby d1_11) ?_
      show Steps p.tables e below (s₁.setTop (mkF m 13 #[.val (.int p1)] [(.int (10 : Int32)), (.int ((p1.toUInt32 >>> ((1 : Int32) &&& 31).toUInt32).toInt32)), (.int (48 : Int32))])) _
      refine iremM (g := (mkF m 13 #[.val (.int p1)] [(.int (10 : Int32)), (.int ((p1.toUInt32 >>> ((1 : Int32) &&& 31).toUInt32).toInt32)), (.int (48 : Int32))])) X0 hx rfl (hb hby d1_13) rfl (by decide) ?_
      show Steps p.tables e below (s₁.setTop (mkF m 14 #[.val (.int p1)] [(.int (((p1.toUInt32 >>> ((1 : Int32) &&& 31).toUInt32).toInt32) % (10 : Int32))), (.int (48 : Int32))])) _
      refine XS.iadd X0.here hx rfl (hb hby d1_14) rfl ?_
      show Steps p.tables e below (s₁.setTop (mkF m 15 #[.val (.int p1)] [(.int ((48 : Int32) + (((p1.toUInt32 >>> ((1 : Int32) &&& 31).toUInt32).toInt32) % (10 : Int32))))])) _
      refine XS.i2c X0.here hx rfl (hb hby d1_15) rfl ?_
      exact kt
    obtain ⟨fs, hr, hrun, hended, hW, hsame⟩ := X0.leave (v := some (.int (nar .char (((48 : Int32) + (((p1.toUInt32 >>> ((1 : Int32) &&& 31).toUInt32).toInt32) % (10 : Int32))).toUInt32.toUInt16.toUInt32.toInt32)))) (fun h => by rw [Bd.returns] at h; cases h)
    refine ⟨_, _, pre3 _ ?_, hrun, hended, _, _, rfl, ?_, ⟨_, rfl⟩, hW, hsame.mono (by decide) (by decide)⟩
    · show Steps p.tables e below (s₁.setTop (mkF m 16 #[.val (.int p1)] [(.int (((48 : Int32) + (((p1.toUInt32 >>> ((1 : Int32) &&& 31).toUInt32).toInt32) % (10 : Int32))).toUInt32.toUInt16.toUInt32.toInt32))])) _
      exact retN X0 hx (t := .char) Bd.returns (by simp) (hb hby d1_16) hr
    · show Q1 Z p1 h0 n0 _ s₁.heap _
      rw [e0]
      exact ⟨by unfold fn1; rw [if_pos hc3_2], N0, rfl⟩
  · skip
    have pre4 : ∀ t, Steps p.tables e below (s₁.setTop (mkF m 25 #[.val (.int p1)] [(.int ((((p1.toUInt32 >>> ((1 : Int32) &&& 31).toUInt32).toInt32) &&& (255 : Int32)).toUInt32.toUInt16.toUInt32.toInt32))])) t → Steps p.tables e below (s₁.setTop (entryFrame m #[(.int p1)] 1)) t := by
      intro t kt
      refine pre1 _ ?_
      show Steps p.tables e below (s₁.setTop (mkF m 3 #[.val (.int p1)] [(.int (p1 &&& (1 : Int32)))])) _
      refine XS.ifYes X0.here hx rfl (pc0 := 3) (pc' := 17) rfl (hb hby d1_3) rfl (XT.i0_ne_t hc3_2) (by decide) (by decide) ?_
      show Steps p.tables e below (s₁.setTop (mkF m 17 #[.val (.int p1)] [])) _
      refine XS.iloadN X0.here hx rfl (hb hby d1_17) rfl ?_
      show Steps p.tables e below (s₁.setTop (mkF m 18 #[.val (.int p1)] [(.int p1)])) _
      refine XS.iconst X0.here hx rfl (hb hby d1_18) ?_
      show Steps p.tables e below (s₁.setTop (mkF m 19 #[.val (.int p1)] [(.int (1 : Int32)), (.int p1)])) _
      refine XS.iushr X0.here hx rfl (hb hby d1_19) rfl ?_
      show Steps p.tables e below (s₁.setTop (mkF m 20 #[.val (.int p1)] [(.int ((p1.toUInt32 >>> ((1 : Int32) &&& 31).toUInt32).toInt32))])) _
      refine XS.sipush X0.here hx rfl (hb hby d1_20) ?_
      show Steps p.tables e below (s₁.setTop (mkF m 23 #[.val (.int p1)] [(.int (255 : Int32)), (.int ((p1.toUInt32 >>> ((1 : Int32) &&& 31).toUInt32).toInt32))])) _
      refine XS.iand X0.here hx rfl (hb hby d1_23) rfl ?_
      show Steps p.tables e below (s₁.setTop (mkF m 24 #[.val (.int p1)] [(.int (((p1.toUInt32 >>> ((1 : Int32) &&& 31).toUInt32).toInt32) &&& (255 : Int32)))])) _
      refine XS.i2c X0.here hx rfl (hb hby d1_24) rfl ?_
      exact kt
    obtain ⟨fs, hr, hrun, hended, hW, hsame⟩ := X0.leave (v := some (.int (nar .char ((((p1.toUInt32 >>> ((1 : Int32) &&& 31).toUInt32).toInt32) &&& (255 : Int32)).toUInt32.toUInt16.toUInt32.toInt32)))) (fun h => by rw [Bd.returns] at h; cases h)
    refine ⟨_, _, pre4 _ ?_, hrun, hended, _, _, rfl, ?_, ⟨_, rfl⟩, hW, hsame.mono (by decide) (by decide)⟩
    · show Steps p.tables e below (s₁.setTop (mkF m 25 #[.val (.int p1)] [(.int ((((p1.toUInt32 >>> ((1 : Int32) &&& 31).toUInt32).toInt32) &&& (255 : Int32)).toUInt32.toUInt16.toUInt32.toInt32))])) _
      exact retN X0 hx (t := .char) Bd.returns (by simp) (hb hby d1_25) hr
    · show Q1 Z p1 h0 n0 _ s₁.heap _
      rw [e0]
      exact ⟨by unfold fn1; rw [if_neg hc3_2], N0, rfl⟩
theorem d21_0 : decode method_4_code 0 = .ok (.iload_n 0, 1) := by decide +kernel
theorem d21_1 : decode method_4_code 1 = .ok (.bipush 48, 2) := by decide +kernel
theorem d21_3 : decode method_4_code 3 = .ok (.if_icmp .lt 13, 3) := by decide +kernel
theorem d21_6 : decode method_4_code 6 = .ok (.iload_n 0, 1) := by decide +kernel
theorem d21_7 : decode method_4_code 7 = .ok (.bipush 57, 2) := by decide +kernel
theorem d21_9 : decode method_4_code 9 = .ok (.if_icmp .gt 7, 3) := by decide +kernel
theorem d21_12 : decode method_4_code 12 = .ok (.iconst 1, 1) := by decide +kernel
theorem d21_13 : decode method_4_code 13 = .ok (.goto 4, 3) := by decide +kernel
theorem d21_16 : decode method_4_code 16 = .ok (.iconst 0, 1) := by decide +kernel
theorem d21_17 : decode method_4_code 17 = .ok (.ireturn, 1) := by decide +kernel
theorem pn_21 : plainName "com/example/relent/relent/WholeNumbersUnsignedPinLaw" = true := by first | (simp [plainName, overriddenIn]; done) | decide +kernel
theorem ef_21 (m : MethodId) (x0 : Int32) : entryFrame m #[(.int x0)] 1 = mkF m 0 #[.val (.int x0)] [] := by first | (simp [entryFrame, mkF, argsToLocals, Value.category]; done) | rfl
def fn21 (p1 : Int32) : Int32 := (if p1 < (48 : Int32) then (0 : Int32) else (if (57 : Int32) < p1 then (0 : Int32) else (1 : Int32)))
def Q21 (Z : State) (p1 : Int32) (h0 : Heap) (n0 : Nat) (v : Option Value) (h : Heap) (L : List Loc) : Prop := v = some (.int (fn21 p1)) ∧ Fr n0 L ∧ h = h0
set_option maxRecDepth 65536 in
set_option maxHeartbeats 40000000 in
theorem rm21 (l : Launch) (Z : State) (a0 : Array Value) (hw : ∀ d ∈ tables_1, d.before a0 Z = true) (ws : List Jvm.Cond) (p1 : Int32) (h0 : Heap) (n0 : Nat) (Z0 : n0 ≤ h0.size) :
    MetFree l (⟨"com/example/relent/relent/WholeNumbersUnsignedPinLaw", "isDigit", "(C)Z"⟩ : MethodName) (head1 (Jvm.Cond.code (⟨"com/example/relent/relent/WholeNumbersUnsignedPinLaw", "isDigit", "(C)Z"⟩ : MethodName) method_4_code 1 (some .boolean) :: ws) ({ frames := 0, cells := 0, slots := 0, locals := 0 } : Room)) (fun a U => a = #[(.int p1)] ∧ Z.Warmed39 U.vm ∧ U.heap = h0) (fun _ _ _ _ _ => True) (fun _ U o U' => ∃ v L, o = .returned v ∧ Q21 Z p1 h0 n0 v U'.heap L ∧ FrameEnd U o U' L ({ frames := 0, cells := 0, slots := 0, locals := 0 } : Room).cells ({ frames := 0, cells := 0, slots := 0, locals := 0 } : Room).slots) := by
  refine MetFree.of_bodySF (plainFor_of_name pn_21) hisR ?_
  intro p e s m args below meth c s₁ Bd hml0 hP hK
  obtain ⟨rfl, hZ, hh⟩ := hP
  have hx := Bd.exec
  have hby := Bd.bytes
  have hml : c.maxLocals = 1 := hml0
  have hown : s.vm.findClass "com/example/relent/relent/WholeNumbersUnsignedPinLaw" = some m.cls := findClass_of_methodNamed Bd.named
  have hnm := (name_of_methodNamed Bd.named Bd.method).1
  have X0 : Stand p l e ({ frames := 0, cells := 0, slots := 0, locals := 0 } : Room) s m #[(.int p1)] below meth c s₁ [] 0 0 := Stand.of_body Bd
  have e0 : s₁.heap = h0 := by rw [← hh, Bd.state]; rfl
  have N0 := Fr.nil n0
  have pre0 : ∀ t, Steps p.tables e below (s₁.setTop (mkF m 0 #[.val (.int p1)] [])) t → Steps p.tables e below (s₁.setTop (entryFrame m #[(.int p1)] 1)) t := fun t k => castTop (ef_21 m p1) k
  have pre1 : ∀ t, Steps p.tables e below (s₁.setTop (mkF m 3 #[.val (.int p1)] [(.int (48 : Int32)), (.int p1)])) t → Steps p.tables e below (s₁.setTop (entryFrame m #[(.int p1)] 1)) t := by
    intro t kt
    refine pre0 _ ?_
    show Steps p.tables e below (s₁.setTop (mkF m 0 #[.val (.int p1)] [])) _
    refine XS.iloadN X0.here hx rfl (hb hby d21_0) rfl ?_
    show Steps p.tables e below (s₁.setTop (mkF m 1 #[.val (.int p1)] [(.int p1)])) _
    refine XS.bipush X0.here hx rfl (hb hby d21_1) ?_
    exact kt
  by_cases hc3_2 : p1 < (48 : Int32)
  · skip
    have pre3 : ∀ t, Steps p.tables e below (s₁.setTop (mkF m 17 #[.val (.int p1)] [(.int (0 : Int32))])) t → Steps p.tables e below (s₁.setTop (entryFrame m #[(.int p1)] 1)) t := by
      intro t kt
      refine pre1 _ ?_
      show Steps p.tables e below (s₁.setTop (mkF m 3 #[.val (.int p1)] [(.int (48 : Int32)), (.int p1)])) _
      refine XS.icmpYes X0.here hx rfl (pc0 := 3) (pc' := 16) rfl (hb hby d21_3) rfl (XT.ii_lt_t hc3_2) (by decide) (by decide) ?_
      show Steps p.tables e below (s₁.setTop (mkF m 16 #[.val (.int p1)] [])) _
      refine XS.iconst X0.here hx rfl (hb hby d21_16) ?_
      exact kt
    obtain ⟨fs, hr, hrun, hended, hW, hsame⟩ := X0.leave (v := some (.int (0 : Int32))) (fun h => by rw [Bd.returns] at h; cases h)
    refine ⟨_, _, pre3 _ ?_, hrun, hended, _, _, rfl, ?_, ⟨_, rfl⟩, hW, hsame.mono (by decide) (by decide)⟩
    · show Steps p.tables e below (s₁.setTop (mkF m 17 #[.val (.int p1)] [(.int (0 : Int32))])) _
      exact retN X0 hx (t := .boolean) Bd.returns (by simp) (hb hby d21_17) hr
    · show Q21 Z p1 h0 n0 _ s₁.heap _
      rw [e0]
      exact ⟨by unfold fn21; rw [if_pos hc3_2], N0, rfl⟩
  · skip
    have pre4 : ∀ t, Steps p.tables e below (s₁.setTop (mkF m 9 #[.val (.int p1)] [(.int (57 : Int32)), (.int p1)])) t → Steps p.tables e below (s₁.setTop (entryFrame m #[(.int p1)] 1)) t := by
      intro t kt
      refine pre1 _ ?_
      show Steps p.tables e below (s₁.setTop (mkF m 3 #[.val (.int p1)] [(.int (48 : Int32)), (.int p1)])) _
      refine XS.icmpNo X0.here hx rfl (hb hby d21_3) rfl (XT.ii_lt_f hc3_2) ?_
      show Steps p.tables e below (s₁.setTop (mkF m 6 #[.val (.int p1)] [])) _
      refine XS.iloadN X0.here hx rfl (hb hby d21_6) rfl ?_
      show Steps p.tables e below (s₁.setTop (mkF m 7 #[.val (.int p1)] [(.int p1)])) _
      refine XS.bipush X0.here hx rfl (hb hby d21_7) ?_
      exact kt
    by_cases hc9_5 : (57 : Int32) < p1
    · skip
      have pre6 : ∀ t, Steps p.tables e below (s₁.setTop (mkF m 17 #[.val (.int p1)] [(.int (0 : Int32))])) t → Steps p.tables e below (s₁.setTop (entryFrame m #[(.int p1)] 1)) t := by
        intro t kt
        refine pre4 _ ?_
        show Steps p.tables e below (s₁.setTop (mkF m 9 #[.val (.int p1)] [(.int (57 : Int32)), (.int p1)])) _
        refine XS.icmpYes X0.here hx rfl (pc0 := 9) (pc' := 16) rfl (hb hby d21_9) rfl (XT.ii_gt_t hc9_5) (by decide) (by decide) ?_
        show Steps p.tables e below (s₁.setTop (mkF m 16 #[.val (.int p1)] [])) _
        refine XS.iconst X0.here hx rfl (hb hby d21_16) ?_
        exact kt
      obtain ⟨fs, hr, hrun, hended, hW, hsame⟩ := X0.leave (v := some (.int (0 : Int32))) (fun h => by rw [Bd.returns] at h; cases h)
      refine ⟨_, _, pre6 _ ?_, hrun, hended, _, _, rfl, ?_, ⟨_, rfl⟩, hW, hsame.mono (by decide) (by decide)⟩
      · show Steps p.tables e below (s₁.setTop (mkF m 17 #[.val (.int p1)] [(.int (0 : Int32))])) _
        exact retN X0 hx (t := .boolean) Bd.returns (by simp) (hb hby d21_17) hr
      · show Q21 Z p1 h0 n0 _ s₁.heap _
        rw [e0]
        exact ⟨by unfold fn21; rw [if_neg hc3_2, if_pos hc9_5], N0, rfl⟩
    · skip
      have pre7 : ∀ t, Steps p.tables e below (s₁.setTop (mkF m 17 #[.val (.int p1)] [(.int (1 : Int32))])) t → Steps p.tables e below (s₁.setTop (entryFrame m #[(.int p1)] 1)) t := by
        intro t kt
        refine pre4 _ ?_
        show Steps p.tables e below (s₁.setTop (mkF m 9 #[.val (.int p1)] [(.int (57 : Int32)), (.int p1)])) _
        refine XS.icmpNo X0.here hx rfl (hb hby d21_9) rfl (XT.ii_gt_f hc9_5) ?_
        show Steps p.tables e below (s₁.setTop (mkF m 12 #[.val (.int p1)] [])) _
        refine XS.iconst X0.here hx rfl (hb hby d21_12) ?_
        show Steps p.tables e below (s₁.setTop (mkF m 13 #[.val (.int p1)] [(.int (1 : Int32))])) _
        refine XS.goto X0.here hx rfl (pc0 := 13) (pc' := 17) rfl (hb hby d21_13) (by decide) (by decide) ?_
        exact kt
      obtain ⟨fs, hr, hrun, hended, hW, hsame⟩ := X0.leave (v := some (.int (1 : Int32))) (fun h => by rw [Bd.returns] at h; cases h)
      refine ⟨_, _, pre7 _ ?_, hrun, hended, _, _, rfl, ?_, ⟨_, rfl⟩, hW, hsame.mono (by decide) (by decide)⟩
      · show Steps p.tables e below (s₁.setTop (mkF m 17 #[.val (.int p1)] [(.int (1 : Int32))])) _
        exact retN X0 hx (t := .boolean) Bd.returns (by simp) (hb hby d21_17) hr
      · show Q21 Z p1 h0 n0 _ s₁.heap _
        rw [e0]
        exact ⟨by unfold fn21; rw [if_neg hc3_2, if_neg hc9_5], N0, rfl⟩
theorem d2_0 : decode method_2_code 0 = .ok (.bipush 19, 2) := by decide +kernel
theorem d2_2 : decode method_2_code 2 = .ok (.newarray .long, 2) := by decide +kernel
theorem d2_4 : decode method_2_code 4 = .ok (.dup, 1) := by decide +kernel
theorem d2_5 : decode method_2_code 5 = .ok (.iconst 0, 1) := by decide +kernel
theorem d2_6 : decode method_2_code 6 = .ok (.lconst 1, 1) := by decide +kernel
theorem d2_7 : decode method_2_code 7 = .ok (.lastore, 1) := by decide +kernel
theorem d2_8 : decode method_2_code 8 = .ok (.dup, 1) := by decide +kernel
theorem d2_9 : decode method_2_code 9 = .ok (.iconst 1, 1) := by decide +kernel
theorem d2_10 : decode method_2_code 10 = .ok (.ldc2_w 7, 3) := by decide +kernel
theorem d2_13 : decode method_2_code 13 = .ok (.lastore, 1) := by decide +kernel
theorem d2_14 : decode method_2_code 14 = .ok (.dup, 1) := by decide +kernel
theorem d2_15 : decode method_2_code 15 = .ok (.iconst 2, 1) := by decide +kernel
theorem d2_16 : decode method_2_code 16 = .ok (.ldc2_w 9, 3) := by decide +kernel
theorem d2_19 : decode method_2_code 19 = .ok (.lastore, 1) := by decide +kernel
theorem d2_20 : decode method_2_code 20 = .ok (.dup, 1) := by decide +kernel
theorem d2_21 : decode method_2_code 21 = .ok (.iconst 3, 1) := by decide +kernel
theorem d2_22 : decode method_2_code 22 = .ok (.ldc2_w 11, 3) := by decide +kernel
theorem d2_25 : decode method_2_code 25 = .ok (.lastore, 1) := by decide +kernel
theorem d2_26 : decode method_2_code 26 = .ok (.dup, 1) := by decide +kernel
theorem d2_27 : decode method_2_code 27 = .ok (.iconst 4, 1) := by decide +kernel
theorem d2_28 : decode method_2_code 28 = .ok (.ldc2_w 13, 3) := by decide +kernel
theorem d2_31 : decode method_2_code 31 = .ok (.lastore, 1) := by decide +kernel
theorem d2_32 : decode method_2_code 32 = .ok (.dup, 1) := by decide +kernel
theorem d2_33 : decode method_2_code 33 = .ok (.iconst 5, 1) := by decide +kernel
theorem d2_34 : decode method_2_code 34 = .ok (.ldc2_w 15, 3) := by decide +kernel
theorem d2_37 : decode method_2_code 37 = .ok (.lastore, 1) := by decide +kernel
theorem d2_38 : decode method_2_code 38 = .ok (.dup, 1) := by decide +kernel
theorem d2_39 : decode method_2_code 39 = .ok (.bipush 6, 2) := by decide +kernel
theorem d2_41 : decode method_2_code 41 = .ok (.ldc2_w 17, 3) := by decide +kernel
theorem d2_44 : decode method_2_code 44 = .ok (.lastore, 1) := by decide +kernel
theorem d2_45 : decode method_2_code 45 = .ok (.dup, 1) := by decide +kernel
theorem d2_46 : decode method_2_code 46 = .ok (.bipush 7, 2) := by decide +kernel
theorem d2_48 : decode method_2_code 48 = .ok (.ldc2_w 19, 3) := by decide +kernel
theorem d2_51 : decode method_2_code 51 = .ok (.lastore, 1) := by decide +kernel
theorem d2_52 : decode method_2_code 52 = .ok (.dup, 1) := by decide +kernel
theorem d2_53 : decode method_2_code 53 = .ok (.bipush 8, 2) := by decide +kernel
theorem d2_55 : decode method_2_code 55 = .ok (.ldc2_w 21, 3) := by decide +kernel
theorem d2_58 : decode method_2_code 58 = .ok (.lastore, 1) := by decide +kernel
theorem d2_59 : decode method_2_code 59 = .ok (.dup, 1) := by decide +kernel
theorem d2_60 : decode method_2_code 60 = .ok (.bipush 9, 2) := by decide +kernel
theorem d2_62 : decode method_2_code 62 = .ok (.ldc2_w 23, 3) := by decide +kernel
theorem d2_65 : decode method_2_code 65 = .ok (.lastore, 1) := by decide +kernel
theorem d2_66 : decode method_2_code 66 = .ok (.dup, 1) := by decide +kernel
theorem d2_67 : decode method_2_code 67 = .ok (.bipush 10, 2) := by decide +kernel
theorem d2_69 : decode method_2_code 69 = .ok (.ldc2_w 25, 3) := by decide +kernel
theorem d2_72 : decode method_2_code 72 = .ok (.lastore, 1) := by decide +kernel
theorem d2_73 : decode method_2_code 73 = .ok (.dup, 1) := by decide +kernel
theorem d2_74 : decode method_2_code 74 = .ok (.bipush 11, 2) := by decide +kernel
theorem d2_76 : decode method_2_code 76 = .ok (.ldc2_w 27, 3) := by decide +kernel
theorem d2_79 : decode method_2_code 79 = .ok (.lastore, 1) := by decide +kernel
theorem d2_80 : decode method_2_code 80 = .ok (.dup, 1) := by decide +kernel
theorem d2_81 : decode method_2_code 81 = .ok (.bipush 12, 2) := by decide +kernel
theorem d2_83 : decode method_2_code 83 = .ok (.ldc2_w 29, 3) := by decide +kernel
theorem d2_86 : decode method_2_code 86 = .ok (.lastore, 1) := by decide +kernel
theorem d2_87 : decode method_2_code 87 = .ok (.dup, 1) := by decide +kernel
theorem d2_88 : decode method_2_code 88 = .ok (.bipush 13, 2) := by decide +kernel
theorem d2_90 : decode method_2_code 90 = .ok (.ldc2_w 31, 3) := by decide +kernel
theorem d2_93 : decode method_2_code 93 = .ok (.lastore, 1) := by decide +kernel
theorem d2_94 : decode method_2_code 94 = .ok (.dup, 1) := by decide +kernel
theorem d2_95 : decode method_2_code 95 = .ok (.bipush 14, 2) := by decide +kernel
theorem d2_97 : decode method_2_code 97 = .ok (.ldc2_w 33, 3) := by decide +kernel
theorem d2_100 : decode method_2_code 100 = .ok (.lastore, 1) := by decide +kernel
theorem d2_101 : decode method_2_code 101 = .ok (.dup, 1) := by decide +kernel
theorem d2_102 : decode method_2_code 102 = .ok (.bipush 15, 2) := by decide +kernel
theorem d2_104 : decode method_2_code 104 = .ok (.ldc2_w 35, 3) := by decide +kernel
theorem d2_107 : decode method_2_code 107 = .ok (.lastore, 1) := by decide +kernel
theorem d2_108 : decode method_2_code 108 = .ok (.dup, 1) := by decide +kernel
theorem d2_109 : decode method_2_code 109 = .ok (.bipush 16, 2) := by decide +kernel
theorem d2_111 : decode method_2_code 111 = .ok (.ldc2_w 37, 3) := by decide +kernel
theorem d2_114 : decode method_2_code 114 = .ok (.lastore, 1) := by decide +kernel
theorem d2_115 : decode method_2_code 115 = .ok (.dup, 1) := by decide +kernel
theorem d2_116 : decode method_2_code 116 = .ok (.bipush 17, 2) := by decide +kernel
theorem d2_118 : decode method_2_code 118 = .ok (.ldc2_w 39, 3) := by decide +kernel
theorem d2_121 : decode method_2_code 121 = .ok (.lastore, 1) := by decide +kernel
theorem d2_122 : decode method_2_code 122 = .ok (.dup, 1) := by decide +kernel
theorem d2_123 : decode method_2_code 123 = .ok (.bipush 18, 2) := by decide +kernel
theorem d2_125 : decode method_2_code 125 = .ok (.ldc2_w 41, 3) := by decide +kernel
theorem d2_128 : decode method_2_code 128 = .ok (.lastore, 1) := by decide +kernel
theorem d2_129 : decode method_2_code 129 = .ok (.astore_n 1, 1) := by decide +kernel
theorem d2_130 : decode method_2_code 130 = .ok (.aload_n 1, 1) := by decide +kernel
theorem d2_131 : decode method_2_code 131 = .ok (.iload_n 0, 1) := by decide +kernel
theorem d2_132 : decode method_2_code 132 = .ok (.laload, 1) := by decide +kernel
theorem d2_133 : decode method_2_code 133 = .ok (.lreturn, 1) := by decide +kernel
theorem pn_2 : plainName "com/example/relent/relent/WholeNumbersUnsignedPinLaw" = true := by first | (simp [plainName, overriddenIn]; done) | decide +kernel
theorem ef_2 (m : MethodId) (x0 : Int32) : entryFrame m #[(.int x0)] 2 = mkF m 0 #[.val (.int x0), .unset] [] := by first | (simp [entryFrame, mkF, argsToLocals, Value.category]; done) | rfl
def Q2 (Z : State) (p1 : Int32) (kp : Nat) (h0 : Heap) (n0 : Nat) (v : Option Value) (h : Heap) (L : List Loc) : Prop := v = some (.long (own_p10 kp)) ∧ Fr n0 L ∧ Keep h0 h []
set_option maxRecDepth 65536 in
set_option maxHeartbeats 40000000 in
theorem rm2 (l : Launch) (Z : State) (a0 : Array Value) (hw : ∀ d ∈ tables_1, d.before a0 Z = true) (ws : List Jvm.Cond) (p1 : Int32) (kp : Nat) (h0 : Heap) (n0 : Nat) (Z0 : n0 ≤ h0.size) (hp1 : p1.toInt = (kp : Int)) (hp2 : kp < 19) :
    MetFree l (⟨"com/example/relent/relent/WholeNumbersUnsignedPinLaw", "pow10", "(I)J"⟩ : MethodName) (head1 (Jvm.Cond.code (⟨"com/example/relent/relent/WholeNumbersUnsignedPinLaw", "pow10", "(I)J"⟩ : MethodName) method_2_code 2 (some .long) :: ws) ({ frames := 0, cells := 1, slots := 19, locals := 0 } : Room)) (fun a U => a = #[(.int p1)] ∧ Z.Warmed39 U.vm ∧ U.heap = h0) (fun _ _ _ _ _ => True) (fun _ U o U' => ∃ v L, o = .returned v ∧ Q2 Z p1 kp h0 n0 v U'.heap L ∧ FrameEnd U o U' L ({ frames := 0, cells := 1, slots := 19, locals := 0 } : Room).cells ({ frames := 0, cells := 1, slots := 19, locals := 0 } : Room).slots) := by
  refine MetFree.of_bodySF (plainFor_of_name pn_2) hisR ?_
  intro p e s m args below meth c s₁ Bd hml0 hP hK
  obtain ⟨rfl, hZ, hh⟩ := hP
  have hx := Bd.exec
  have hby := Bd.bytes
  have hml : c.maxLocals = 2 := hml0
  have hown : s.vm.findClass "com/example/relent/relent/WholeNumbersUnsignedPinLaw" = some m.cls := findClass_of_methodNamed Bd.named
  have hnm := (name_of_methodNamed Bd.named Bd.method).1
  have X0 : Stand p l e ({ frames := 0, cells := 1, slots := 19, locals := 0 } : Room) s m #[(.int p1)] below meth c s₁ [] 0 0 := Stand.of_body Bd
  have e0 : s₁.heap = h0 := by rw [← hh, Bd.state]; rfl
  have N0 := Fr.nil n0
  have pre0 : ∀ t, Steps p.tables e below (s₁.setTop (mkF m 0 #[.val (.int p1), .unset] [])) t → Steps p.tables e below (s₁.setTop (entryFrame m #[(.int p1)] 2)) t := fun t k => castTop (ef_2 m p1) k
  obtain ⟨T1, gh1, k1, X1, hE1, E1, A1, st1⟩ := newP X0 hx hZ (hw _ (List.mem_of_getElem? (i := 8) rfl)) e0 (g := (mkF m 2 #[.val (.int p1), .unset] [(.int (19 : Int32))])) rfl (hb hby d2_2) rfl (by decide) (cap := 19) (by decide) (by decide) (by decide) (by decide)
  obtain ⟨ap, g1⟩ : ∃ z, z = h0.size := ⟨_, rfl⟩
  rw [← g1] at A1 st1
  have g_ap : n0 ≤ ap := Nat.le_trans Z0 (Nat.le_of_eq g1.symm)
  have sz_ap : h0.size ≤ ap := Nat.le_trans (Keep.refl h0 []).1 (Nat.le_of_eq g1.symm)
  have Z2 := Nat.le_trans Z0 E1.1
  have K3 := (Keep.refl h0 []).ext E1
  have V1 : owAJ Z gh1 ap .long 19 (fun _ => 0) := owAJ.new A1 rfl rfl
  obtain ⟨T4, gh4, X4, hE4, W4, V4, st4⟩ := owStJ X1 hx hZ hE1 V1 (k := 0) (j := (0 : Int32)) rfl (by decide) (g := (mkF m 7 #[.val (.int p1), .unset] [(.long (1 : Int64)), (.int (0 : Int32)), (.ref ap), (.ref ap)])) rfl rfl (hb hby d2_7)
  have Z6 := Nat.le_trans Z2 (Keep.of_wr W4).1
  have N7 := Fr.snoc X4 N0 g_ap
  have K8 := K3.wr W4 (Or.inr sz_ap)
  obtain ⟨T9, gh9, X9, hE9, W9, V9, st9⟩ := owStJ X4 hx hZ hE4 V4 (k := 1) (j := (1 : Int32)) rfl (by decide) (g := (mkF m 13 #[.val (.int p1), .unset] [(.long (10 : Int64)), (.int (1 : Int32)), (.ref ap), (.ref ap)])) rfl rfl (hb hby d2_13)
  have Z11 := Nat.le_trans Z6 (Keep.of_wr W9).1
  have N12 := Fr.snoc X9 N7 g_ap
  have K13 := K8.wr W9 (Or.inr sz_ap)
  obtain ⟨T14, gh14, X14, hE14, W14, V14, st14⟩ := owStJ X9 hx hZ hE9 V9 (k := 2) (j := (2 : Int32)) rfl (by decide) (g := (mkF m 19 #[.val (.int p1), .unset] [(.long (100 : Int64)), (.int (2 : Int32)), (.ref ap), (.ref ap)])) rfl rfl (hb hby d2_19)
  have Z16 := Nat.le_trans Z11 (Keep.of_wr W14).1
  have N17 := Fr.snoc X14 N12 g_ap
  have K18 := K13.wr W14 (Or.inr sz_ap)
  obtain ⟨T19, gh19, X19, hE19, W19, V19, st19⟩ := owStJ X14 hx hZ hE14 V14 (k := 3) (j := (3 : Int32)) rfl (by decide) (g := (mkF m 25 #[.val (.int p1), .unset] [(.long (1000 : Int64)), (.int (3 : Int32)), (.ref ap), (.ref ap)])) rfl rfl (hb hby d2_25)
  have Z21 := Nat.le_trans Z16 (Keep.of_wr W19).1
  have N22 := Fr.snoc X19 N17 g_ap
  have K23 := K18.wr W19 (Or.inr sz_ap)
  obtain ⟨T24, gh24, X24, hE24, W24, V24, st24⟩ := owStJ X19 hx hZ hE19 V19 (k := 4) (j := (4 : Int32)) rfl (by decide) (g := (mkF m 31 #[.val (.int p1), .unset] [(.long (10000 : Int64)), (.int (4 : Int32)), (.ref ap), (.ref ap)])) rfl rfl (hb hby d2_31)
  have Z26 := Nat.le_trans Z21 (Keep.of_wr W24).1
  have N27 := Fr.snoc X24 N22 g_ap
  have K28 := K23.wr W24 (Or.inr sz_ap)
  obtain ⟨T29, gh29, X29, hE29, W29, V29, st29⟩ := owStJ X24 hx hZ hE24 V24 (k := 5) (j := (5 : Int32)) rfl (by decide) (g := (mkF m 37 #[.val (.int p1), .unset] [(.long (100000 : Int64)), (.int (5 : Int32)), (.ref ap), (.ref ap)])) rfl rfl (hb hby d2_37)
  have Z31 := Nat.le_trans Z26 (Keep.of_wr W29).1
  have N32 := Fr.snoc X29 N27 g_ap
  have K33 := K28.wr W29 (Or.inr sz_ap)
  obtain ⟨T34, gh34, X34, hE34, W34, V34, st34⟩ := owStJ X29 hx hZ hE29 V29 (k := 6) (j := (6 : Int32)) rfl (by decide) (g := (mkF m 44 #[.val (.int p1), .unset] [(.long (1000000 : Int64)), (.int (6 : Int32)), (.ref ap), (.ref ap)])) rfl rfl (hb hby d2_44)
  have Z36 := Nat.le_trans Z31 (Keep.of_wr W34).1
  have N37 := Fr.snoc X34 N32 g_ap
  have K38 := K33.wr W34 (Or.inr sz_ap)
  obtain ⟨T39, gh39, X39, hE39, W39, V39, st39⟩ := owStJ X34 hx hZ hE34 V34 (k := 7) (j := (7 : Int32)) rfl (by decide) (g := (mkF m 51 #[.val (.int p1), .unset] [(.long (10000000 : Int64)), (.int (7 : Int32)), (.ref ap), (.ref ap)])) rfl rfl (hb hby d2_51)
  have Z41 := Nat.le_trans Z36 (Keep.of_wr W39).1
  have N42 := Fr.snoc X39 N37 g_ap
  have K43 := K38.wr W39 (Or.inr sz_ap)
  obtain ⟨T44, gh44, X44, hE44, W44, V44, st44⟩ := owStJ X39 hx hZ hE39 V39 (k := 8) (j := (8 : Int32)) rfl (by decide) (g := (mkF m 58 #[.val (.int p1), .unset] [(.long (100000000 : Int64)), (.int (8 : Int32)), (.ref ap), (.ref ap)])) rfl rfl (hb hby d2_58)
  have Z46 := Nat.le_trans Z41 (Keep.of_wr W44).1
  have N47 := Fr.snoc X44 N42 g_ap
  have K48 := K43.wr W44 (Or.inr sz_ap)
  obtain ⟨T49, gh49, X49, hE49, W49, V49, st49⟩ := owStJ X44 hx hZ hE44 V44 (k := 9) (j := (9 : Int32)) rfl (by decide) (g := (mkF m 65 #[.val (.int p1), .unset] [(.long (1000000000 : Int64)), (.int (9 : Int32)), (.ref ap), (.ref ap)])) rfl rfl (hb hby d2_65)
  have Z51 := Nat.le_trans Z46 (Keep.of_wr W49).1
  have N52 := Fr.snoc X49 N47 g_ap
  have K53 := K48.wr W49 (Or.inr sz_ap)
  obtain ⟨T54, gh54, X54, hE54, W54, V54, st54⟩ := owStJ X49 hx hZ hE49 V49 (k := 10) (j := (10 : Int32)) rfl (by decide) (g := (mkF m 72 #[.val (.int p1), .unset] [(.long (10000000000 : Int64)), (.int (10 : Int32)), (.ref ap), (.ref ap)])) rfl rfl (hb hby d2_72)
  have Z56 := Nat.le_trans Z51 (Keep.of_wr W54).1
  have N57 := Fr.snoc X54 N52 g_ap
  have K58 := K53.wr W54 (Or.inr sz_ap)
  obtain ⟨T59, gh59, X59, hE59, W59, V59, st59⟩ := owStJ X54 hx hZ hE54 V54 (k := 11) (j := (11 : Int32)) rfl (by decide) (g := (mkF m 79 #[.val (.int p1), .unset] [(.long (100000000000 : Int64)), (.int (11 : Int32)), (.ref ap), (.ref ap)])) rfl rfl (hb hby d2_79)
  have Z61 := Nat.le_trans Z56 (Keep.of_wr W59).1
  have N62 := Fr.snoc X59 N57 g_ap
  have K63 := K58.wr W59 (Or.inr sz_ap)
  obtain ⟨T64, gh64, X64, hE64, W64, V64, st64⟩ := owStJ X59 hx hZ hE59 V59 (k := 12) (j := (12 : Int32)) rfl (by decide) (g := (mkF m 86 #[.val (.int p1), .unset] [(.long (1000000000000 : Int64)), (.int (12 : Int32)), (.ref ap), (.ref ap)])) rfl rfl (hb hby d2_86)
  have Z66 := Nat.le_trans Z61 (Keep.of_wr W64).1
  have N67 := Fr.snoc X64 N62 g_ap
  have K68 := K63.wr W64 (Or.inr sz_ap)
  obtain ⟨T69, gh69, X69, hE69, W69, V69, st69⟩ := owStJ X64 hx hZ hE64 V64 (k := 13) (j := (13 : Int32)) rfl (by decide) (g := (mkF m 93 #[.val (.int p1), .unset] [(.long (10000000000000 : Int64)), (.int (13 : Int32)), (.ref ap), (.ref ap)])) rfl rfl (hb hby d2_93)
  have Z71 := Nat.le_trans Z66 (Keep.of_wr W69).1
  have N72 := Fr.snoc X69 N67 g_ap
  have K73 := K68.wr W69 (Or.inr sz_ap)
  obtain ⟨T74, gh74, X74, hE74, W74, V74, st74⟩ := owStJ X69 hx hZ hE69 V69 (k := 14) (j := (14 : Int32)) rfl (by decide) (g := (mkF m 100 #[.val (.int p1), .unset] [(.long (100000000000000 : Int64)), (.int (14 : Int32)), (.ref ap), (.ref ap)])) rfl rfl (hb hby d2_100)
  have Z76 := Nat.le_trans Z71 (Keep.of_wr W74).1
  have N77 := Fr.snoc X74 N72 g_ap
  have K78 := K73.wr W74 (Or.inr sz_ap)
  obtain ⟨T79, gh79, X79, hE79, W79, V79, st79⟩ := owStJ X74 hx hZ hE74 V74 (k := 15) (j := (15 : Int32)) rfl (by decide) (g := (mkF m 107 #[.val (.int p1), .unset] [(.long (1000000000000000 : Int64)), (.int (15 : Int32)), (.ref ap), (.ref ap)])) rfl rfl (hb hby d2_107)
  have Z81 := Nat.le_trans Z76 (Keep.of_wr W79).1
  have N82 := Fr.snoc X79 N77 g_ap
  have K83 := K78.wr W79 (Or.inr sz_ap)
  obtain ⟨T84, gh84, X84, hE84, W84, V84, st84⟩ := owStJ X79 hx hZ hE79 V79 (k := 16) (j := (16 : Int32)) rfl (by decide) (g := (mkF m 114 #[.val (.int p1), .unset] [(.long (10000000000000000 : Int64)), (.int (16 : Int32)), (.ref ap), (.ref ap)])) rfl rfl (hb hby d2_114)
  have Z86 := Nat.le_trans Z81 (Keep.of_wr W84).1
  have N87 := Fr.snoc X84 N82 g_ap
  have K88 := K83.wr W84 (Or.inr sz_ap)
  obtain ⟨T89, gh89, X89, hE89, W89, V89, st89⟩ := owStJ X84 hx hZ hE84 V84 (k := 17) (j := (17 : Int32)) rfl (by decide) (g := (mkF m 121 #[.val (.int p1), .unset] [(.long (100000000000000000 : Int64)), (.int (17 : Int32)), (.ref ap), (.ref ap)])) rfl rfl (hb hby d2_121)
  have Z91 := Nat.le_trans Z86 (Keep.of_wr W89).1
  have N92 := Fr.snoc X89 N87 g_ap
  have K93 := K88.wr W89 (Or.inr sz_ap)
  obtain ⟨T94, gh94, X94, hE94, W94, V94, st94⟩ := owStJ X89 hx hZ hE89 V89 (k := 18) (j := (18 : Int32)) rfl (by decide) (g := (mkF m 128 #[.val (.int p1), .unset] [(.long (1000000000000000000 : Int64)), (.int (18 : Int32)), (.ref ap), (.ref ap)])) rfl rfl (hb hby d2_128)
  have Z96 := Nat.le_trans Z91 (Keep.of_wr W94).1
  have N97 := Fr.snoc X94 N92 g_ap
  have K98 := K93.wr W94 (Or.inr sz_ap)
  have pre99 : ∀ t, Steps p.tables e below (T94.setTop (mkF m 133 #[.val (.int p1), .val (.ref ap)] [(.long ((owUp (owUp (owUp (owUp (owUp (owUp (owUp (owUp (owUp (owUp (owUp (owUp (owUp (owUp (owUp (owUp (owUp (owUp (owUp (fun _ => 0) 0 (1 : Int64)) 1 (10 : Int64)) 2 (100 : Int64)) 3 (1000 : Int64)) 4 (10000 : Int64)) 5 (100000 : Int64)) 6 (1000000 : Int64)) 7 (10000000 : Int64)) 8 (100000000 : Int64)) 9 (1000000000 : Int64)) 10 (10000000000 : Int64)) 11 (100000000000 : Int64)) 12 (1000000000000 : Int64)) 13 (10000000000000 : Int64)) 14 (100000000000000 : Int64)) 15 (1000000000000000 : Int64)) 16 (10000000000000000 : Int64)) 17 (100000000000000000 : Int64)) 18 (1000000000000000000 : Int64)) kp))])) t → Steps p.tables e below (s₁.setTop (entryFrame m #[(.int p1)] 2)) t := by
    intro t kt
    refine pre0 _ ?_
    show Steps p.tables e below (s₁.setTop (mkF m 0 #[.val (.int p1), .unset] [])) _
    refine XS.bipush X0.here hx rfl (hb hby d2_0) ?_
    show Steps p.tables e below (s₁.setTop (mkF m 2 #[.val (.int p1), .unset] [(.int (19 : Int32))])) _
    refine st1 _ ?_
    show Steps p.tables e below (T1.setTop (mkF m 4 #[.val (.int p1), .unset] [(.ref ap)])) _
    refine XS.dup X1.here hx rfl (hb hby d2_4) rfl rfl ?_
    show Steps p.tables e below (T1.setTop (mkF m 5 #[.val (.int p1), .unset] [(.ref ap), (.ref ap)])) _
    refine XS.iconst X1.here hx rfl (hb hby d2_5) ?_
    show Steps p.tables e below (T1.setTop (mkF m 6 #[.val (.int p1), .unset] [(.int (0 : Int32)), (.ref ap), (.ref ap)])) _
    refine XS.lconst X1.here hx rfl (hb hby d2_6) ?_
    show Steps p.tables e below (T1.setTop (mkF m 7 #[.val (.int p1), .unset] [(.long (1 : Int64)), (.int (0 : Int32)), (.ref ap), (.ref ap)])) _
    refine st4 _ ?_
    show Steps p.tables e below (T4.setTop (mkF m 8 #[.val (.int p1), .unset] [(.ref ap)])) _
    refine XS.dup X4.here hx rfl (hb hby d2_8) rfl rfl ?_
    show Steps p.tables e below (T4.setTop (mkF m 9 #[.val (.int p1), .unset] [(.ref ap), (.ref ap)])) _
    refine XS.iconst X4.here hx rfl (hb hby d2_9) ?_
    show Steps p.tables e below (T4.setTop (mkF m 10 #[.val (.int p1), .unset] [(.int (1 : Int32)), (.ref ap), (.ref ap)])) _
    refine Stand.ldc2J (g := (mkF m 10 #[.val (.int p1), .unset] [(.int (1 : Int32)), (.ref ap), (.ref ap)])) X4 hx hown (mvT hZ (hw _ (List.mem_of_getElem? (i := 9) rfl))) rfl (hb hby d2_10) ?_
    show Steps p.tables e below (T4.setTop (mkF m 13 #[.val (.int p1), .unset] [(.long (10 : Int64)), (.int (1 : Int32)), (.ref ap), (.ref ap)])) _
    refine st9 _ ?_
    show Steps p.tables e below (T9.setTop (mkF m 14 #[.val (.int p1), .unset] [(.ref ap)])) _
    refine XS.dup X9.here hx rfl (hb hby d2_14) rfl rfl ?_
    show Steps p.tables e below (T9.setTop (mkF m 15 #[.val (.int p1), .unset] [(.ref ap), (.ref ap)])) _
    refine XS.iconst X9.here hx rfl (hb hby d2_15) ?_
    show Steps p.tables e below (T9.setTop (mkF m 16 #[.val (.int p1), .unset] [(.int (2 : Int32)), (.ref ap), (.ref ap)])) _
    refine Stand.ldc2J (g := (mkF m 16 #[.val (.int p1), .unset] [(.int (2 : Int32)), (.ref ap), (.ref ap)])) X9 hx hown (mvT hZ (hw _ (List.mem_of_getElem? (i := 10) rfl))) rfl (hb hby d2_16) ?_
    show Steps p.tables e below (T9.setTop (mkF m 19 #[.val (.int p1), .unset] [(.long (100 : Int64)), (.int (2 : Int32)), (.ref ap), (.ref ap)])) _
    refine st14 _ ?_
    show Steps p.tables e below (T14.setTop (mkF m 20 #[.val (.int p1), .unset] [(.ref ap)])) _
    refine XS.dup X14.here hx rfl (hb hby d2_20) rfl rfl ?_
    show Steps p.tables e below (T14.setTop (mkF m 21 #[.val (.int p1), .unset] [(.ref ap), (.ref ap)])) _
    refine XS.iconst X14.here hx rfl (hb hby d2_21) ?_
    show Steps p.tables e below (T14.setTop (mkF m 22 #[.val (.int p1), .unset] [(.int (3 : Int32)), (.ref ap), (.ref ap)])) _
    refine Stand.ldc2J (g := (mkF m 22 #[.val (.int p1), .unset] [(.int (3 : Int32)), (.ref ap), (.ref ap)])) X14 hx hown (mvT hZ (hw _ (List.mem_of_getElem? (i := 11) rfl))) rfl (hb hby d2_22) ?_
    show Steps p.tables e below (T14.setTop (mkF m 25 #[.val (.int p1), .unset] [(.long (1000 : Int64)), (.int (3 : Int32)), (.ref ap), (.ref ap)])) _
    refine st19 _ ?_
    show Steps p.tables e below (T19.setTop (mkF m 26 #[.val (.int p1), .unset] [(.ref ap)])) _
    refine XS.dup X19.here hx rfl (hb hby d2_26) rfl rfl ?_
    show Steps p.tables e below (T19.setTop (mkF m 27 #[.val (.int p1), .unset] [(.ref ap), (.ref ap)])) _
    refine XS.iconst X19.here hx rfl (hb hby d2_27) ?_
    show Steps p.tables e below (T19.setTop (mkF m 28 #[.val (.int p1), .unset] [(.int (4 : Int32)), (.ref ap), (.ref ap)])) _
    refine Stand.ldc2J (g := (mkF m 28 #[.val (.int p1), .unset] [(.int (4 : Int32)), (.ref ap), (.ref ap)])) X19 hx hown (mvT hZ (hw _ (List.mem_of_getElem? (i := 12) rfl))) rfl (hb hby d2_28) ?_
    show Steps p.tables e below (T19.setTop (mkF m 31 #[.val (.int p1), .unset] [(.long (10000 : Int64)), (.int (4 : Int32)), (.ref ap), (.ref ap)])) _
    refine st24 _ ?_
    show Steps p.tables e below (T24.setTop (mkF m 32 #[.val (.int p1), .unset] [(.ref ap)])) _
    refine XS.dup X24.here hx rfl (hb hby d2_32) rfl rfl ?_
    show Steps p.tables e below (T24.setTop (mkF m 33 #[.val (.int p1), .unset] [(.ref ap), (.ref ap)])) _
    refine XS.iconst X24.here hx rfl (hb hby d2_33) ?_
    show Steps p.tables e below (T24.setTop (mkF m 34 #[.val (.int p1), .unset] [(.int (5 : Int32)), (.ref ap), (.ref ap)])) _
    refine Stand.ldc2J (g := (mkF m 34 #[.val (.int p1), .unset] [(.int (5 : Int32)), (.ref ap), (.ref ap)])) X24 hx hown (mvT hZ (hw _ (List.mem_of_getElem? (i := 13) rfl))) rfl (hb hby d2_34) ?_
    show Steps p.tables e below (T24.setTop (mkF m 37 #[.val (.int p1), .unset] [(.long (100000 : Int64)), (.int (5 : Int32)), (.ref ap), (.ref ap)])) _
    refine st29 _ ?_
    show Steps p.tables e below (T29.setTop (mkF m 38 #[.val (.int p1), .unset] [(.ref ap)])) _
    refine XS.dup X29.here hx rfl (hb hby d2_38) rfl rfl ?_
    show Steps p.tables e below (T29.setTop (mkF m 39 #[.val (.int p1), .unset] [(.ref ap), (.ref ap)])) _
    refine XS.bipush X29.here hx rfl (hb hby d2_39) ?_
    show Steps p.tables e below (T29.setTop (mkF m 41 #[.val (.int p1), .unset] [(.int (6 : Int32)), (.ref ap), (.ref ap)])) _
    refine Stand.ldc2J (g := (mkF m 41 #[.val (.int p1), .unset] [(.int (6 : Int32)), (.ref ap), (.ref ap)])) X29 hx hown (mvT hZ (hw _ (List.mem_of_getElem? (i := 14) rfl))) rfl (hb hby d2_41) ?_
    show Steps p.tables e below (T29.setTop (mkF m 44 #[.val (.int p1), .unset] [(.long (1000000 : Int64)), (.int (6 : Int32)), (.ref ap), (.ref ap)])) _
    refine st34 _ ?_
    show Steps p.tables e below (T34.setTop (mkF m 45 #[.val (.int p1), .unset] [(.ref ap)])) _
    refine XS.dup X34.here hx rfl (hb hby d2_45) rfl rfl ?_
    show Steps p.tables e below (T34.setTop (mkF m 46 #[.val (.int p1), .unset] [(.ref ap), (.ref ap)])) _
    refine XS.bipush X34.here hx rfl (hb hby d2_46) ?_
    show Steps p.tables e below (T34.setTop (mkF m 48 #[.val (.int p1), .unset] [(.int (7 : Int32)), (.ref ap), (.ref ap)])) _
    refine Stand.ldc2J (g := (mkF m 48 #[.val (.int p1), .unset] [(.int (7 : Int32)), (.ref ap), (.ref ap)])) X34 hx hown (mvT hZ (hw _ (List.mem_of_getElem? (i := 15) rfl))) rfl (hb hby d2_48) ?_
    show Steps p.tables e below (T34.setTop (mkF m 51 #[.val (.int p1), .unset] [(.long (10000000 : Int64)), (.int (7 : Int32)), (.ref ap), (.ref ap)])) _
    refine st39 _ ?_
    show Steps p.tables e below (T39.setTop (mkF m 52 #[.val (.int p1), .unset] [(.ref ap)])) _
    refine XS.dup X39.here hx rfl (hb hby d2_52) rfl rfl ?_
    show Steps p.tables e below (T39.setTop (mkF m 53 #[.val (.int p1), .unset] [(.ref ap), (.ref ap)])) _
    refine XS.bipush X39.here hx rfl (hb hby d2_53) ?_
    show Steps p.tables e below (T39.setTop (mkF m 55 #[.val (.int p1), .unset] [(.int (8 : Int32)), (.ref ap), (.ref ap)])) _
    refine Stand.ldc2J (g := (mkF m 55 #[.val (.int p1), .unset] [(.int (8 : Int32)), (.ref ap), (.ref ap)])) X39 hx hown (mvT hZ (hw _ (List.mem_of_getElem? (i := 16) rfl))) rfl (hb hby d2_55) ?_
    show Steps p.tables e below (T39.setTop (mkF m 58 #[.val (.int p1), .unset] [(.long (100000000 : Int64)), (.int (8 : Int32)), (.ref ap), (.ref ap)])) _
    refine st44 _ ?_
    show Steps p.tables e below (T44.setTop (mkF m 59 #[.val (.int p1), .unset] [(.ref ap)])) _
    refine XS.dup X44.here hx rfl (hb hby d2_59) rfl rfl ?_
    show Steps p.tables e below (T44.setTop (mkF m 60 #[.val (.int p1), .unset] [(.ref ap), (.ref ap)])) _
    refine XS.bipush X44.here hx rfl (hb hby d2_60) ?_
    show Steps p.tables e below (T44.setTop (mkF m 62 #[.val (.int p1), .unset] [(.int (9 : Int32)), (.ref ap), (.ref ap)])) _
    refine Stand.ldc2J (g := (mkF m 62 #[.val (.int p1), .unset] [(.int (9 : Int32)), (.ref ap), (.ref ap)])) X44 hx hown (mvT hZ (hw _ (List.mem_of_getElem? (i := 17) rfl))) rfl (hb hby d2_62) ?_
    show Steps p.tables e below (T44.setTop (mkF m 65 #[.val (.int p1), .unset] [(.long (1000000000 : Int64)), (.int (9 : Int32)), (.ref ap), (.ref ap)])) _
    refine st49 _ ?_
    show Steps p.tables e below (T49.setTop (mkF m 66 #[.val (.int p1), .unset] [(.ref ap)])) _
    refine XS.dup X49.here hx rfl (hb hby d2_66) rfl rfl ?_
    show Steps p.tables e below (T49.setTop (mkF m 67 #[.val (.int p1), .unset] [(.ref ap), (.ref ap)])) _
    refine XS.bipush X49.here hx rfl (hb hby d2_67) ?_
    show Steps p.tables e below (T49.setTop (mkF m 69 #[.val (.int p1), .unset] [(.int (10 : Int32)), (.ref ap), (.ref ap)])) _
    refine Stand.ldc2J (g := (mkF m 69 #[.val (.int p1), .unset] [(.int (10 : Int32)), (.ref ap), (.ref ap)])) X49 hx hown (mvT hZ (hw _ (List.mem_of_getElem? (i := 18) rfl))) rfl (hb hby d2_69) ?_
    show Steps p.tables e below (T49.setTop (mkF m 72 #[.val (.int p1), .unset] [(.long (10000000000 : Int64)), (.int (10 : Int32)), (.ref ap), (.ref ap)])) _
    refine st54 _ ?_
    show Steps p.tables e below (T54.setTop (mkF m 73 #[.val (.int p1), .unset] [(.ref ap)])) _
    refine XS.dup X54.here hx rfl (hb hby d2_73) rfl rfl ?_
    show Steps p.tables e below (T54.setTop (mkF m 74 #[.val (.int p1), .unset] [(.ref ap), (.ref ap)])) _
    refine XS.bipush X54.here hx rfl (hb hby d2_74) ?_
    show Steps p.tables e below (T54.setTop (mkF m 76 #[.val (.int p1), .unset] [(.int (11 : Int32)), (.ref ap), (.ref ap)])) _
    refine Stand.ldc2J (g := (mkF m 76 #[.val (.int p1), .unset] [(.int (11 : Int32)), (.ref ap), (.ref ap)])) X54 hx hown (mvT hZ (hw _ (List.mem_of_getElem? (i := 19) rfl))) rfl (hb hby d2_76) ?_
    show Steps p.tables e below (T54.setTop (mkF m 79 #[.val (.int p1), .unset] [(.long (100000000000 : Int64)), (.int (11 : Int32)), (.ref ap), (.ref ap)])) _
    refine st59 _ ?_
    show Steps p.tables e below (T59.setTop (mkF m 80 #[.val (.int p1), .unset] [(.ref ap)])) _
    refine XS.dup X59.here hx rfl (hb hby d2_80) rfl rfl ?_
    show Steps p.tables e below (T59.setTop (mkF m 81 #[.val (.int p1), .unset] [(.ref ap), (.ref ap)])) _
    refine XS.bipush X59.here hx rfl (hb hby d2_81) ?_
    show Steps p.tables e below (T59.setTop (mkF m 83 #[.val (.int p1), .unset] [(.int (12 : Int32)), (.ref ap), (.ref ap)])) _
    refine Stand.ldc2J (g := (mkF m 83 #[.val (.int p1), .unset] [(.int (12 : Int32)), (.ref ap), (.ref ap)])) X59 hx hown (mvT hZ (hw _ (List.mem_of_getElem? (i := 20) rfl))) rfl (hb hby d2_83) ?_
    show Steps p.tables e below (T59.setTop (mkF m 86 #[.val (.int p1), .unset] [(.long (1000000000000 : Int64)), (.int (12 : Int32)), (.ref ap), (.ref ap)])) _
    refine st64 _ ?_
    show Steps p.tables e below (T64.setTop (mkF m 87 #[.val (.int p1), .unset] [(.ref ap)])) _
    refine XS.dup X64.here hx rfl (hb hby d2_87) rfl rfl ?_
    show Steps p.tables e below (T64.setTop (mkF m 88 #[.val (.int p1), .unset] [(.ref ap), (.ref ap)])) _
    refine XS.bipush X64.here hx rfl (hb hby d2_88) ?_
    show Steps p.tables e below (T64.setTop (mkF m 90 #[.val (.int p1), .unset] [(.int (13 : Int32)), (.ref ap), (.ref ap)])) _
    refine Stand.ldc2J (g := (mkF m 90 #[.val (.int p1), .unset] [(.int (13 : Int32)), (.ref ap), (.ref ap)])) X64 hx hown (mvT hZ (hw _ (List.mem_of_getElem? (i := 21) rfl))) rfl (hb hby d2_90) ?_
    show Steps p.tables e below (T64.setTop (mkF m 93 #[.val (.int p1), .unset] [(.long (10000000000000 : Int64)), (.int (13 : Int32)), (.ref ap), (.ref ap)])) _
    refine st69 _ ?_
    show Steps p.tables e below (T69.setTop (mkF m 94 #[.val (.int p1), .unset] [(.ref ap)])) _
    refine XS.dup X69.here hx rfl (hb hby d2_94) rfl rfl ?_
    show Steps p.tables e below (T69.setTop (mkF m 95 #[.val (.int p1), .unset] [(.ref ap), (.ref ap)])) _
    refine XS.bipush X69.here hx rfl (hb hby d2_95) ?_
    show Steps p.tables e below (T69.setTop (mkF m 97 #[.val (.int p1), .unset] [(.int (14 : Int32)), (.ref ap), (.ref ap)])) _
    refine Stand.ldc2J (g := (mkF m 97 #[.val (.int p1), .unset] [(.int (14 : Int32)), (.ref ap), (.ref ap)])) X69 hx hown (mvT hZ (hw _ (List.mem_of_getElem? (i := 22) rfl))) rfl (hb hby d2_97) ?_
    show Steps p.tables e below (T69.setTop (mkF m 100 #[.val (.int p1), .unset] [(.long (100000000000000 : Int64)), (.int (14 : Int32)), (.ref ap), (.ref ap)])) _
    refine st74 _ ?_
    show Steps p.tables e below (T74.setTop (mkF m 101 #[.val (.int p1), .unset] [(.ref ap)])) _
    refine XS.dup X74.here hx rfl (hb hby d2_101) rfl rfl ?_
    show Steps p.tables e below (T74.setTop (mkF m 102 #[.val (.int p1), .unset] [(.ref ap), (.ref ap)])) _
    refine XS.bipush X74.here hx rfl (hb hby d2_102) ?_
    show Steps p.tables e below (T74.setTop (mkF m 104 #[.val (.int p1), .unset] [(.int (15 : Int32)), (.ref ap), (.ref ap)])) _
    refine Stand.ldc2J (g := (mkF m 104 #[.val (.int p1), .unset] [(.int (15 : Int32)), (.ref ap), (.ref ap)])) X74 hx hown (mvT hZ (hw _ (List.mem_of_getElem? (i := 23) rfl))) rfl (hb hby d2_104) ?_
    show Steps p.tables e below (T74.setTop (mkF m 107 #[.val (.int p1), .unset] [(.long (1000000000000000 : Int64)), (.int (15 : Int32)), (.ref ap), (.ref ap)])) _
    refine st79 _ ?_
    show Steps p.tables e below (T79.setTop (mkF m 108 #[.val (.int p1), .unset] [(.ref ap)])) _
    refine XS.dup X79.here hx rfl (hb hby d2_108) rfl rfl ?_
    show Steps p.tables e below (T79.setTop (mkF m 109 #[.val (.int p1), .unset] [(.ref ap), (.ref ap)])) _
    refine XS.bipush X79.here hx rfl (hb hby d2_109) ?_
    show Steps p.tables e below (T79.setTop (mkF m 111 #[.val (.int p1), .unset] [(.int (16 : Int32)), (.ref ap), (.ref ap)])) _
    refine Stand.ldc2J (g := (mkF m 111 #[.val (.int p1), .unset] [(.int (16 : Int32)), (.ref ap), (.ref ap)])) X79 hx hown (mvT hZ (hw _ (List.mem_of_getElem? (i := 24) rfl))) rfl (hb hby d2_111) ?_
    show Steps p.tables e below (T79.setTop (mkF m 114 #[.val (.int p1), .unset] [(.long (10000000000000000 : Int64)), (.int (16 : Int32)), (.ref ap), (.ref ap)])) _
    refine st84 _ ?_
    show Steps p.tables e below (T84.setTop (mkF m 115 #[.val (.int p1), .unset] [(.ref ap)])) _
    refine XS.dup X84.here hx rfl (hb hby d2_115) rfl rfl ?_
    show Steps p.tables e below (T84.setTop (mkF m 116 #[.val (.int p1), .unset] [(.ref ap), (.ref ap)])) _
    refine XS.bipush X84.here hx rfl (hb hby d2_116) ?_
    show Steps p.tables e below (T84.setTop (mkF m 118 #[.val (.int p1), .unset] [(.int (17 : Int32)), (.ref ap), (.ref ap)])) _
    refine Stand.ldc2J (g := (mkF m 118 #[.val (.int p1), .unset] [(.int (17 : Int32)), (.ref ap), (.ref ap)])) X84 hx hown (mvT hZ (hw _ (List.mem_of_getElem? (i := 25) rfl))) rfl (hb hby d2_118) ?_
    show Steps p.tables e below (T84.setTop (mkF m 121 #[.val (.int p1), .unset] [(.long (100000000000000000 : Int64)), (.int (17 : Int32)), (.ref ap), (.ref ap)])) _
    refine st89 _ ?_
    show Steps p.tables e below (T89.setTop (mkF m 122 #[.val (.int p1), .unset] [(.ref ap)])) _
    refine XS.dup X89.here hx rfl (hb hby d2_122) rfl rfl ?_
    show Steps p.tables e below (T89.setTop (mkF m 123 #[.val (.int p1), .unset] [(.ref ap), (.ref ap)])) _
    refine XS.bipush X89.here hx rfl (hb hby d2_123) ?_
    show Steps p.tables e below (T89.setTop (mkF m 125 #[.val (.int p1), .unset] [(.int (18 : Int32)), (.ref ap), (.ref ap)])) _
    refine Stand.ldc2J (g := (mkF m 125 #[.val (.int p1), .unset] [(.int (18 : Int32)), (.ref ap), (.ref ap)])) X89 hx hown (mvT hZ (hw _ (List.mem_of_getElem? (i := 26) rfl))) rfl (hb hby d2_125) ?_
    show Steps p.tables e below (T89.setTop (mkF m 128 #[.val (.int p1), .unset] [(.long (1000000000000000000 : Int64)), (.int (18 : Int32)), (.ref ap), (.ref ap)])) _
    refine st94 _ ?_
    show Steps p.tables e below (T94.setTop (mkF m 129 #[.val (.int p1), .unset] [(.ref ap)])) _
    refine XS.astoreN X94.here hx rfl (hb hby d2_129) rfl rfl (l' := #[.val (.int p1), .val (.ref ap)]) rfl ?_
    show Steps p.tables e below (T94.setTop (mkF m 130 #[.val (.int p1), .val (.ref ap)] [])) _
    refine XS.aloadN X94.here hx rfl (hb hby d2_130) rfl rfl ?_
    show Steps p.tables e below (T94.setTop (mkF m 131 #[.val (.int p1), .val (.ref ap)] [(.ref ap)])) _
    refine XS.iloadN X94.here hx rfl (hb hby d2_131) rfl ?_
    show Steps p.tables e below (T94.setTop (mkF m 132 #[.val (.int p1), .val (.ref ap)] [(.int p1), (.ref ap)])) _
    refine owLdJ (k := kp) X94 hx hZ hE94 V94 (j := p1) hp1 hp2 (g := (mkF m 132 #[.val (.int p1), .val (.ref ap)] [(.int p1), (.ref ap)])) rfl rfl (hb hby d2_132) _ ?_
    exact kt
  obtain ⟨fs, hr, hrun, hended, hW, hsame⟩ := X94.leave (v := some (.long ((owUp (owUp (owUp (owUp (owUp (owUp (owUp (owUp (owUp (owUp (owUp (owUp (owUp (owUp (owUp (owUp (owUp (owUp (owUp (fun _ => 0) 0 (1 : Int64)) 1 (10 : Int64)) 2 (100 : Int64)) 3 (1000 : Int64)) 4 (10000 : Int64)) 5 (100000 : Int64)) 6 (1000000 : Int64)) 7 (10000000 : Int64)) 8 (100000000 : Int64)) 9 (1000000000 : Int64)) 10 (10000000000 : Int64)) 11 (100000000000 : Int64)) 12 (1000000000000 : Int64)) 13 (10000000000000 : Int64)) 14 (100000000000000 : Int64)) 15 (1000000000000000 : Int64)) 16 (10000000000000000 : Int64)) 17 (100000000000000000 : Int64)) 18 (1000000000000000000 : Int64)) kp))) (fun h => by rw [Bd.returns] at h; cases h)
  refine ⟨_, _, pre99 _ ?_, hrun, hended, _, _, rfl, ?_, ⟨_, rfl⟩, hW, hsame.mono (by decide) (by decide)⟩
  · show Steps p.tables e below (T94.setTop (mkF m 133 #[.val (.int p1), .val (.ref ap)] [(.long ((owUp (owUp (owUp (owUp (owUp (owUp (owUp (owUp (owUp (owUp (owUp (owUp (owUp (owUp (owUp (owUp (owUp (owUp (owUp (fun _ => 0) 0 (1 : Int64)) 1 (10 : Int64)) 2 (100 : Int64)) 3 (1000 : Int64)) 4 (10000 : Int64)) 5 (100000 : Int64)) 6 (1000000 : Int64)) 7 (10000000 : Int64)) 8 (100000000 : Int64)) 9 (1000000000 : Int64)) 10 (10000000000 : Int64)) 11 (100000000000 : Int64)) 12 (1000000000000 : Int64)) 13 (10000000000000 : Int64)) 14 (100000000000000 : Int64)) 15 (1000000000000000 : Int64)) 16 (10000000000000000 : Int64)) 17 (100000000000000000 : Int64)) 18 (1000000000000000000 : Int64)) kp))])) _
    exact X94.lreturnOut hx Bd.returns (hb hby d2_133) hr
  · show Q2 Z p1 kp h0 n0 _ T94.heap _
    rw [hE94]
    exact ⟨rfl, N97, K98⟩
theorem d3_0 : decode method_5_code 0 = .ok (.iload_n 0, 1) := by decide +kernel
theorem d3_1 : decode method_5_code 1 = .ok (.iload_n 1, 1) := by decide +kernel
theorem d3_2 : decode method_5_code 2 = .ok (.iconst 1, 1) := by decide +kernel
theorem d3_3 : decode method_5_code 3 = .ok (.isub, 1) := by decide +kernel
theorem d3_4 : decode method_5_code 4 = .ok (.if_icmp .ne 6, 3) := by decide +kernel
theorem d3_7 : decode method_5_code 7 = .ok (.iload 4, 2) := by decide +kernel
theorem d3_9 : decode method_5_code 9 = .ok (.ireturn, 1) := by decide +kernel
theorem d3_10 : decode method_5_code 10 = .ok (.iload_n 0, 1) := by decide +kernel
theorem d3_11 : decode method_5_code 11 = .ok (.ifCond .ne 5, 3) := by decide +kernel
theorem d3_14 : decode method_5_code 14 = .ok (.iload_n 2, 1) := by decide +kernel
theorem d3_15 : decode method_5_code 15 = .ok (.ireturn, 1) := by decide +kernel
theorem d3_16 : decode method_5_code 16 = .ok (.iload_n 0, 1) := by decide +kernel
theorem d3_17 : decode method_5_code 17 = .ok (.iload 5, 2) := by decide +kernel
theorem d3_19 : decode method_5_code 19 = .ok (.if_icmp .ne 5, 3) := by decide +kernel
theorem d3_22 : decode method_5_code 22 = .ok (.iload_n 3, 1) := by decide +kernel
theorem d3_23 : decode method_5_code 23 = .ok (.ireturn, 1) := by decide +kernel
theorem d3_24 : decode method_5_code 24 = .ok (.bipush 48, 2) := by decide +kernel
theorem d3_26 : decode method_5_code 26 = .ok (.lload 6, 2) := by decide +kernel
theorem d3_28 : decode method_5_code 28 = .ok (.iload_n 1, 1) := by decide +kernel
theorem d3_29 : decode method_5_code 29 = .ok (.iconst 2, 1) := by decide +kernel
theorem d3_30 : decode method_5_code 30 = .ok (.isub, 1) := by decide +kernel
theorem d3_31 : decode method_5_code 31 = .ok (.iload_n 0, 1) := by decide +kernel
theorem d3_32 : decode method_5_code 32 = .ok (.isub, 1) := by decide +kernel
theorem d3_33 : decode method_5_code 33 = .ok (.invokestatic 43, 3) := by decide +kernel
theorem d3_36 : decode method_5_code 36 = .ok (.ldiv, 1) := by decide +kernel
theorem d3_37 : decode method_5_code 37 = .ok (.ldc2_w 7, 3) := by decide +kernel
theorem d3_40 : decode method_5_code 40 = .ok (.lrem, 1) := by decide +kernel
theorem d3_41 : decode method_5_code 41 = .ok (.l2i, 1) := by decide +kernel
theorem d3_42 : decode method_5_code 42 = .ok (.iadd, 1) := by decide +kernel
theorem d3_43 : decode method_5_code 43 = .ok (.i2c, 1) := by decide +kernel
theorem d3_44 : decode method_5_code 44 = .ok (.ireturn, 1) := by decide +kernel
theorem pn_3 : plainName "com/example/relent/relent/WholeNumbersUnsignedPinLaw" = true := by first | (simp [plainName, overriddenIn]; done) | decide +kernel
theorem ef_3 (m : MethodId) (x0 : Int32) (x1 : Int32) (x2 : Int32) (x3 : Int32) (x4 : Int32) (x5 : Int32) (x6 : Int64) : entryFrame m #[(.int x0), (.int x1), (.int x2), (.int x3), (.int x4), (.int x5), (.long x6)] 8 = mkF m 0 #[.val (.int x0), .val (.int x1), .val (.int x2), .val (.int x3), .val (.int x4), .val (.int x5), .val (.long x6), .second] [] := by first | (simp [entryFrame, mkF, argsToLocals, Value.category]; done) | rfl
theorem pd_0 : parseMethodDescriptor "(I)J" = some ⟨[.int], some .long⟩ := by decide +kernel
def fn3 (p1 : Int32) (p2 : Int32) (p3 : Int32) (p4 : Int32) (p5 : Int32) (p6 : Int32) (q7 : Int64) (kk : Nat) : Int32 := (if p1 = (p2 - (1 : Int32)) then (nar .char p5) else (if p1 = (0 : Int32) then (nar .char p3) else (if p1 = p6 then (nar .char p4) else (nar .char (((48 : Int32) + (((q7 / (own_p10 kk)) - ((q7 / (own_p10 kk)) / (10 : Int64)) * (10 : Int64)).toInt32)).toUInt32.toUInt16.toUInt32.toInt32)))))
def Q3 (Z : State) (p1 : Int32) (p2 : Int32) (p3 : Int32) (p4 : Int32) (p5 : Int32) (p6 : Int32) (q7 : Int64) (kk : Nat) (h0 : Heap) (n0 : Nat) (v : Option Value) (h : Heap) (L : List Loc) : Prop := v = some (.int (fn3 p1 p2 p3 p4 p5 p6 q7 kk)) ∧ Fr n0 L ∧ Keep h0 h []
set_option maxRecDepth 65536 in
set_option maxHeartbeats 40000000 in
theorem rm3 (l : Launch) (Z : State) (a0 : Array Value) (hw : ∀ d ∈ tables_1, d.before a0 Z = true) (ws : List Jvm.Cond) (p1 : Int32) (p2 : Int32) (p3 : Int32) (p4 : Int32) (p5 : Int32) (p6 : Int32) (q7 : Int64) (kk : Nat) (h0 : Heap) (n0 : Nat) (Z0 : n0 ≤ h0.size) (hk : ¬ p1 = (p2 - (1 : Int32)) → ((p2 - (2 : Int32)) - p1).toInt = (kk : Int) ∧ kk < 19) :
    MetFree l (⟨"com/example/relent/relent/WholeNumbersUnsignedPinLaw", "at", "(IICCCIJ)C"⟩ : MethodName) (head1 (Jvm.Cond.code (⟨"com/example/relent/relent/WholeNumbersUnsignedPinLaw", "at", "(IICCCIJ)C"⟩ : MethodName) method_5_code 8 (some .char) :: ws) ({ frames := 1, cells := 1, slots := 19, locals := 16 } : Room)) (fun a U => a = #[(.int p1), (.int p2), (.int p3), (.int p4), (.int p5), (.int p6), (.long q7)] ∧ Z.Warmed39 U.vm ∧ U.heap = h0) (fun _ _ _ _ _ => True) (fun _ U o U' => ∃ v L, o = .returned v ∧ Q3 Z p1 p2 p3 p4 p5 p6 q7 kk h0 n0 v U'.heap L ∧ FrameEnd U o U' L ({ frames := 1, cells := 1, slots := 19, locals := 16 } : Room).cells ({ frames := 1, cells := 1, slots := 19, locals := 16 } : Room).slots) := by
  refine MetFree.of_bodySF (plainFor_of_name pn_3) hisR ?_
  intro p e s m args below meth c s₁ Bd hml0 hP hK
  obtain ⟨rfl, hZ, hh⟩ := hP
  have hx := Bd.exec
  have hby := Bd.bytes
  have hml : c.maxLocals = 8 := hml0
  have hown : s.vm.findClass "com/example/relent/relent/WholeNumbersUnsignedPinLaw" = some m.cls := findClass_of_methodNamed Bd.named
  have hnm := (name_of_methodNamed Bd.named Bd.method).1
  have X0 : Stand p l e ({ frames := 1, cells := 1, slots := 19, locals := 16 } : Room) s m #[(.int p1), (.int p2), (.int p3), (.int p4), (.int p5), (.int p6), (.long q7)] below meth c s₁ [] 0 0 := Stand.of_body Bd
  have e0 : s₁.heap = h0 := by rw [← hh, Bd.state]; rfl
  have N0 := Fr.nil n0
  have pre0 : ∀ t, Steps p.tables e below (s₁.setTop (mkF m 0 #[.val (.int p1), .val (.int p2), .val (.int p3), .val (.int p4), .val (.int p5), .val (.int p6), .val (.long q7), .second] [])) t → Steps p.tables e below (s₁.setTop (entryFrame m #[(.int p1), (.int p2), (.int p3), (.int p4), (.int p5), (.int p6), (.long q7)] 8)) t := fun t k => castTop (ef_3 m p1 p2 p3 p4 p5 p6 q7) k
  have pre1 : ∀ t, Steps p.tables e below (s₁.setTop (mkF m 4 #[.val (.int p1), .val (.int p2), .val (.int p3), .val (.int p4), .val (.int p5), .val (.int p6), .val (.long q7), .second] [(.int (p2 - (1 : Int32))), (.int p1)])) t → Steps p.tables e below (s₁.setTop (entryFrame m #[(.int p1), (.int p2), (.int p3), (.int p4), (.int p5), (.int p6), (.long q7)] 8)) t := by
    intro t kt
    refine pre0 _ ?_
    show Steps p.tables e below (s₁.setTop (mkF m 0 #[.val (.int p1), .val (.int p2), .val (.int p3), .val (.int p4), .val (.int p5), .val (.int p6), .val (.long q7), .second] [])) _
    refine XS.iloadN X0.here hx rfl (hb hby d3_0) rfl ?_
    show Steps p.tables e below (s₁.setTop (mkF m 1 #[.val (.int p1), .val (.int p2), .val (.int p3), .val (.int p4), .val (.int p5), .val (.int p6), .val (.long q7), .second] [(.int p1)])) _
    refine XS.iloadN X0.here hx rfl (hb hby d3_1) rfl ?_
    show Steps p.tables e below (s₁.setTop (mkF m 2 #[.val (.int p1), .val (.int p2), .val (.int p3), .val (.int p4), .val (.int p5), .val (.int p6), .val (.long q7), .second] [(.int p2), (.int p1)])) _
    refine XS.iconst X0.here hx rfl (hb hby d3_2) ?_
    show Steps p.tables e below (s₁.setTop (mkF m 3 #[.val (.int p1), .val (.int p2), .val (.int p3), .val (.int p4), .val (.int p5), .val (.int p6), .val (.long q7), .second] [(.int (1 : Int32)), (.int p2), (.int p1)])) _
    refine XS.isub X0.here hx rfl (hb hby d3_3) rfl ?_
    exact kt
  by_cases hc4_2 : p1 = (p2 - (1 : Int32))
  · skip
    have pre3 : ∀ t, Steps p.tables e below (s₁.setTop (mkF m 9 #[.val (.int p1), .val (.int p2), .val (.int p3), .val (.int p4), .val (.int p5), .val (.int p6), .val (.long q7), .second] [(.int p5)])) t → Steps p.tables e below (s₁.setTop (entryFrame m #[(.int p1), (.int p2), (.int p3), (.int p4), (.int p5), (.int p6), (.long q7)] 8)) t := by
      intro t kt
      refine pre1 _ ?_
      show Steps p.tables e below (s₁.setTop (mkF m 4 #[.val (.int p1), .val (.int p2), .val (.int p3), .val (.int p4), .val (.int p5), .val (.int p6), .val (.long q7), .second] [(.int (p2 - (1 : Int32))), (.int p1)])) _
      refine XS.icmpNo X0.here hx rfl (hb hby d3_4) rfl (XT.ii_ne_f hc4_2) ?_
      show Steps p.tables e below (s₁.setTop (mkF m 7 #[.val (.int p1), .val (.int p2), .val (.int p3), .val (.int p4), .val (.int p5), .val (.int p6), .val (.long q7), .second] [])) _
      refine XS.iload X0.here hx rfl (hb hby d3_7) rfl ?_
      exact kt
    obtain ⟨fs, hr, hrun, hended, hW, hsame⟩ := X0.leave (v := some (.int (nar .char p5))) (fun h => by rw [Bd.returns] at h; cases h)
    refine ⟨_, _, pre3 _ ?_, hrun, hended, _, _, rfl, ?_, ⟨_, rfl⟩, hW, hsame.mono (by decide) (by decide)⟩
    · show Steps p.tables e below (s₁.setTop (mkF m 9 #[.val (.int p1), .val (.int p2), .val (.int p3), .val (.int p4), .val (.int p5), .val (.int p6), .val (.long q7), .second] [(.int p5)])) _
      exact retN X0 hx (t := .char) Bd.returns (by simp) (hb hby d3_9) hr
    · show Q3 Z p1 p2 p3 p4 p5 p6 q7 kk h0 n0 _ s₁.heap _
      rw [e0]
      exact ⟨by unfold fn3; rw [if_pos hc4_2], N0, (Keep.refl h0 [])⟩
  · skip
    have pre4 : ∀ t, Steps p.tables e below (s₁.setTop (mkF m 11 #[.val (.int p1), .val (.int p2), .val (.int p3), .val (.int p4), .val (.int p5), .val (.int p6), .val (.long q7), .second] [(.int p1)])) t → Steps p.tables e below (s₁.setTop (entryFrame m #[(.int p1), (.int p2), (.int p3), (.int p4), (.int p5), (.int p6), (.long q7)] 8)) t := by
      intro t kt
      refine pre1 _ ?_
      show Steps p.tables e below (s₁.setTop (mkF m 4 #[.val (.int p1), .val (.int p2), .val (.int p3), .val (.int p4), .val (.int p5), .val (.int p6), .val (.long q7), .second] [(.int (p2 - (1 : Int32))), (.int p1)])) _
      refine XS.icmpYes X0.here hx rfl (pc0 := 4) (pc' := 10) rfl (hb hby d3_4) rfl (XT.ii_ne_t hc4_2) (by decide) (by decide) ?_
      show Steps p.tables e below (s₁.setTop (mkF m 10 #[.val (.int p1), .val (.int p2), .val (.int p3), .val (.int p4), .val (.int p5), .val (.int p6), .val (.long q7), .second] [])) _
      refine XS.iloadN X0.here hx rfl (hb hby d3_10) rfl ?_
      exact kt
    by_cases hc11_5 : p1 = (0 : Int32)
    · skip
      have pre6 : ∀ t, Steps p.tables e below (s₁.setTop (mkF m 15 #[.val (.int p1), .val (.int p2), .val (.int p3), .val (.int p4), .val (.int p5), .val (.int p6), .val (.long q7), .second] [(.int p3)])) t → Steps p.tables e below (s₁.setTop (entryFrame m #[(.int p1), (.int p2), (.int p3), (.int p4), (.int p5), (.int p6), (.long q7)] 8)) t := by
        intro t kt
        refine pre4 _ ?_
        show Steps p.tables e below (s₁.setTop (mkF m 11 #[.val (.int p1), .val (.int p2), .val (.int p3), .val (.int p4), .val (.int p5), .val (.int p6), .val (.long q7), .second] [(.int p1)])) _
        refine XS.ifNo X0.here hx rfl (hb hby d3_11) rfl (XT.i0_ne_f hc11_5) ?_
        show Steps p.tables e below (s₁.setTop (mkF m 14 #[.val (.int p1), .val (.int p2), .val (.int p3), .val (.int p4), .val (.int p5), .val (.int p6), .val (.long q7), .second] [])) _
        refine XS.iloadN X0.here hx rfl (hb hby d3_14) rfl ?_
        exact kt
      obtain ⟨fs, hr, hrun, hended, hW, hsame⟩ := X0.leave (v := some (.int (nar .char p3))) (fun h => by rw [Bd.returns] at h; cases h)
      refine ⟨_, _, pre6 _ ?_, hrun, hended, _, _, rfl, ?_, ⟨_, rfl⟩, hW, hsame.mono (by decide) (by decide)⟩
      · show Steps p.tables e below (s₁.setTop (mkF m 15 #[.val (.int p1), .val (.int p2), .val (.int p3), .val (.int p4), .val (.int p5), .val (.int p6), .val (.long q7), .second] [(.int p3)])) _
        exact retN X0 hx (t := .char) Bd.returns (by simp) (hb hby d3_15) hr
      · show Q3 Z p1 p2 p3 p4 p5 p6 q7 kk h0 n0 _ s₁.heap _
        rw [e0]
        exact ⟨by unfold fn3; rw [if_neg hc4_2, if_pos hc11_5], N0, (Keep.refl h0 [])⟩
    · skip
      have pre7 : ∀ t, Steps p.tables e below (s₁.setTop (mkF m 19 #[.val (.int p1), .val (.int p2), .val (.int p3), .val (.int p4), .val (.int p5), .val (.int p6), .val (.long q7), .second] [(.int p6), (.int p1)])) t → Steps p.tables e below (s₁.setTop (entryFrame m #[(.int p1), (.int p2), (.int p3), (.int p4), (.int p5), (.int p6), (.long q7)] 8)) t := by
        intro t kt
        refine pre4 _ ?_
        show Steps p.tables e below (s₁.setTop (mkF m 11 #[.val (.int p1), .val (.int p2), .val (.int p3), .val (.int p4), .val (.int p5), .val (.int p6), .val (.long q7), .second] [(.int p1)])) _
        refine XS.ifYes X0.here hx rfl (pc0 := 11) (pc' := 16) rfl (hb hby d3_11) rfl (XT.i0_ne_t hc11_5) (by decide) (by decide) ?_
        show Steps p.tables e below (s₁.setTop (mkF m 16 #[.val (.int p1), .val (.int p2), .val (.int p3), .val (.int p4), .val (.int p5), .val (.int p6), .val (.long q7), .second] [])) _
        refine XS.iloadN X0.here hx rfl (hb hby d3_16) rfl ?_
        show Steps p.tables e below (s₁.setTop (mkF m 17 #[.val (.int p1), .val (.int p2), .val (.int p3), .val (.int p4), .val (.int p5), .val (.int p6), .val (.long q7), .second] [(.int p1)])) _
        refine XS.iload X0.here hx rfl (hb hby d3_17) rfl ?_
        exact kt
      by_cases hc19_8 : p1 = p6
      · skip
        have pre9 : ∀ t, Steps p.tables e below (s₁.setTop (mkF m 23 #[.val (.int p1), .val (.int p2), .val (.int p3), .val (.int p4), .val (.int p5), .val (.int p6), .val (.long q7), .second] [(.int p4)])) t → Steps p.tables e below (s₁.setTop (entryFrame m #[(.int p1), (.int p2), (.int p3), (.int p4), (.int p5), (.int p6), (.long q7)] 8)) t := by
          intro t kt
          refine pre7 _ ?_
          show Steps p.tables e below (s₁.setTop (mkF m 19 #[.val (.int p1), .val (.int p2), .val (.int p3), .val (.int p4), .val (.int p5), .val (.int p6), .val (.long q7), .second] [(.int p6), (.int p1)])) _
          refine XS.icmpNo X0.here hx rfl (hb hby d3_19) rfl (XT.ii_ne_f hc19_8) ?_
          show Steps p.tables e below (s₁.setTop (mkF m 22 #[.val (.int p1), .val (.int p2), .val (.int p3), .val (.int p4), .val (.int p5), .val (.int p6), .val (.long q7), .second] [])) _
          refine XS.iloadN X0.here hx rfl (hb hby d3_22) rfl ?_
          exact kt
        obtain ⟨fs, hr, hrun, hended, hW, hsame⟩ := X0.leave (v := some (.int (nar .char p4))) (fun h => by rw [Bd.returns] at h; cases h)
        refine ⟨_, _, pre9 _ ?_, hrun, hended, _, _, rfl, ?_, ⟨_, rfl⟩, hW, hsame.mono (by decide) (by decide)⟩
        · show Steps p.tables e below (s₁.setTop (mkF m 23 #[.val (.int p1), .val (.int p2), .val (.int p3), .val (.int p4), .val (.int p5), .val (.int p6), .val (.long q7), .second] [(.int p4)])) _
          exact retN X0 hx (t := .char) Bd.returns (by simp) (hb hby d3_23) hr
        · show Q3 Z p1 p2 p3 p4 p5 p6 q7 kk h0 n0 _ s₁.heap _
          rw [e0]
          exact ⟨by unfold fn3; rw [if_neg hc4_2, if_neg hc11_5, if_pos hc19_8], N0, (Keep.refl h0 [])⟩
      · skip
        obtain ⟨_, _, ⟨T10, L10, k10, n10⟩, -, X10, ⟨Lc10, hQ10, l10, y10, z10⟩, st10⟩ := Jvm.LawKit.callS X0 hx (y := (⟨"com/example/relent/relent/WholeNumbersUnsignedPinLaw", "pow10", "(I)J"⟩ : MethodName)) hown (mvT hZ (hw _ (List.mem_of_getElem? (i := 5) rfl))) (mvT hZ (hw _ (List.mem_of_getElem? (i := 6) rfl))) (mvT hZ (hw _ (List.mem_of_getElem? (i := 2) rfl))) (mvT hZ (hw _ (List.mem_of_getElem? (i := 7) rfl))) (by decide) (backOf (W := 3) (rm2 l Z a0 hw [] ((p2 - (2 : Int32)) - p1) kk h0 n0 Z0 (hk hc4_2).1 (hk hc4_2).2) hZ (hw _ (List.mem_of_getElem? (i := 7) rfl)) (hw _ (List.mem_of_getElem? (i := 2) rfl)) (by decide) (by decide)) (g := (mkF m 33 #[.val (.int p1), .val (.int p2), .val (.int p3), .val (.int p4), .val (.int p5), .val (.int p6), .val (.long q7), .second] [(.int ((p2 - (2 : Int32)) - p1)), (.long q7), (.int (48 : Int32))])) rfl (by rw [hml]; rfl) (argsL := [(.int ((p2 - (2 : Int32)) - p1))]) (rest := [(.long q7), (.int (48 : Int32))]) (lenOf pd_0 rfl) rfl (by show 2 * 0 + _ ≤ _; exact Nat.le_of_eq rfl) (hb hby d3_33) (fun _ _ => ⟨rfl, e0, (by decide : 0 + 1 ≤ _), (by decide : 0 + 19 ≤ _)⟩)
        dsimp only [Pt.U, Pt.locs, Pt.cells, Pt.slots] at X10 l10 y10 z10 st10 hQ10
        subst l10 y10 z10
        obtain ⟨rfl, N10q, K10⟩ := hQ10
        have N10 := Fr.app N0 N10q
        have Z11 := Nat.le_trans Z0 K10.1
        have K12 := (Keep.refl h0 []).trans K10 all0
        have pre13 : ∀ t, Steps p.tables e below (T10.setTop (mkF m 44 #[.val (.int p1), .val (.int p2), .val (.int p3), .val (.int p4), .val (.int p5), .val (.int p6), .val (.long q7), .second] [(.int (((48 : Int32) + (((q7 / (own_p10 kk)) - ((q7 / (own_p10 kk)) / (10 : Int64)) * (10 : Int64)).toInt32)).toUInt32.toUInt16.toUInt32.toInt32))])) t → Steps p.tables e below (s₁.setTop (entryFrame m #[(.int p1), (.int p2), (.int p3), (.int p4), (.int p5), (.int p6), (.long q7)] 8)) t := by
          intro t kt
          refine pre7 _ ?_
          show Steps p.tables e below (s₁.setTop (mkF m 19 #[.val (.int p1), .val (.int p2), .val (.int p3), .val (.int p4), .val (.int p5), .val (.int p6), .val (.long q7), .second] [(.int p6), (.int p1)])) _
          refine XS.icmpYes X0.here hx rfl (pc0 := 19) (pc' := 24) rfl (hb hby d3_19) rfl (XT.ii_ne_t hc19_8) (by decide) (by decide) ?_
          show Steps p.tables e below (s₁.setTop (mkF m 24 #[.val (.int p1), .val (.int p2), .val (.int p3), .val (.int p4), .val (.int p5), .val (.int p6), .val (.long q7), .second] [])) _
          refine XS.bipush X0.here hx rfl (hb hby d3_24) ?_
          show Steps p.tables e below (s₁.setTop (mkF m 26 #[.val (.int p1), .val (.int p2), .val (.int p3), .val (.int p4), .val (.int p5), .val (.int p6), .val (.long q7), .second] [(.int (48 : Int32))])) _
          refine XS.lload X0.here hx rfl (hb hby d3_26) rfl ?_
          show Steps p.tables e below (s₁.setTop (mkF m 28 #[.val (.int p1), .val (.int p2), .val (.int p3), .val (.int p4), .val (.int p5), .val (.int p6), .val (.long q7), .second] [(.long q7), (.int (48 : Int32))])) _
          refine XS.iloadN X0.here hx rfl (hb hby d3_28) rfl ?_
          show Steps p.tables e below (s₁.setTop (mkF m 29 #[.val (.int p1), .val (.int p2), .val (.int p3), .val (.int p4), .val (.int p5), .val (.int p6), .val (.long q7), .second] [(.int p2), (.long q7), (.int (48 : Int32))])) _
          refine XS.iconst X0.here hx rfl (hb hby d3_29) ?_
          show Steps p.tables e below (s₁.setTop (mkF m 30 #[.val (.int p1), .val (.int p2), .val (.int p3), .val (.int p4), .val (.int p5), .val (.int p6), .val (.long q7), .second] [(.int (2 : Int32)), (.int p2), (.long q7), (.int (48 : Int32))])) _
          refine XS.isub X0.here hx rfl (hb hby d3_30) rfl ?_
          show Steps p.tables e below (s₁.setTop (mkF m 31 #[.val (.int p1), .val (.int p2), .val (.int p3), .val (.int p4), .val (.int p5), .val (.int p6), .val (.long q7), .second] [(.int (p2 - (2 : Int32))), (.long q7), (.int (48 : Int32))])) _
          refine XS.iloadN X0.here hx rfl (hb hby d3_31) rfl ?_
          show Steps p.tables e below (s₁.setTop (mkF m 32 #[.val (.int p1), .val (.int p2), .val (.int p3), .val (.int p4), .val (.int p5), .val (.int p6), .val (.long q7), .second] [(.int p1), (.int (p2 - (2 : Int32))), (.long q7), (.int (48 : Int32))])) _
          refine XS.isub X0.here hx rfl (hb hby d3_32) rfl ?_
          show Steps p.tables e below (s₁.setTop (mkF m 33 #[.val (.int p1), .val (.int p2), .val (.int p3), .val (.int p4), .val (.int p5), .val (.int p6), .val (.long q7), .second] [(.int ((p2 - (2 : Int32)) - p1)), (.long q7), (.int (48 : Int32))])) _
          refine st10 _ ?_
          show Steps p.tables e below (T10.setTop (mkF m 36 #[.val (.int p1), .val (.int p2), .val (.int p3), .val (.int p4), .val (.int p5), .val (.int p6), .val (.long q7), .second] [(.long (own_p10 kk)), (.long q7), (.int (48 : Int32))])) _
          refine XS.ldiv X10.here hx rfl (hb hby d3_36) rfl (own_p10nz (hk hc4_2).2) ?_
          show Steps p.tables e below (T10.setTop (mkF m 37 #[.val (.int p1), .val (.int p2), .val (.int p3), .val (.int p4), .val (.int p5), .val (.int p6), .val (.long q7), .second] [(.long (q7 / (own_p10 kk))), (.int (48 : Int32))])) _
          refine Stand.ldc2J (g := (mkF m 37 #[.val (.int p1), .val (.int p2), .val (.int p3), .val (.int p4), .val (.int p5), .val (.int p6), .val (.long q7), .second] [(.long (q7 / (own_p10 kk))), (.int (48 : Int32))])) X10 hx hown (mvT hZ (hw _ (List.mem_of_getElem? (i := 9) rfl))) rfl (hb hby d3_37) ?_
          show Steps p.tables e below (T10.setTop (mkF m 40 #[.val (.int p1), .val (.int p2), .val (.int p3), .val (.int p4), .val (.int p5), .val (.int p6), .val (.long q7), .second] [(.long (10 : Int64)), (.long (q7 / (own_p10 kk))), (.int (48 : Int32))])) _
          refine XS.lrem X10.here hx rfl (hb hby d3_40) rfl (by decide) ?_
          show Steps p.tables e below (T10.setTop (mkF m 41 #[.val (.int p1), .val (.int p2), .val (.int p3), .val (.int p4), .val (.int p5), .val (.int p6), .val (.long q7), .second] [(.long ((q7 / (own_p10 kk)) - ((q7 / (own_p10 kk)) / (10 : Int64)) * (10 : Int64))), (.int (48 : Int32))])) _
          refine XS.l2i X10.here hx rfl (hb hby d3_41) rfl ?_
          show Steps p.tables e below (T10.setTop (mkF m 42 #[.val (.int p1), .val (.int p2), .val (.int p3), .val (.int p4), .val (.int p5), .val (.int p6), .val (.long q7), .second] [(.int (((q7 / (own_p10 kk)) - ((q7 / (own_p10 kk)) / (10 : Int64)) * (10 : Int64)).toInt32)), (.int (48 : Int32))])) _
          refine XS.iadd X10.here hx rfl (hb hby d3_42) rfl ?_
          show Steps p.tables e below (T10.setTop (mkF m 43 #[.val (.int p1), .val (.int p2), .val (.int p3), .val (.int p4), .val (.int p5), .val (.int p6), .val (.long q7), .second] [(.int ((48 : Int32) + (((q7 / (own_p10 kk)) - ((q7 / (own_p10 kk)) / (10 : Int64)) * (10 : Int64)).toInt32)))])) _
          refine XS.i2c X10.here hx rfl (hb hby d3_43) rfl ?_
          exact kt
        obtain ⟨fs, hr, hrun, hended, hW, hsame⟩ := X10.leave (v := some (.int (nar .char (((48 : Int32) + (((q7 / (own_p10 kk)) - ((q7 / (own_p10 kk)) / (10 : Int64)) * (10 : Int64)).toInt32)).toUInt32.toUInt16.toUInt32.toInt32)))) (fun h => by rw [Bd.returns] at h; cases h)
        refine ⟨_, _, pre13 _ ?_, hrun, hended, _, _, rfl, ?_, ⟨_, rfl⟩, hW, hsame.mono (by decide) (by decide)⟩
        · show Steps p.tables e below (T10.setTop (mkF m 44 #[.val (.int p1), .val (.int p2), .val (.int p3), .val (.int p4), .val (.int p5), .val (.int p6), .val (.long q7), .second] [(.int (((48 : Int32) + (((q7 / (own_p10 kk)) - ((q7 / (own_p10 kk)) / (10 : Int64)) * (10 : Int64)).toInt32)).toUInt32.toUInt16.toUInt32.toInt32))])) _
          exact retN X10 hx (t := .char) Bd.returns (by simp) (hb hby d3_44) hr
        · show Q3 Z p1 p2 p3 p4 p5 p6 q7 kk h0 n0 _ T10.heap _
          exact ⟨by unfold fn3; rw [if_neg hc4_2, if_neg hc11_5, if_neg hc19_8], N10, K12⟩
theorem own_cs {fc g : Nat → Int32} {k : Nat} (hg : ∀ j, j < k → g j = (fc j).toInt8.toInt32) : ∀ j, j < k + 1 → (owUp g k ((fc k).toInt8.toInt32).toInt8.toInt32) j = (fc j).toInt8.toInt32 := fun j hj => by
  by_cases q : j = k
  · subst q; rw [owUp_at]
    have h1 := c_i2b (fc j)
    have h2 := c_i2b ((fc j).toInt8.toInt32)
    apply Int32.toInt_inj.mp; omega
  · rw [owUp_ne q]; exact hg j (by omega)
theorem own_le255 {v : Int32} (h : 0 ≤ v.toInt ∧ v.toInt < 256) : ¬ (255 : Int32) < v := by
  rw [Int32.lt_iff_toInt_lt]
  have l : (255 : Int32).toInt = 255 := rfl
  omega
theorem pn_8 : plainName "java/lang/StringUTF16" = true := by first | (simp [plainName, overriddenIn]; done) | decide +kernel
theorem ef_8 (m : MethodId) (x0 : Addr) (x1 : Int32) (x2 : Addr) (x3 : Int32) (x4 : Int32) : entryFrame m #[(.ref x0), (.int x1), (.ref x2), (.int x3), (.int x4)] 7 = mkF m 0 #[.val (.ref x0), .val (.int x1), .val (.ref x2), .val (.int x3), .val (.int x4), .unset, .unset] [] := by first | (simp [entryFrame, mkF, argsToLocals, Value.category]; done) | rfl
theorem d8_0 : decode jdk_52_method_21_code 0 = .ok (.iconst 0, 1) := by decide +kernel
theorem d8_1 : decode jdk_52_method_21_code 1 = .ok (.istore 5, 2) := by decide +kernel
theorem d8_3 : decode jdk_52_method_21_code 3 = .ok (.iload 5, 2) := by decide +kernel
theorem d8_5 : decode jdk_52_method_21_code 5 = .ok (.iload 4, 2) := by decide +kernel
theorem d8_7 : decode jdk_52_method_21_code 7 = .ok (.if_icmp .ge 37, 3) := by decide +kernel
theorem d8_10 : decode jdk_52_method_21_code 10 = .ok (.aload_n 0, 1) := by decide +kernel
theorem d8_11 : decode jdk_52_method_21_code 11 = .ok (.iload_n 1, 1) := by decide +kernel
theorem d8_12 : decode jdk_52_method_21_code 12 = .ok (.caload, 1) := by decide +kernel
theorem d8_13 : decode jdk_52_method_21_code 13 = .ok (.istore 6, 2) := by decide +kernel
theorem d8_15 : decode jdk_52_method_21_code 15 = .ok (.iload 6, 2) := by decide +kernel
theorem d8_17 : decode jdk_52_method_21_code 17 = .ok (.sipush 255, 3) := by decide +kernel
theorem d8_20 : decode jdk_52_method_21_code 20 = .ok (.if_icmp .le 6, 3) := by decide +kernel
theorem d8_26 : decode jdk_52_method_21_code 26 = .ok (.aload_n 2, 1) := by decide +kernel
theorem d8_27 : decode jdk_52_method_21_code 27 = .ok (.iload_n 3, 1) := by decide +kernel
theorem d8_28 : decode jdk_52_method_21_code 28 = .ok (.iload 6, 2) := by decide +kernel
theorem d8_30 : decode jdk_52_method_21_code 30 = .ok (.i2b, 1) := by decide +kernel
theorem d8_31 : decode jdk_52_method_21_code 31 = .ok (.bastore, 1) := by decide +kernel
theorem d8_32 : decode jdk_52_method_21_code 32 = .ok (.iinc 1 1, 3) := by decide +kernel
theorem d8_35 : decode jdk_52_method_21_code 35 = .ok (.iinc 3 1, 3) := by decide +kernel
theorem d8_38 : decode jdk_52_method_21_code 38 = .ok (.iinc 5 1, 3) := by decide +kernel
theorem d8_41 : decode jdk_52_method_21_code 41 = .ok (.goto (-38), 3) := by decide +kernel
theorem d8_44 : decode jdk_52_method_21_code 44 = .ok (.iload 4, 2) := by decide +kernel
theorem d8_46 : decode jdk_52_method_21_code 46 = .ok (.ireturn, 1) := by decide +kernel
def Q8 (Z : State) (a1 : Addr) (a3 : Addr) (p5 : Int32) (n : Nat) (fc : Nat → Int32) (h0 : Heap) (n0 : Nat) (v : Option Value) (h : Heap) (L : List Loc) : Prop := v = some (.int p5) ∧ Fr n0 L ∧ Keep h0 h [a3] ∧ owAI Z h a3 .byte n (fun i => (fc i).toInt8.toInt32)
set_option maxRecDepth 65536 in
set_option maxHeartbeats 40000000 in
theorem rm8 (l : Launch) (Z : State) (a0 : Array Value) (hw : ∀ d ∈ tables_1, d.before a0 Z = true) (ws : List Jvm.Cond) (a1 : Addr) (a3 : Addr) (p5 : Int32) (n : Nat) (fc : Nat → Int32) (h0 : Heap) (n0 : Nat) (Z0 : n0 ≤ h0.size) (A_a1 : owAI Z h0 a1 .char n fc) (A_a3 : owAI Z h0 a3 .byte n (fun _ => 0)) (hp5 : p5.toInt = (n : Int)) (hfc : OC n fc) (g_a3 : n0 ≤ a3) (n13 : a1 ≠ a3) :
    MetFree l (⟨"java/lang/StringUTF16", "compress", "([CI[BII)I"⟩ : MethodName) (head1 (Jvm.Cond.code (⟨"java/lang/StringUTF16", "compress", "([CI[BII)I"⟩ : MethodName) jdk_52_method_21_code 7 (some .int) :: ws) ({ frames := 0, cells := 0, slots := 0, locals := 0 } : Room)) (fun a U => a = #[(.ref a1), (.int (0 : Int32)), (.ref a3), (.int (0 : Int32)), (.int p5)] ∧ Z.Warmed39 U.vm ∧ U.heap = h0) (fun _ _ _ _ _ => True) (fun _ U o U' => ∃ v L, o = .returned v ∧ Q8 Z a1 a3 p5 n fc h0 n0 v U'.heap L ∧ FrameEnd U o U' L ({ frames := 0, cells := 0, slots := 0, locals := 0 } : Room).cells ({ frames := 0, cells := 0, slots := 0, locals := 0 } : Room).slots) := by
  refine MetFree.of_bodySF (plainFor_of_name pn_8) hisR ?_
  intro p e s m args below meth c s₁ Bd hml0 hP hK
  obtain ⟨rfl, hZ, hh⟩ := hP
  have hx := Bd.exec
  have hby := Bd.bytes
  have hml : c.maxLocals = 7 := hml0
  have hown : s.vm.findClass "java/lang/StringUTF16" = some m.cls := findClass_of_methodNamed Bd.named
  have hnm := (name_of_methodNamed Bd.named Bd.method).1
  have X0 : Stand p l e ({ frames := 0, cells := 0, slots := 0, locals := 0 } : Room) s m #[(.ref a1), (.int (0 : Int32)), (.ref a3), (.int (0 : Int32)), (.int p5)] below meth c s₁ [] 0 0 := Stand.of_body Bd
  have e0 : s₁.heap = h0 := by rw [← hh, Bd.state]; rfl
  have N0 := Fr.nil n0
  have pre0 : ∀ t, Steps p.tables e below (s₁.setTop (mkF m 0 #[.val (.ref a1), .val (.int (0 : Int32)), .val (.ref a3), .val (.int (0 : Int32)), .val (.int p5), .unset, .unset] [])) t → Steps p.tables e below (s₁.setTop (entryFrame m #[(.ref a1), (.int (0 : Int32)), (.ref a3), (.int (0 : Int32)), (.int p5)] 7)) t := fun t k => castTop (ef_8 m a1 (0 : Int32) a3 (0 : Int32) p5) k
  have pre1 : ∀ t, Steps p.tables e below (s₁.setTop (mkF m 3 #[.val (.ref a1), .val (.int (0 : Int32)), .val (.ref a3), .val (.int (0 : Int32)), .val (.int p5), .val (.int (0 : Int32)), .unset] [])) t → Steps p.tables e below (s₁.setTop (entryFrame m #[(.ref a1), (.int (0 : Int32)), (.ref a3), (.int (0 : Int32)), (.int p5)] 7)) t := by
    intro t kt
    refine pre0 _ ?_
    show Steps p.tables e below (s₁.setTop (mkF m 0 #[.val (.ref a1), .val (.int (0 : Int32)), .val (.ref a3), .val (.int (0 : Int32)), .val (.int p5), .unset, .unset] [])) _
    refine XS.iconst X0.here hx rfl (hb hby d8_0) ?_
    show Steps p.tables e below (s₁.setTop (mkF m 1 #[.val (.ref a1), .val (.int (0 : Int32)), .val (.ref a3), .val (.int (0 : Int32)), .val (.int p5), .unset, .unset] [(.int (0 : Int32))])) _
    refine XS.istore X0.here hx rfl (hb hby d8_1) rfl (l' := #[.val (.ref a1), .val (.int (0 : Int32)), .val (.ref a3), .val (.int (0 : Int32)), .val (.int p5), .val (.int (0 : Int32)), .unset]) rfl ?_
    exact kt
  have loop : ∀ (d : Nat) (TL : State) (lcL : List Loc) (ci : Int32) (s6 : Slot) (g : Nat → Int32) (k : Nat), Stand p l e ({ frames := 0, cells := 0, slots := 0, locals := 0 } : Room) s m #[(.ref a1), (.int (0 : Int32)), (.ref a3), (.int (0 : Int32)), (.int p5)] below meth c TL lcL 0 0 → Fr n0 lcL → n0 ≤ TL.heap.size → Keep h0 TL.heap [a3] → One s6 → owAI Z TL.heap a3 .byte n g → (∀ j, j < k → g j = (fc j).toInt8.toInt32) → ci.toInt = (k : Int) → k + d = n → ∃ (T' : State) (lc' : List Loc) (s6' : Slot) (g' : Nat → Int32), Stand p l e ({ frames := 0, cells := 0, slots := 0, locals := 0 } : Room) s m #[(.ref a1), (.int (0 : Int32)), (.ref a3), (.int (0 : Int32)), (.int p5)] below meth c T' lc' 0 0 ∧ Fr n0 lc' ∧ n0 ≤ T'.heap.size ∧ Keep h0 T'.heap [a3] ∧ owAI Z T'.heap a3 .byte n g' ∧ (∀ j, j < n → g' j = (fc j).toInt8.toInt32) ∧ ∀ t, Steps p.tables e below (T'.setTop (mkF m 44 #[.val (.ref a1), .val (.int p5), .val (.ref a3), .val (.int p5), .val (.int p5), .val (.int p5), s6'] [])) t → Steps p.tables e below (TL.setTop (mkF m 3 #[.val (.ref a1), .val (.int ci), .val (.ref a3), .val (.int ci), .val (.int p5), .val (.int ci), s6] [])) t := by
    intro d
    induction d with
    | zero =>
      intro TL lcL ci s6 g k XL NL ZL KL h6 AL hg hci hkd
      have A1L := A_a1.keep KL (ninS n13 nin0)
      obtain rfl : p5 = ci := by apply Int32.toInt_inj.mp; omega
      have pre2 : ∀ t, Steps p.tables e below (TL.setTop (mkF m 3 #[.val (.ref a1), .val (.int p5), .val (.ref a3), .val (.int p5), .val (.int p5), .val (.int p5), s6] [])) t → Steps p.tables e below (TL.setTop (mkF m 3 #[.val (.ref a1), .val (.int p5), .val (.ref a3), .val (.int p5), .val (.int p5), .val (.int p5), s6] [])) t := fun _ k => k
      have pre3 : ∀ t, Steps p.tables e below (TL.setTop (mkF m 44 #[.val (.ref a1), .val (.int p5), .val (.ref a3), .val (.int p5), .val (.int p5), .val (.int p5), s6] [])) t → Steps p.tables e below (TL.setTop (mkF m 3 #[.val (.ref a1), .val (.int p5), .val (.ref a3), .val (.int p5), .val (.int p5), .val (.int p5), s6] [])) t := by
        intro t kt
        refine pre2 _ ?_
        show Steps p.tables e below (TL.setTop (mkF m 3 #[.val (.ref a1), .val (.int p5), .val (.ref a3), .val (.int p5), .val (.int p5), .val (.int p5), s6] [])) _
        refine XS.iload XL.here hx rfl (hb hby d8_3) rfl ?_
        show Steps p.tables e below (TL.setTop (mkF m 5 #[.val (.ref a1), .val (.int p5), .val (.ref a3), .val (.int p5), .val (.int p5), .val (.int p5), s6] [(.int p5)])) _
        refine XS.iload XL.here hx rfl (hb hby d8_5) rfl ?_
        show Steps p.tables e below (TL.setTop (mkF m 7 #[.val (.ref a1), .val (.int p5), .val (.ref a3), .val (.int p5), .val (.int p5), .val (.int p5), s6] [(.int p5), (.int p5)])) _
        refine XS.icmpYes XL.here hx rfl (pc0 := 7) (pc' := 44) rfl (hb hby d8_7) rfl (XT.ii_ge_t Int32.lt_irrefl) (by decide) (by decide) ?_
        exact kt
      exact ⟨TL, lcL, s6, g, XL, NL, ZL, KL, AL, fun j hj => hg j (by omega), fun t kt => pre3 _ kt⟩
    | succ d ih =>
      intro TL lcL ci s6 g k XL NL ZL KL h6 AL hg hci hkd
      have A1L := A_a1.keep KL (ninS n13 nin0)
      have pre4 : ∀ t, Steps p.tables e below (TL.setTop (mkF m 3 #[.val (.ref a1), .val (.int ci), .val (.ref a3), .val (.int ci), .val (.int p5), .val (.int ci), s6] [])) t → Steps p.tables e below (TL.setTop (mkF m 3 #[.val (.ref a1), .val (.int ci), .val (.ref a3), .val (.int ci), .val (.int p5), .val (.int ci), s6] [])) t := fun _ k => k
      obtain ⟨T5, gh5, X5, hE5, W5, V5, st5⟩ := owStB XL hx hZ rfl AL (k := k) (j := ci) hci (by omega) (g := (mkF m 31 #[.val (.ref a1), .val (.int ci), .val (.ref a3), .val (.int ci), .val (.int p5), .val (.int ci), .val (.int (fc k))] [(.int ((fc k).toInt8.toInt32)), (.int ci), (.ref a3)])) rfl rfl (hb hby d8_31)
      have f6 := A1L.other W5 n13
      have Z8 := Nat.le_trans ZL (Keep.of_wr W5).1
      have N9 := Fr.snoc X5 NL g_a3
      have K10 := KL.wr W5 (Or.inl (List.mem_of_getElem? (i := 0) rfl))
      have pre11 : ∀ t, Steps p.tables e below (T5.setTop (mkF m 3 #[.val (.ref a1), .val (.int (ci + (1 : Int32))), .val (.ref a3), .val (.int (ci + (1 : Int32))), .val (.int p5), .val (.int (ci + (1 : Int32))), .val (.int (fc k))] [])) t → Steps p.tables e below (TL.setTop (mkF m 3 #[.val (.ref a1), .val (.int ci), .val (.ref a3), .val (.int ci), .val (.int p5), .val (.int ci), s6] [])) t := by
        intro t kt
        refine pre4 _ ?_
        show Steps p.tables e below (TL.setTop (mkF m 3 #[.val (.ref a1), .val (.int ci), .val (.ref a3), .val (.int ci), .val (.int p5), .val (.int ci), s6] [])) _
        refine XS.iload XL.here hx rfl (hb hby d8_3) rfl ?_
        show Steps p.tables e below (TL.setTop (mkF m 5 #[.val (.ref a1), .val (.int ci), .val (.ref a3), .val (.int ci), .val (.int p5), .val (.int ci), s6] [(.int ci)])) _
        refine XS.iload XL.here hx rfl (hb hby d8_5) rfl ?_
        show Steps p.tables e below (TL.setTop (mkF m 7 #[.val (.ref a1), .val (.int ci), .val (.ref a3), .val (.int ci), .val (.int p5), .val (.int ci), s6] [(.int p5), (.int ci)])) _
        refine XS.icmpNo XL.here hx rfl (hb hby d8_7) rfl (XT.ii_ge_f (own_ltn hci hp5 (by omega))) ?_
        show Steps p.tables e below (TL.setTop (mkF m 10 #[.val (.ref a1), .val (.int ci), .val (.ref a3), .val (.int ci), .val (.int p5), .val (.int ci), s6] [])) _
        refine XS.aloadN XL.here hx rfl (hb hby d8_10) rfl rfl ?_
        show Steps p.tables e below (TL.setTop (mkF m 11 #[.val (.ref a1), .val (.int ci), .val (.ref a3), .val (.int ci), .val (.int p5), .val (.int ci), s6] [(.ref a1)])) _
        refine XS.iloadN XL.here hx rfl (hb hby d8_11) rfl ?_
        show Steps p.tables e below (TL.setTop (mkF m 12 #[.val (.ref a1), .val (.int ci), .val (.ref a3), .val (.int ci), .val (.int p5), .val (.int ci), s6] [(.int ci), (.ref a1)])) _
        refine owLdC (k := k) XL hx hZ rfl A1L (j := ci) hci (by omega) (g := (mkF m 12 #[.val (.ref a1), .val (.int ci), .val (.ref a3), .val (.int ci), .val (.int p5), .val (.int ci), s6] [(.int ci), (.ref a1)])) rfl rfl (hb hby d8_12) _ ?_
        show Steps p.tables e below (TL.setTop (mkF m 13 #[.val (.ref a1), .val (.int ci), .val (.ref a3), .val (.int ci), .val (.int p5), .val (.int ci), s6] [(.int (fc k))])) _
        refine XS.istoreS XL.here hx rfl (hb hby d8_13) rfl  rfl h6 ?_
        show Steps p.tables e below (TL.setTop (mkF m 15 #[.val (.ref a1), .val (.int ci), .val (.ref a3), .val (.int ci), .val (.int p5), .val (.int ci), .val (.int (fc k))] [])) _
        refine XS.iload XL.here hx rfl (hb hby d8_15) rfl ?_
        show Steps p.tables e below (TL.setTop (mkF m 17 #[.val (.ref a1), .val (.int ci), .val (.ref a3), .val (.int ci), .val (.int p5), .val (.int ci), .val (.int (fc k))] [(.int (fc k))])) _
        refine XS.sipush XL.here hx rfl (hb hby d8_17) ?_
        show Steps p.tables e below (TL.setTop (mkF m 20 #[.val (.ref a1), .val (.int ci), .val (.ref a3), .val (.int ci), .val (.int p5), .val (.int ci), .val (.int (fc k))] [(.int (255 : Int32)), (.int (fc k))])) _
        refine XS.icmpYes XL.here hx rfl (pc0 := 20) (pc' := 26) rfl (hb hby d8_20) rfl (XT.ii_le_t (own_le255 (hfc.2 k (by omega)))) (by decide) (by decide) ?_
        show Steps p.tables e below (TL.setTop (mkF m 26 #[.val (.ref a1), .val (.int ci), .val (.ref a3), .val (.int ci), .val (.int p5), .val (.int ci), .val (.int (fc k))] [])) _
        refine XS.aloadN XL.here hx rfl (hb hby d8_26) rfl rfl ?_
        show Steps p.tables e below (TL.setTop (mkF m 27 #[.val (.ref a1), .val (.int ci), .val (.ref a3), .val (.int ci), .val (.int p5), .val (.int ci), .val (.int (fc k))] [(.ref a3)])) _
        refine XS.iloadN XL.here hx rfl (hb hby d8_27) rfl ?_
        show Steps p.tables e below (TL.setTop (mkF m 28 #[.val (.ref a1), .val (.int ci), .val (.ref a3), .val (.int ci), .val (.int p5), .val (.int ci), .val (.int (fc k))] [(.int ci), (.ref a3)])) _
        refine XS.iload XL.here hx rfl (hb hby d8_28) rfl ?_
        show Steps p.tables e below (TL.setTop (mkF m 30 #[.val (.ref a1), .val (.int ci), .val (.ref a3), .val (.int ci), .val (.int p5), .val (.int ci), .val (.int (fc k))] [(.int (fc k)), (.int ci), (.ref a3)])) _
        refine XS.i2b XL.here hx rfl (hb hby d8_30) rfl ?_
        show Steps p.tables e below (TL.setTop (mkF m 31 #[.val (.ref a1), .val (.int ci), .val (.ref a3), .val (.int ci), .val (.int p5), .val (.int ci), .val (.int (fc k))] [(.int ((fc k).toInt8.toInt32)), (.int ci), (.ref a3)])) _
        refine st5 _ ?_
        show Steps p.tables e below (T5.setTop (mkF m 32 #[.val (.ref a1), .val (.int ci), .val (.ref a3), .val (.int ci), .val (.int p5), .val (.int ci), .val (.int (fc k))] [])) _
        refine XS.iinc X5.here hx rfl (hb hby d8_32) rfl (l' := #[.val (.ref a1), .val (.int (ci + (1 : Int32))), .val (.ref a3), .val (.int ci), .val (.int p5), .val (.int ci), .val (.int (fc k))]) rfl ?_
        show Steps p.tables e below (T5.setTop (mkF m 35 #[.val (.ref a1), .val (.int (ci + (1 : Int32))), .val (.ref a3), .val (.int ci), .val (.int p5), .val (.int ci), .val (.int (fc k))] [])) _
        refine XS.iinc X5.here hx rfl (hb hby d8_35) rfl (l' := #[.val (.ref a1), .val (.int (ci + (1 : Int32))), .val (.ref a3), .val (.int (ci + (1 : Int32))), .val (.int p5), .val (.int ci), .val (.int (fc k))]) rfl ?_
        show Steps p.tables e below (T5.setTop (mkF m 38 #[.val (.ref a1), .val (.int (ci + (1 : Int32))), .val (.ref a3), .val (.int (ci + (1 : Int32))), .val (.int p5), .val (.int ci), .val (.int (fc k))] [])) _
        refine XS.iinc X5.here hx rfl (hb hby d8_38) rfl (l' := #[.val (.ref a1), .val (.int (ci + (1 : Int32))), .val (.ref a3), .val (.int (ci + (1 : Int32))), .val (.int p5), .val (.int (ci + (1 : Int32))), .val (.int (fc k))]) rfl ?_
        show Steps p.tables e below (T5.setTop (mkF m 41 #[.val (.ref a1), .val (.int (ci + (1 : Int32))), .val (.ref a3), .val (.int (ci + (1 : Int32))), .val (.int p5), .val (.int (ci + (1 : Int32))), .val (.int (fc k))] [])) _
        refine XS.goto X5.here hx rfl (pc0 := 41) (pc' := 3) rfl (hb hby d8_41) (by decide) (by decide) ?_
        exact kt
      have eJ : T5.heap = gh5 := hE5
      obtain ⟨T', lc', s6', g', X', N', Z', K', A', hg', stL⟩ := ih T5 _ (ci + (1 : Int32)) (.val (.int (fc k))) _ (k + 1) X5 N9 (by rw [eJ]; exact Z8) (by rw [eJ]; exact K10) (One.val rfl) (by rw [eJ]; exact V5) (own_cs hg) (own_up hci (by have := hfc.1; omega)) (by omega)
      exact ⟨T', lc', s6', g', X', N', Z', K', A', hg', fun t kt => pre11 _ (stL t kt)⟩
  obtain ⟨TF, lcF, s6F, gF, XF, NF', ZF, KF, AF, hgF, stF⟩ := loop n s₁ _ (0 : Int32) .unset (fun _ => 0) 0 X0 N0 (by rw [e0]; exact Z0) (by rw [e0]; exact (Keep.refl h0 [a3])) One.u (by rw [e0]; exact A_a3) (fun j hj => absurd hj (Nat.not_lt_zero _)) rfl (by omega)
  have AF2 := AF.to hgF
  have pre12 : ∀ t, Steps p.tables e below (TF.setTop (mkF m 44 #[.val (.ref a1), .val (.int p5), .val (.ref a3), .val (.int p5), .val (.int p5), .val (.int p5), s6F] [])) t → Steps p.tables e below (s₁.setTop (entryFrame m #[(.ref a1), (.int (0 : Int32)), (.ref a3), (.int (0 : Int32)), (.int p5)] 7)) t := fun t kt => pre1 _ (stF t kt)
  have pre13 : ∀ t, Steps p.tables e below (TF.setTop (mkF m 46 #[.val (.ref a1), .val (.int p5), .val (.ref a3), .val (.int p5), .val (.int p5), .val (.int p5), s6F] [(.int p5)])) t → Steps p.tables e below (s₁.setTop (entryFrame m #[(.ref a1), (.int (0 : Int32)), (.ref a3), (.int (0 : Int32)), (.int p5)] 7)) t := by
    intro t kt
    refine pre12 _ ?_
    show Steps p.tables e below (TF.setTop (mkF m 44 #[.val (.ref a1), .val (.int p5), .val (.ref a3), .val (.int p5), .val (.int p5), .val (.int p5), s6F] [])) _
    refine XS.iload XF.here hx rfl (hb hby d8_44) rfl ?_
    exact kt
  obtain ⟨fs, hr, hrun, hended, hW, hsame⟩ := XF.leave (v := some (.int p5)) (fun h => by rw [Bd.returns] at h; cases h)
  refine ⟨_, _, pre13 _ ?_, hrun, hended, _, _, rfl, ?_, ⟨_, rfl⟩, hW, hsame.mono (by decide) (by decide)⟩
  · show Steps p.tables e below (TF.setTop (mkF m 46 #[.val (.ref a1), .val (.int p5), .val (.ref a3), .val (.int p5), .val (.int p5), .val (.int p5), s6F] [(.int p5)])) _
    exact owRetI XF hx Bd.returns (hb hby d8_46) hr
  · show Q8 Z a1 a3 p5 n fc h0 n0 _ TF.heap _
    exact ⟨rfl, NF', KF, AF2⟩
theorem own_nn {z : Int32} {n : Nat} (h : z.toInt = (n : Int)) : ¬ z < 0 := by
  rw [Int32.lt_iff_toInt_lt, h]
  have q : (0 : Int32).toInt = 0 := rfl
  omega
theorem own_cap {z : Int32} {n : Nat} (h : z.toInt = (n : Int)) (hn : n ≤ 20) : z.toNatClampNeg ≤ 20 := by rw [owIdx h]; exact hn
theorem pn_7 : plainName "java/lang/StringUTF16" = true := by first | (simp [plainName, overriddenIn]; done) | decide +kernel
theorem ef_7 (m : MethodId) (x0 : Addr) (x1 : Int32) (x2 : Int32) : entryFrame m #[(.ref x0), (.int x1), (.int x2)] 6 = mkF m 0 #[.val (.ref x0), .val (.int x1), .val (.int x2), .unset, .unset, .unset] [] := by first | (simp [entryFrame, mkF, argsToLocals, Value.category]; done) | rfl
theorem d7_0 : decode jdk_52_method_16_code 0 = .ok (.iload_n 2, 1) := by decide +kernel
theorem d7_1 : decode jdk_52_method_16_code 1 = .ok (.newarray .byte, 2) := by decide +kernel
theorem d7_3 : decode jdk_52_method_16_code 3 = .ok (.astore_n 3, 1) := by decide +kernel
theorem d7_4 : decode jdk_52_method_16_code 4 = .ok (.aload_n 0, 1) := by decide +kernel
theorem d7_5 : decode jdk_52_method_16_code 5 = .ok (.iload_n 1, 1) := by decide +kernel
theorem d7_6 : decode jdk_52_method_16_code 6 = .ok (.aload_n 3, 1) := by decide +kernel
theorem d7_7 : decode jdk_52_method_16_code 7 = .ok (.iconst 0, 1) := by decide +kernel
theorem d7_8 : decode jdk_52_method_16_code 8 = .ok (.iload_n 2, 1) := by decide +kernel
theorem pd_1 : parseMethodDescriptor "([CI[BII)I" = some ⟨[(.array .char), .int, (.array .byte), .int, .int], some .int⟩ := by decide +kernel
theorem d7_9 : decode jdk_52_method_16_code 9 = .ok (.invokestatic 115, 3) := by decide +kernel
theorem d7_12 : decode jdk_52_method_16_code 12 = .ok (.istore 4, 2) := by decide +kernel
theorem d7_14 : decode jdk_52_method_16_code 14 = .ok (.iload 4, 2) := by decide +kernel
theorem d7_16 : decode jdk_52_method_16_code 16 = .ok (.iload_n 2, 1) := by decide +kernel
theorem d7_17 : decode jdk_52_method_16_code 17 = .ok (.if_icmp .eq 40, 3) := by decide +kernel
theorem d7_57 : decode jdk_52_method_16_code 57 = .ok (.aload_n 3, 1) := by decide +kernel
theorem d7_58 : decode jdk_52_method_16_code 58 = .ok (.areturn, 1) := by decide +kernel
def Q7 (Z : State) (a1 : Addr) (p3 : Int32) (n : Nat) (fc : Nat → Int32) (h0 : Heap) (n0 : Nat) (v : Option Value) (h : Heap) (L : List Loc) : Prop := ∃ b : Addr, v = some (.ref b) ∧ Fr n0 L ∧ Keep h0 h [] ∧ h0.size ≤ b ∧ owAI Z h b .byte n (fun i => (fc i).toInt8.toInt32)
set_option maxRecDepth 65536 in
set_option maxHeartbeats 40000000 in
theorem rm7 (l : Launch) (Z : State) (a0 : Array Value) (hw : ∀ d ∈ tables_1, d.before a0 Z = true) (ws : List Jvm.Cond) (a1 : Addr) (p3 : Int32) (n : Nat) (fc : Nat → Int32) (h0 : Heap) (n0 : Nat) (Z0 : n0 ≤ h0.size) (A_a1 : owAI Z h0 a1 .char n fc) (hz : p3.toInt = (n : Int)) (hfc : OC n fc) :
    MetFree l (⟨"java/lang/StringUTF16", "compress", "([CII)[B"⟩ : MethodName) (head1 (Jvm.Cond.code (⟨"java/lang/StringUTF16", "compress", "([CII)[B"⟩ : MethodName) jdk_52_method_16_code 6 (some (.array .byte)) :: ws) ({ frames := 1, cells := 1, slots := 20, locals := 18 } : Room)) (fun a U => a = #[(.ref a1), (.int (0 : Int32)), (.int p3)] ∧ Z.Warmed39 U.vm ∧ U.heap = h0) (fun _ _ _ _ _ => True) (fun _ U o U' => ∃ v L, o = .returned v ∧ Q7 Z a1 p3 n fc h0 n0 v U'.heap L ∧ FrameEnd U o U' L ({ frames := 1, cells := 1, slots := 20, locals := 18 } : Room).cells ({ frames := 1, cells := 1, slots := 20, locals := 18 } : Room).slots) := by
  refine MetFree.of_bodySF (plainFor_of_name pn_7) hisR ?_
  intro p e s m args below meth c s₁ Bd hml0 hP hK
  obtain ⟨rfl, hZ, hh⟩ := hP
  have hx := Bd.exec
  have hby := Bd.bytes
  have hml : c.maxLocals = 6 := hml0
  have hown : s.vm.findClass "java/lang/StringUTF16" = some m.cls := findClass_of_methodNamed Bd.named
  have hnm := (name_of_methodNamed Bd.named Bd.method).1
  have X0 : Stand p l e ({ frames := 1, cells := 1, slots := 20, locals := 18 } : Room) s m #[(.ref a1), (.int (0 : Int32)), (.int p3)] below meth c s₁ [] 0 0 := Stand.of_body Bd
  have e0 : s₁.heap = h0 := by rw [← hh, Bd.state]; rfl
  have N0 := Fr.nil n0
  have pre0 : ∀ t, Steps p.tables e below (s₁.setTop (mkF m 0 #[.val (.ref a1), .val (.int (0 : Int32)), .val (.int p3), .unset, .unset, .unset] [])) t → Steps p.tables e below (s₁.setTop (entryFrame m #[(.ref a1), (.int (0 : Int32)), (.int p3)] 6)) t := fun t k => castTop (ef_7 m a1 (0 : Int32) p3) k
  obtain ⟨T1, gh1, k1, X1, hE1, E1, A1, st1⟩ := newP X0 hx hZ (hw _ (List.mem_of_getElem? (i := 49) rfl)) e0 (g := (mkF m 1 #[.val (.ref a1), .val (.int (0 : Int32)), .val (.int p3), .unset, .unset, .unset] [(.int p3)])) rfl (hb hby d7_1) rfl (own_nn hz) (cap := 20) (own_cap hz hfc.1) (by decide) (by decide) (by decide)
  obtain ⟨bb, g1⟩ : ∃ z, z = h0.size := ⟨_, rfl⟩
  rw [← g1] at A1 st1
  have ne_a1_bb : a1 ≠ bb := Nat.ne_of_lt (Nat.lt_of_lt_of_le A_a1.lt (Nat.le_of_eq g1.symm))
  have g_bb : n0 ≤ bb := Nat.le_trans Z0 (Nat.le_of_eq g1.symm)
  have sz_bb : h0.size ≤ bb := Nat.le_trans (Keep.refl h0 []).1 (Nat.le_of_eq g1.symm)
  have f2 := A_a1.ext E1
  have Z3 := Nat.le_trans Z0 E1.1
  have K4 := (Keep.refl h0 []).ext E1
  have V1 : owAI Z gh1 bb .byte n (fun _ => 0) := owAI.new A1 hz rfl
  obtain ⟨_, _, ⟨T5, L5, k5, n5⟩, -, X5, ⟨Lc5, hQ5, l5, y5, z5⟩, st5⟩ := Jvm.LawKit.callS X1 hx (y := (⟨"java/lang/StringUTF16", "compress", "([CI[BII)I"⟩ : MethodName)) hown (mvT hZ (hw _ (List.mem_of_getElem? (i := 50) rfl))) (mvT hZ (hw _ (List.mem_of_getElem? (i := 51) rfl))) (mvT hZ (hw _ (List.mem_of_getElem? (i := 47) rfl))) (mvT hZ (hw _ (List.mem_of_getElem? (i := 52) rfl))) (by decide) (backOf (W := 0) (rm8 l Z a0 hw [] a1 bb p3 n fc gh1 n0 Z3 f2 V1 hz hfc g_bb ne_a1_bb) hZ (hw _ (List.mem_of_getElem? (i := 52) rfl)) (hw _ (List.mem_of_getElem? (i := 47) rfl)) (by decide) (by decide)) (g := (mkF m 9 #[.val (.ref a1), .val (.int (0 : Int32)), .val (.int p3), .val (.ref bb), .unset, .unset] [(.int p3), (.int (0 : Int32)), (.ref bb), (.int (0 : Int32)), (.ref a1)])) rfl (by rw [hml]; rfl) (argsL := [(.ref a1), (.int (0 : Int32)), (.ref bb), (.int (0 : Int32)), (.int p3)]) (rest := []) (lenOf pd_1 rfl) rfl (by show 2 * 0 + _ ≤ _; exact Nat.le_of_eq rfl) (hb hby d7_9) (fun _ _ => ⟨rfl, hE1, (by decide : 1 + 0 ≤ _), (by decide : 20 + 0 ≤ _)⟩)
  dsimp only [Pt.U, Pt.locs, Pt.cells, Pt.slots] at X5 l5 y5 z5 st5 hQ5
  subst l5 y5 z5
  obtain ⟨rfl, N5q, K5, p5_0⟩ := hQ5
  have N5 := Fr.app N0 N5q
  have f6 := f2.keep K5 (ninS ne_a1_bb nin0)
  have Z8 := Nat.le_trans Z3 K5.1
  have K9 := K4.trans K5 (allS (Or.inr sz_bb) all0)
  have pre10 : ∀ t, Steps p.tables e below (T5.setTop (mkF m 58 #[.val (.ref a1), .val (.int (0 : Int32)), .val (.int p3), .val (.ref bb), .val (.int p3), .unset] [(.ref bb)])) t → Steps p.tables e below (s₁.setTop (entryFrame m #[(.ref a1), (.int (0 : Int32)), (.int p3)] 6)) t := by
    intro t kt
    refine pre0 _ ?_
    show Steps p.tables e below (s₁.setTop (mkF m 0 #[.val (.ref a1), .val (.int (0 : Int32)), .val (.int p3), .unset, .unset, .unset] [])) _
    refine XS.iloadN X0.here hx rfl (hb hby d7_0) rfl ?_
    show Steps p.tables e below (s₁.setTop (mkF m 1 #[.val (.ref a1), .val (.int (0 : Int32)), .val (.int p3), .unset, .unset, .unset] [(.int p3)])) _
    refine st1 _ ?_
    show Steps p.tables e below (T1.setTop (mkF m 3 #[.val (.ref a1), .val (.int (0 : Int32)), .val (.int p3), .unset, .unset, .unset] [(.ref bb)])) _
    refine XS.astoreN X1.here hx rfl (hb hby d7_3) rfl rfl (l' := #[.val (.ref a1), .val (.int (0 : Int32)), .val (.int p3), .val (.ref bb), .unset, .unset]) rfl ?_
    show Steps p.tables e below (T1.setTop (mkF m 4 #[.val (.ref a1), .val (.int (0 : Int32)), .val (.int p3), .val (.ref bb), .unset, .unset] [])) _
    refine XS.aloadN X1.here hx rfl (hb hby d7_4) rfl rfl ?_
    show Steps p.tables e below (T1.setTop (mkF m 5 #[.val (.ref a1), .val (.int (0 : Int32)), .val (.int p3), .val (.ref bb), .unset, .unset] [(.ref a1)])) _
    refine XS.iloadN X1.here hx rfl (hb hby d7_5) rfl ?_
    show Steps p.tables e below (T1.setTop (mkF m 6 #[.val (.ref a1), .val (.int (0 : Int32)), .val (.int p3), .val (.ref bb), .unset, .unset] [(.int (0 : Int32)), (.ref a1)])) _
    refine XS.aloadN X1.here hx rfl (hb hby d7_6) rfl rfl ?_
    show Steps p.tables e below (T1.setTop (mkF m 7 #[.val (.ref a1), .val (.int (0 : Int32)), .val (.int p3), .val (.ref bb), .unset, .unset] [(.ref bb), (.int (0 : Int32)), (.ref a1)])) _
    refine XS.iconst X1.here hx rfl (hb hby d7_7) ?_
    show Steps p.tables e below (T1.setTop (mkF m 8 #[.val (.ref a1), .val (.int (0 : Int32)), .val (.int p3), .val (.ref bb), .unset, .unset] [(.int (0 : Int32)), (.ref bb), (.int (0 : Int32)), (.ref a1)])) _
    refine XS.iloadN X1.here hx rfl (hb hby d7_8) rfl ?_
    show Steps p.tables e below (T1.setTop (mkF m 9 #[.val (.ref a1), .val (.int (0 : Int32)), .val (.int p3), .val (.ref bb), .unset, .unset] [(.int p3), (.int (0 : Int32)), (.ref bb), (.int (0 : Int32)), (.ref a1)])) _
    refine st5 _ ?_
    show Steps p.tables e below (T5.setTop (mkF m 12 #[.val (.ref a1), .val (.int (0 : Int32)), .val (.int p3), .val (.ref bb), .unset, .unset] [(.int p3)])) _
    refine XS.istore X5.here hx rfl (hb hby d7_12) rfl (l' := #[.val (.ref a1), .val (.int (0 : Int32)), .val (.int p3), .val (.ref bb), .val (.int p3), .unset]) rfl ?_
    show Steps p.tables e below (T5.setTop (mkF m 14 #[.val (.ref a1), .val (.int (0 : Int32)), .val (.int p3), .val (.ref bb), .val (.int p3), .unset] [])) _
    refine XS.iload X5.here hx rfl (hb hby d7_14) rfl ?_
    show Steps p.tables e below (T5.setTop (mkF m 16 #[.val (.ref a1), .val (.int (0 : Int32)), .val (.int p3), .val (.ref bb), .val (.int p3), .unset] [(.int p3)])) _
    refine XS.iloadN X5.here hx rfl (hb hby d7_16) rfl ?_
    show Steps p.tables e below (T5.setTop (mkF m 17 #[.val (.ref a1), .val (.int (0 : Int32)), .val (.int p3), .val (.ref bb), .val (.int p3), .unset] [(.int p3), (.int p3)])) _
    refine XS.icmpYes X5.here hx rfl (pc0 := 17) (pc' := 57) rfl (hb hby d7_17) rfl (XT.ii_eq_t rfl) (by decide) (by decide) ?_
    show Steps p.tables e below (T5.setTop (mkF m 57 #[.val (.ref a1), .val (.int (0 : Int32)), .val (.int p3), .val (.ref bb), .val (.int p3), .unset] [])) _
    refine XS.aloadN X5.here hx rfl (hb hby d7_57) rfl rfl ?_
    exact kt
  obtain ⟨fs, hr, hrun, hended, hW, hsame⟩ := X5.leave (v := some (.ref bb)) (fun h => by rw [Bd.returns] at h; cases h)
  refine ⟨_, _, pre10 _ ?_, hrun, hended, _, _, rfl, ?_, ⟨_, rfl⟩, hW, hsame.mono (by decide) (by decide)⟩
  · show Steps p.tables e below (T5.setTop (mkF m 58 #[.val (.ref a1), .val (.int (0 : Int32)), .val (.int p3), .val (.ref bb), .val (.int p3), .unset] [(.ref bb)])) _
    exact X5.areturnOut hx rfl Bd.returns rfl (hb hby d7_58) hr
  · show Q7 Z a1 p3 n fc h0 n0 _ T5.heap _
    exact ⟨bb, rfl, N5, K9, sz_bb, p5_0⟩
theorem pn_9 : plainName "java/lang/StringUTF16" = true := by first | (simp [plainName, overriddenIn]; done) | decide +kernel
theorem ef_9 (m : MethodId) (x0 : Addr) (x1 : Int32) : entryFrame m #[(.ref x0), (.int x1)] 2 = mkF m 0 #[.val (.ref x0), .val (.int x1)] [] := by first | (simp [entryFrame, mkF, argsToLocals, Value.category]; done) | rfl
theorem d9_0 : decode jdk_52_method_15_code 0 = .ok (.iload_n 1, 1) := by decide +kernel
theorem d9_1 : decode jdk_52_method_15_code 1 = .ok (.aload_n 0, 1) := by decide +kernel
theorem d9_2 : decode jdk_52_method_15_code 2 = .ok (.arraylength, 1) := by decide +kernel
theorem d9_3 : decode jdk_52_method_15_code 3 = .ok (.isub, 1) := by decide +kernel
theorem d9_4 : decode jdk_52_method_15_code 4 = .ok (.bipush 31, 2) := by decide +kernel
theorem d9_6 : decode jdk_52_method_15_code 6 = .ok (.iushr, 1) := by decide +kernel
theorem d9_7 : decode jdk_52_method_15_code 7 = .ok (.i2b, 1) := by decide +kernel
theorem d9_8 : decode jdk_52_method_15_code 8 = .ok (.ireturn, 1) := by decide +kernel
def Q9 (Z : State) (a1 : Addr) (p2 : Int32) (n : Nat) (g : Nat → Int32) (h0 : Heap) (n0 : Nat) (v : Option Value) (h : Heap) (L : List Loc) : Prop := v = some (.int (0 : Int32)) ∧ Fr n0 L ∧ h = h0
set_option maxRecDepth 65536 in
set_option maxHeartbeats 40000000 in
theorem rm9 (l : Launch) (Z : State) (a0 : Array Value) (hw : ∀ d ∈ tables_1, d.before a0 Z = true) (ws : List Jvm.Cond) (a1 : Addr) (p2 : Int32) (n : Nat) (g : Nat → Int32) (h0 : Heap) (n0 : Nat) (Z0 : n0 ≤ h0.size) (A_a1 : owAI Z h0 a1 .byte n g) (hz : p2.toInt = (n : Int)) :
    MetFree l (⟨"java/lang/StringUTF16", "coderFromArrayLen", "([BI)B"⟩ : MethodName) (head1 (Jvm.Cond.code (⟨"java/lang/StringUTF16", "coderFromArrayLen", "([BI)B"⟩ : MethodName) jdk_52_method_15_code 2 (some .byte) :: ws) ({ frames := 0, cells := 0, slots := 0, locals := 0 } : Room)) (fun a U => a = #[(.ref a1), (.int p2)] ∧ Z.Warmed39 U.vm ∧ U.heap = h0) (fun _ _ _ _ _ => True) (fun _ U o U' => ∃ v L, o = .returned v ∧ Q9 Z a1 p2 n g h0 n0 v U'.heap L ∧ FrameEnd U o U' L ({ frames := 0, cells := 0, slots := 0, locals := 0 } : Room).cells ({ frames := 0, cells := 0, slots := 0, locals := 0 } : Room).slots) := by
  refine MetFree.of_bodySF (plainFor_of_name pn_9) hisR ?_
  intro p e s m args below meth c s₁ Bd hml0 hP hK
  obtain ⟨rfl, hZ, hh⟩ := hP
  have hx := Bd.exec
  have hby := Bd.bytes
  have hml : c.maxLocals = 2 := hml0
  have hown : s.vm.findClass "java/lang/StringUTF16" = some m.cls := findClass_of_methodNamed Bd.named
  have hnm := (name_of_methodNamed Bd.named Bd.method).1
  have X0 : Stand p l e ({ frames := 0, cells := 0, slots := 0, locals := 0 } : Room) s m #[(.ref a1), (.int p2)] below meth c s₁ [] 0 0 := Stand.of_body Bd
  have e0 : s₁.heap = h0 := by rw [← hh, Bd.state]; rfl
  have N0 := Fr.nil n0
  have pre0 : ∀ t, Steps p.tables e below (s₁.setTop (mkF m 0 #[.val (.ref a1), .val (.int p2)] [])) t → Steps p.tables e below (s₁.setTop (entryFrame m #[(.ref a1), (.int p2)] 2)) t := fun t k => castTop (ef_9 m a1 p2) k
  have pre1 : ∀ t, Steps p.tables e below (s₁.setTop (mkF m 8 #[.val (.ref a1), .val (.int p2)] [(.int ((((p2 - p2).toUInt32 >>> ((31 : Int32) &&& 31).toUInt32).toInt32).toInt8.toInt32))])) t → Steps p.tables e below (s₁.setTop (entryFrame m #[(.ref a1), (.int p2)] 2)) t := by
    intro t kt
    refine pre0 _ ?_
    show Steps p.tables e below (s₁.setTop (mkF m 0 #[.val (.ref a1), .val (.int p2)] [])) _
    refine XS.iloadN X0.here hx rfl (hb hby d9_0) rfl ?_
    show Steps p.tables e below (s₁.setTop (mkF m 1 #[.val (.ref a1), .val (.int p2)] [(.int p2)])) _
    refine XS.aloadN X0.here hx rfl (hb hby d9_1) rfl rfl ?_
    show Steps p.tables e below (s₁.setTop (mkF m 2 #[.val (.ref a1), .val (.int p2)] [(.ref a1), (.int p2)])) _
    refine owLenI X0 hx hZ e0 A_a1 (z := p2) (own_nat32 hz) (g := (mkF m 2 #[.val (.ref a1), .val (.int p2)] [(.ref a1), (.int p2)])) rfl rfl (hb hby d9_2) _ ?_
    show Steps p.tables e below (s₁.setTop (mkF m 3 #[.val (.ref a1), .val (.int p2)] [(.int p2), (.int p2)])) _
    refine XS.isub X0.here hx rfl (hb hby d9_3) rfl ?_
    show Steps p.tables e below (s₁.setTop (mkF m 4 #[.val (.ref a1), .val (.int p2)] [(.int (p2 - p2))])) _
    refine XS.bipush X0.here hx rfl (hb hby d9_4) ?_
    show Steps p.tables e below (s₁.setTop (mkF m 6 #[.val (.ref a1), .val (.int p2)] [(.int (31 : Int32)), (.int (p2 - p2))])) _
    refine XS.iushr X0.here hx rfl (hb hby d9_6) rfl ?_
    show Steps p.tables e below (s₁.setTop (mkF m 7 #[.val (.ref a1), .val (.int p2)] [(.int (((p2 - p2).toUInt32 >>> ((31 : Int32) &&& 31).toUInt32).toInt32))])) _
    refine XS.i2b X0.here hx rfl (hb hby d9_7) rfl ?_
    exact kt
  have ql2 : ((((p2 - p2).toUInt32 >>> ((31 : Int32) &&& 31).toUInt32).toInt32).toInt8.toInt32) = (0 : Int32) := (by rw [Int32.sub_self]; rfl)
  have pre3 : ∀ t, Steps p.tables e below (s₁.setTop (mkF m 8 #[.val (.ref a1), .val (.int p2)] [(.int (0 : Int32))])) t → Steps p.tables e below (s₁.setTop (entryFrame m #[(.ref a1), (.int p2)] 2)) t := by
    intro t kt
    refine pre1 _ ?_
    rw [ql2]
    exact kt
  obtain ⟨fs, hr, hrun, hended, hW, hsame⟩ := X0.leave (v := some (.int (0 : Int32))) (fun h => by rw [Bd.returns] at h; cases h)
  refine ⟨_, _, pre3 _ ?_, hrun, hended, _, _, rfl, ?_, ⟨_, rfl⟩, hW, hsame.mono (by decide) (by decide)⟩
  · show Steps p.tables e below (s₁.setTop (mkF m 8 #[.val (.ref a1), .val (.int p2)] [(.int (0 : Int32))])) _
    exact retN X0 hx (t := .byte) Bd.returns (by simp) (hb hby d9_8) hr
  · show Q9 Z a1 p2 n g h0 n0 _ s₁.heap _
    rw [e0]
    exact ⟨rfl, N0, rfl⟩
theorem own_lit0 {Z : State} {h : Heap} {a : Addr} {f : Nat → Int32} {g : Nat → Int32} {n : Nat} (A : owAI Z h a .byte 0 f) (h0 : n = 0) : owAI Z h a .byte n g := by
  subst h0; exact A.to (fun i hi => absurd hi (Nat.not_lt_zero _))
theorem own_n0 {z : Int32} {n : Nat} (h : z.toInt = (n : Int)) (h0 : z = 0) : n = 0 := by
  rw [h0] at h
  have q : (0 : Int32).toInt = 0 := rfl
  omega
theorem pn_5 : plainName "java/lang/String" = true := by first | (simp [plainName, overriddenIn]; done) | decide +kernel
theorem ef_5 (m : MethodId) (x0 : Addr) (x1 : Addr) (x2 : Int32) (x3 : Int32) : entryFrame m #[(.ref x0), (.ref x1), (.int x2), (.int x3), .null] 6 = mkF m 0 #[.val (.ref x0), .val (.ref x1), .val (.int x2), .val (.int x3), .val .null, .unset] [] := by first | (simp [entryFrame, mkF, argsToLocals, Value.category]; done) | rfl
theorem d5_0 : decode jdk_42_method_149_code 0 = .ok (.aload_n 0, 1) := by decide +kernel
theorem d5_1 : decode jdk_42_method_149_code 1 = .ok (.invokespecial 1, 3) := by decide +kernel
theorem d5_4 : decode jdk_42_method_149_code 4 = .ok (.iload_n 3, 1) := by decide +kernel
theorem d5_5 : decode jdk_42_method_149_code 5 = .ok (.ifCond .ne 22, 3) := by decide +kernel
theorem d5_8 : decode jdk_42_method_149_code 8 = .ok (.aload_n 0, 1) := by decide +kernel
theorem d5_9 : decode jdk_42_method_149_code 9 = .ok (.ldc 7, 2) := by decide +kernel
theorem d5_11 : decode jdk_42_method_149_code 11 = .ok (.getfield 9, 3) := by decide +kernel
theorem d5_14 : decode jdk_42_method_149_code 14 = .ok (.putfield 9, 3) := by decide +kernel
theorem d5_17 : decode jdk_42_method_149_code 17 = .ok (.aload_n 0, 1) := by decide +kernel
theorem d5_18 : decode jdk_42_method_149_code 18 = .ok (.ldc 7, 2) := by decide +kernel
theorem d5_20 : decode jdk_42_method_149_code 20 = .ok (.getfield 15, 3) := by decide +kernel
theorem d5_23 : decode jdk_42_method_149_code 23 = .ok (.putfield 15, 3) := by decide +kernel
theorem d5_26 : decode jdk_42_method_149_code 26 = .ok (.return_, 1) := by decide +kernel
theorem d5_27 : decode jdk_42_method_149_code 27 = .ok (.getstatic 38, 3) := by decide +kernel
theorem d5_30 : decode jdk_42_method_149_code 30 = .ok (.ifCond .eq 28, 3) := by decide +kernel
theorem d5_33 : decode jdk_42_method_149_code 33 = .ok (.aload_n 1, 1) := by decide +kernel
theorem d5_34 : decode jdk_42_method_149_code 34 = .ok (.iload_n 2, 1) := by decide +kernel
theorem d5_35 : decode jdk_42_method_149_code 35 = .ok (.iload_n 3, 1) := by decide +kernel
theorem pd_2 : parseMethodDescriptor "([CII)[B" = some ⟨[(.array .char), .int, .int], some (.array .byte)⟩ := by decide +kernel
theorem d5_36 : decode jdk_42_method_149_code 36 = .ok (.invokestatic 177, 3) := by decide +kernel
theorem d5_39 : decode jdk_42_method_149_code 39 = .ok (.astore 5, 2) := by decide +kernel
theorem d5_41 : decode jdk_42_method_149_code 41 = .ok (.aload_n 0, 1) := by decide +kernel
theorem d5_42 : decode jdk_42_method_149_code 42 = .ok (.aload 5, 2) := by decide +kernel
theorem d5_44 : decode jdk_42_method_149_code 44 = .ok (.iload_n 3, 1) := by decide +kernel
theorem pd_3 : parseMethodDescriptor "([BI)B" = some ⟨[(.array .byte), .int], some .byte⟩ := by decide +kernel
theorem d5_45 : decode jdk_42_method_149_code 45 = .ok (.invokestatic 47, 3) := by decide +kernel
theorem d5_48 : decode jdk_42_method_149_code 48 = .ok (.putfield 15, 3) := by decide +kernel
theorem d5_51 : decode jdk_42_method_149_code 51 = .ok (.aload_n 0, 1) := by decide +kernel
theorem d5_52 : decode jdk_42_method_149_code 52 = .ok (.aload 5, 2) := by decide +kernel
theorem d5_54 : decode jdk_42_method_149_code 54 = .ok (.putfield 9, 3) := by decide +kernel
theorem d5_57 : decode jdk_42_method_149_code 57 = .ok (.return_, 1) := by decide +kernel
def Q5 (Z : State) (a1 : Addr) (a2 : Addr) (p4 : Int32) (n : Nat) (fc : Nat → Int32) (cs : Int32) (fmv : Value) (h0 : Heap) (n0 : Nat) (v : Option Value) (h : Heap) (L : List Loc) : Prop := ∃ b : Addr, v = none ∧ Fr n0 L ∧ Keep h0 h [a1] ∧ Exa Z h a1 "java/lang/String" ∧ Fld Z h a1 "java/lang/String" "value" "[B" (.ref b) ∧ Fld Z h a1 "java/lang/String" "coder" "B" (.int (0 : Int32)) ∧ owAI Z h b .byte n (fun i => (fc i).toInt8.toInt32)
set_option maxRecDepth 65536 in
set_option maxHeartbeats 40000000 in
theorem rm5 (l : Launch) (Z : State) (a0 : Array Value) (hw : ∀ d ∈ tables_1, d.before a0 Z = true) (ws : List Jvm.Cond) (a1 : Addr) (a2 : Addr) (p4 : Int32) (n : Nat) (fc : Nat → Int32) (cs : Int32) (fmv : Value) (h0 : Heap) (n0 : Nat) (Z0 : n0 ≤ h0.size) (E_a1 : Exa Z h0 a1 "java/lang/String") (F_value : Fld Z h0 a1 "java/lang/String" "value" "[B" .null) (F_coder : Fld Z h0 a1 "java/lang/String" "coder" "B" (.int (0 : Int32))) (A_a2 : owAI Z h0 a2 .char n fc) (g_a1 : n0 ≤ a1) (n12 : a1 ≠ a2) (hfc : OC n fc) (O_x : Old Z n0 h0) (hst : OST Z cs fmv) (hz : p4.toInt = (n : Int)) :
    MetFree l (⟨"java/lang/String", "<init>", "([CIILjava/lang/Void;)V"⟩ : MethodName) (head1 (Jvm.Cond.code (⟨"java/lang/String", "<init>", "([CIILjava/lang/Void;)V"⟩ : MethodName) jdk_42_method_149_code 6 none :: ws) ({ frames := 2, cells := 4, slots := 20, locals := 35 } : Room)) (fun a U => a = #[(.ref a1), (.ref a2), (.int (0 : Int32)), (.int p4), .null] ∧ Z.Warmed39 U.vm ∧ U.heap = h0 ∧ CHv Z EL1 U.vm h0) (fun _ _ _ _ _ => True) (fun _ U o U' => ∃ v L, o = .returned v ∧ Q5 Z a1 a2 p4 n fc cs fmv h0 n0 v U'.heap L ∧ CHr Z EL1 U.vm U.heap U'.vm U'.heap ∧ ReturnedEndW U o U' L ({ frames := 2, cells := 4, slots := 20, locals := 35 } : Room).cells ({ frames := 2, cells := 4, slots := 20, locals := 35 } : Room).slots) := by
  refine MetFree.of_bodySF (plainFor_of_name pn_5) hisR ?_
  intro p e s m args below meth c s₁ Bd hml0 hP hK
  obtain ⟨rfl, hZ, hh, CH0⟩ := hP
  have hx := Bd.exec
  have hby := Bd.bytes
  have hml : c.maxLocals = 6 := hml0
  have hown : s.vm.findClass "java/lang/String" = some m.cls := findClass_of_methodNamed Bd.named
  have hnm := (name_of_methodNamed Bd.named Bd.method).1
  have X0 : Stand p l e ({ frames := 2, cells := 4, slots := 20, locals := 35 } : Room) (s.setVm s.vm) m #[(.ref a1), (.ref a2), (.int (0 : Int32)), (.int p4), .null] below meth c s₁ [] 0 0 := Stand.of_body Bd
  have e0 : s₁.heap = h0 := by rw [← hh, Bd.state]; rfl
  have N0 := Fr.nil n0
  have pre0 : ∀ t, Steps p.tables e below (s₁.setTop (mkF m 0 #[.val (.ref a1), .val (.ref a2), .val (.int (0 : Int32)), .val (.int p4), .val .null, .unset] [])) t → Steps p.tables e below (s₁.setTop (entryFrame m #[(.ref a1), (.ref a2), (.int (0 : Int32)), (.int p4), .null] 6)) t := fun t k => castTop (ef_5 m a1 a2 (0 : Int32) p4) k
  have hS : s.Since s.vm 0 := (State.WarmedH.refl s).since 0
  have hk : 0 ≤ h0.size := Nat.zero_le _
  have hEL : EW Z a0 EL1 := own_EW hw
  have hwS := own_wS hw
  have SF0_a1 : Safe Z EL1 s.vm h0 a1 := own_safe hZ.alike E_a1 F_value
  obtain ⟨T1, X1, hE1, st1⟩ := initO X0 hx hZ hown (hw _ (List.mem_of_getElem? (i := 41) rfl)) (hw _ (List.mem_of_getElem? (i := 42) rfl)) (hw _ (List.mem_of_getElem? (i := 43) rfl)) e0 (g := (mkF m 1 #[.val (.ref a1), .val (.ref a2), .val (.int (0 : Int32)), .val (.int p4), .val .null, .unset] [(.ref a1)])) rfl (by rw [hml]; rfl) rfl (hb hby d5_1) (by decide) (W := 0) (by show 2 * 0 + _ ≤ _; exact Nat.le_of_eq rfl) (by decide)
  have pre2 : ∀ t, Steps p.tables e below (T1.setTop (mkF m 5 #[.val (.ref a1), .val (.ref a2), .val (.int (0 : Int32)), .val (.int p4), .val .null, .unset] [(.int p4)])) t → Steps p.tables e below (s₁.setTop (entryFrame m #[(.ref a1), (.ref a2), (.int (0 : Int32)), (.int p4), .null] 6)) t := by
    intro t kt
    refine pre0 _ ?_
    show Steps p.tables e below (s₁.setTop (mkF m 0 #[.val (.ref a1), .val (.ref a2), .val (.int (0 : Int32)), .val (.int p4), .val .null, .unset] [])) _
    refine XS.aloadN X0.here hx rfl (hb hby d5_0) rfl rfl ?_
    show Steps p.tables e below (s₁.setTop (mkF m 1 #[.val (.ref a1), .val (.ref a2), .val (.int (0 : Int32)), .val (.int p4), .val .null, .unset] [(.ref a1)])) _
    refine st1 _ ?_
    show Steps p.tables e below (T1.setTop (mkF m 4 #[.val (.ref a1), .val (.ref a2), .val (.int (0 : Int32)), .val (.int p4), .val .null, .unset] [])) _
    refine XS.iloadN X1.here hx rfl (hb hby d5_4) rfl ?_
    exact kt
  by_cases hc5_3 : p4 = (0 : Int32)
  · skip
    have hn0 : n = 0 := own_n0 hz hc5_3
    have pre4 : ∀ t, Steps p.tables e below (T1.setTop (mkF m 9 #[.val (.ref a1), .val (.ref a2), .val (.int (0 : Int32)), .val (.int p4), .val .null, .unset] [(.ref a1)])) t → Steps p.tables e below (s₁.setTop (entryFrame m #[(.ref a1), (.ref a2), (.int (0 : Int32)), (.int p4), .null] 6)) t := by
      intro t kt
      refine pre2 _ ?_
      show Steps p.tables e below (T1.setTop (mkF m 5 #[.val (.ref a1), .val (.ref a2), .val (.int (0 : Int32)), .val (.int p4), .val .null, .unset] [(.int p4)])) _
      refine XS.ifNo X1.here hx rfl (hb hby d5_5) rfl (XT.i0_ne_f hc5_3) ?_
      show Steps p.tables e below (T1.setTop (mkF m 8 #[.val (.ref a1), .val (.ref a2), .val (.int (0 : Int32)), .val (.int p4), .val .null, .unset] [])) _
      refine XS.aloadN X1.here hx rfl (hb hby d5_8) rfl rfl ?_
      exact kt
    have CK5 := CHr.keep (Z := Z) (EL := EL1) (Keep.refl h0 [a1]) (sfS SF0_a1 sf0) CH0
    obtain ⟨la, T6, gh6, k6, lb, kb6, X6, hE6, E6, hS, hk, hZ, hown, E_la, F_c_la, F_v_la, V6, -, -, CC6, -, HN6, st6⟩ := ldcCH (s := s) (vm0 := s.vm) X1 hx hZ hown (hw _ (List.mem_of_getElem? (i := 135) rfl)) hwS hE1 hS (Nat.le_trans hk (Keep.refl h0 [a1]).1) hEL own_mem CK5.1 ⟨by decide, rfl⟩ (z := (0 : Int32)) (by decide) rfl (g := (mkF m 9 #[.val (.ref a1), .val (.ref a2), .val (.int (0 : Int32)), .val (.int p4), .val .null, .unset] [(.ref a1)])) rfl (hb hby d5_9) (n := 0) (by decide) (by decide) (by decide) (by decide)
    have f7 := E_a1.ext E6
    have f8 := F_value.ext E6
    have f9 := F_coder.ext E6
    have f10 := A_a2.ext E6
    have f11 := O_x.ext E6
    have Z12 := Nat.le_trans Z0 E6.1
    have K13 := (Keep.refl h0 [a1]).ext E6
    have CR14 := CK5.trans CC6
    have SF15 := (CK5.trans CC6).safe E_a1.lt SF0_a1
    have A_lb : owAI Z gh6 lb .byte 0 (fun _ => (0 : Int32)) := owAI.of_arv V6 rfl (fun i hi => absurd hi (Nat.not_lt_zero _))
    obtain ⟨T16, X16, hE16, st16⟩ := getF X6 hx hZ hown (host := "") (Or.inl (hw _ (List.mem_of_getElem? (i := 58) rfl))) Via.refl hE6 F_v_la (g := (mkF m 11 #[.val (.ref a1), .val (.ref a2), .val (.int (0 : Int32)), .val (.int p4), .val .null, .unset] [(.ref la), (.ref a1)])) rfl rfl (hb hby d5_11)
    obtain ⟨T17, gh17, X17, hE17, W17, st17⟩ := putF X16 hx hZ hown (host := "") (Or.inl (hw _ (List.mem_of_getElem? (i := 58) rfl))) Via.refl hE16 f8 f7 (Or.inr ⟨(hw _ (List.mem_of_getElem? (i := 59) rfl)), rfl, hnm⟩) (hw _ (List.mem_of_getElem? (i := 32) rfl)) (ty := (.array .byte)) (by decide) rfl rfl (g := (mkF m 14 #[.val (.ref a1), .val (.ref a2), .val (.int (0 : Int32)), .val (.int p4), .val .null, .unset] [(.ref lb), (.ref a1)])) rfl rfl (hb hby d5_14)
    have Fw17 := f8.same W17
    have f18 := f7.wr W17
    have f20 := f9.other W17 (Or.inr (slot_ne (Or.inr (hw _ (List.mem_of_getElem? (i := 57) rfl))) (Or.inr (hw _ (List.mem_of_getElem? (i := 59) rfl))) (by decide) (t := .byte) (t' := (.array .byte)) (by decide) (by decide)))
    have f21 := f10.other W17 (Ne.symm n12)
    have f22 := f11.wr W17 g_a1
    have f23 := E_la.wr W17
    have f24 := F_c_la.other W17 (Or.inl (Ne.symm (HN6 _ SF15).1))
    have f25 := F_v_la.other W17 (Or.inl (Ne.symm (HN6 _ SF15).1))
    have f26 := A_lb.other W17 (Ne.symm (HN6 _ SF15).2)
    have Z27 := Nat.le_trans Z12 (Keep.of_wr W17).1
    have N28 := Fr.snoc X17 N0 g_a1
    have K29 := K13.wr W17 (Or.inl (List.mem_of_getElem? (i := 0) rfl))
    have K30 := (Keep.refl gh6 [a1]).wr W17 (Or.inl (List.mem_of_getElem? (i := 0) rfl))
    have pre31 : ∀ t, Steps p.tables e below (T17.setTop (mkF m 18 #[.val (.ref a1), .val (.ref a2), .val (.int (0 : Int32)), .val (.int p4), .val .null, .unset] [(.ref a1)])) t → Steps p.tables e below (s₁.setTop (entryFrame m #[(.ref a1), (.ref a2), (.int (0 : Int32)), (.int p4), .null] 6)) t := by
      intro t kt
      refine pre4 _ ?_
      show Steps p.tables e below (T1.setTop (mkF m 9 #[.val (.ref a1), .val (.ref a2), .val (.int (0 : Int32)), .val (.int p4), .val .null, .unset] [(.ref a1)])) _
      refine st6 _ ?_
      show Steps p.tables e below (T6.setTop (mkF m 11 #[.val (.ref a1), .val (.ref a2), .val (.int (0 : Int32)), .val (.int p4), .val .null, .unset] [(.ref la), (.ref a1)])) _
      refine st16 _ ?_
      show Steps p.tables e below (T16.setTop (mkF m 14 #[.val (.ref a1), .val (.ref a2), .val (.int (0 : Int32)), .val (.int p4), .val .null, .unset] [(.ref lb), (.ref a1)])) _
      refine st17 _ ?_
      show Steps p.tables e below (T17.setTop (mkF m 17 #[.val (.ref a1), .val (.ref a2), .val (.int (0 : Int32)), .val (.int p4), .val .null, .unset] [])) _
      refine XS.aloadN X17.here hx rfl (hb hby d5_17) rfl rfl ?_
      exact kt
    have CK32 := CHr.keep (Z := Z) (EL := EL1) K30 (sfS SF15 sf0) CC6.1
    obtain ⟨lc, T33, gh33, k33, ld, kb33, X33, hE33, E33, hS, hk, hZ, hown, E_lc, F_c_lc, F_v_lc, V33, -, -, CC33, -, HN33, st33⟩ := ldcCH (s := s) (vm0 := T6.vm) X17 hx hZ hown (hw _ (List.mem_of_getElem? (i := 135) rfl)) hwS hE17 hS (Nat.le_trans hk K30.1) hEL own_mem CK32.1 ⟨by decide, rfl⟩ (z := (0 : Int32)) (by decide) rfl (g := (mkF m 18 #[.val (.ref a1), .val (.ref a2), .val (.int (0 : Int32)), .val (.int p4), .val .null, .unset] [(.ref a1)])) rfl (hb hby d5_18) (n := 0) (by decide) (by decide) (by decide) (by decide)
    have f34 := f18.ext E33
    have f35 := Fw17.ext E33
    have f36 := f20.ext E33
    have f37 := f21.ext E33
    have f38 := f22.ext E33
    have f39 := f23.ext E33
    have f40 := f24.ext E33
    have f41 := f25.ext E33
    have f42 := f26.ext E33
    have Z43 := Nat.le_trans Z27 E33.1
    have K44 := K29.ext E33
    have K45 := K30.ext E33
    have CR46 := CR14.trans (CK32.trans CC33)
    have SF47 := (CK32.trans CC33).safe f7.lt SF15
    have A_ld : owAI Z gh33 ld .byte 0 (fun _ => (0 : Int32)) := owAI.of_arv V33 rfl (fun i hi => absurd hi (Nat.not_lt_zero _))
    obtain ⟨T48, X48, hE48, st48⟩ := getF X33 hx hZ hown (host := "") (Or.inl (hw _ (List.mem_of_getElem? (i := 56) rfl))) Via.refl hE33 F_c_lc (g := (mkF m 20 #[.val (.ref a1), .val (.ref a2), .val (.int (0 : Int32)), .val (.int p4), .val .null, .unset] [(.ref lc), (.ref a1)])) rfl rfl (hb hby d5_20)
    obtain ⟨T49, gh49, X49, hE49, W49, st49⟩ := putFN X48 hx hZ hown (hw _ (List.mem_of_getElem? (i := 56) rfl)) Via.refl hE48 f36 f34 (Or.inr ⟨(hw _ (List.mem_of_getElem? (i := 57) rfl)), rfl, hnm⟩) (hw _ (List.mem_of_getElem? (i := 32) rfl)) (ty := .byte) (v' := (.int (0 : Int32))) (by decide) rfl rfl (g := (mkF m 23 #[.val (.ref a1), .val (.ref a2), .val (.int (0 : Int32)), .val (.int p4), .val .null, .unset] [(.int (0 : Int32)), (.ref a1)])) rfl rfl (hb hby d5_23)
    have Fw49 := f36.same W49
    have f50 := f34.wr W49
    have f51 := f35.other W49 (Or.inr (slot_ne (Or.inr (hw _ (List.mem_of_getElem? (i := 59) rfl))) (Or.inr (hw _ (List.mem_of_getElem? (i := 57) rfl))) (by decide) (t := (.array .byte)) (t' := .byte) (by decide) (by decide)))
    have f53 := f37.other W49 (Ne.symm n12)
    have f54 := f38.wr W49 g_a1
    have f55 := f39.wr W49
    have f56 := f40.other W49 (Or.inl (Ne.symm (HN6 _ SF15).1))
    have f57 := f41.other W49 (Or.inl (Ne.symm (HN6 _ SF15).1))
    have f58 := f42.other W49 (Ne.symm (HN6 _ SF15).2)
    have f59 := E_lc.wr W49
    have f60 := F_c_lc.other W49 (Or.inl (Ne.symm (HN33 _ SF47).1))
    have f61 := F_v_lc.other W49 (Or.inl (Ne.symm (HN33 _ SF47).1))
    have f62 := A_ld.other W49 (Ne.symm (HN33 _ SF47).2)
    have Z63 := Nat.le_trans Z43 (Keep.of_wr W49).1
    have N64 := Fr.snoc X49 N28 g_a1
    have K65 := K44.wr W49 (Or.inl (List.mem_of_getElem? (i := 0) rfl))
    have K66 := (Keep.refl gh33 [a1]).wr W49 (Or.inl (List.mem_of_getElem? (i := 0) rfl))
    have pre67 : ∀ t, Steps p.tables e below (T49.setTop (mkF m 26 #[.val (.ref a1), .val (.ref a2), .val (.int (0 : Int32)), .val (.int p4), .val .null, .unset] [])) t → Steps p.tables e below (s₁.setTop (entryFrame m #[(.ref a1), (.ref a2), (.int (0 : Int32)), (.int p4), .null] 6)) t := by
      intro t kt
      refine pre31 _ ?_
      show Steps p.tables e below (T17.setTop (mkF m 18 #[.val (.ref a1), .val (.ref a2), .val (.int (0 : Int32)), .val (.int p4), .val .null, .unset] [(.ref a1)])) _
      refine st33 _ ?_
      show Steps p.tables e below (T33.setTop (mkF m 20 #[.val (.ref a1), .val (.ref a2), .val (.int (0 : Int32)), .val (.int p4), .val .null, .unset] [(.ref lc), (.ref a1)])) _
      refine st48 _ ?_
      show Steps p.tables e below (T48.setTop (mkF m 23 #[.val (.ref a1), .val (.ref a2), .val (.int (0 : Int32)), .val (.int p4), .val .null, .unset] [(.int (0 : Int32)), (.ref a1)])) _
      refine st49 _ ?_
      exact kt
    have CK68 := CHr.keep (Z := Z) (EL := EL1) K66 (sfS SF47 sf0) CC33.1
    obtain ⟨fs, hr, hrun, hended, hEnd⟩ := X49.leaveW hS (by rw [hE49]; exact Nat.le_trans hk K66.1) (v := none) (fun _ => rfl)
    have CT := CK68.trans (CHv.at (s := s) (vm0 := T33.vm) X49 hZ hEL CK68.1)
    refine ⟨_, _, pre67 _ ?_, hrun, hended, _, _, rfl, ?_, ?_, hEnd.1, hEnd.2.1, hEnd.2.2.1, hEnd.2.2.2.mono (by decide) (by decide)⟩
    · show Steps p.tables e below (T49.setTop (mkF m 26 #[.val (.ref a1), .val (.ref a2), .val (.int (0 : Int32)), .val (.int p4), .val .null, .unset] [])) _
      exact X49.returnOut hx Bd.returns (hb hby d5_26) hr
    · show Q5 Z a1 a2 p4 n fc cs fmv h0 n0 _ T49.heap _
      rw [hE49]
      exact ⟨lb, rfl, N64, K65, f50, f51, Fw49, (own_lit0 f58 hn0)⟩
    · rw [hh]
      show CHr Z EL1 s.vm h0 T49.vm T49.heap
      rw [hE49]
      exact CR46.trans CT
  · skip
    have S69 := hst.1.ext O_x.2
    obtain ⟨T70, X70, hE70, st70⟩ := getS2 X1 hx hZ hown (host := "") (Or.inl (hw _ (List.mem_of_getElem? (i := 44) rfl))) Via.refl hE1 S69 (g := (mkF m 27 #[.val (.ref a1), .val (.ref a2), .val (.int (0 : Int32)), .val (.int p4), .val .null, .unset] [])) rfl (hb hby d5_27)
    obtain ⟨_, _, ⟨T71, L71, k71, n71⟩, -, X71, ⟨Lc71, hQ71, l71, y71, z71⟩, st71⟩ := Jvm.LawKit.callS X70 hx (y := (⟨"java/lang/StringUTF16", "compress", "([CII)[B"⟩ : MethodName)) hown (mvT hZ (hw _ (List.mem_of_getElem? (i := 45) rfl))) (mvT hZ (hw _ (List.mem_of_getElem? (i := 46) rfl))) (mvT hZ (hw _ (List.mem_of_getElem? (i := 47) rfl))) (mvT hZ (hw _ (List.mem_of_getElem? (i := 48) rfl))) (by decide) (backOf (W := 0) (rm7 l Z a0 hw [] a2 p4 n fc h0 n0 Z0 A_a2 hz hfc) hZ (hw _ (List.mem_of_getElem? (i := 48) rfl)) (hw _ (List.mem_of_getElem? (i := 47) rfl)) (by decide) (by decide)) (g := (mkF m 36 #[.val (.ref a1), .val (.ref a2), .val (.int (0 : Int32)), .val (.int p4), .val .null, .unset] [(.int p4), (.int (0 : Int32)), (.ref a2)])) rfl (by rw [hml]; rfl) (argsL := [(.ref a2), (.int (0 : Int32)), (.int p4)]) (rest := []) (lenOf pd_2 rfl) rfl (by show 2 * 0 + _ ≤ _; exact Nat.le_of_eq rfl) (hb hby d5_36) (fun _ _ => ⟨rfl, hE70, (by decide : 0 + 1 ≤ _), (by decide : 0 + 20 ≤ _)⟩)
    dsimp only [Pt.U, Pt.locs, Pt.cells, Pt.slots] at X71 l71 y71 z71 st71 hQ71
    subst l71 y71 z71
    obtain ⟨bb, rfl, N71q, K71, h_bb, p71_A⟩ := hQ71
    have N71 := Fr.app N0 N71q
    have ne_a1_bb : a1 ≠ bb := Nat.ne_of_lt (Nat.lt_of_lt_of_le E_a1.lt h_bb)
    have ne_a2_bb : a2 ≠ bb := Nat.ne_of_lt (Nat.lt_of_lt_of_le A_a2.lt h_bb)
    have g_bb : n0 ≤ bb := Nat.le_trans Z0 h_bb
    have sz_bb : h0.size ≤ bb := Nat.le_trans (Keep.refl h0 [a1]).1 h_bb
    have f72 := E_a1.keep K71
    have f73 := F_value.keep K71 nin0
    have f74 := F_coder.keep K71 nin0
    have f75 := A_a2.keep K71 nin0
    have f76 := O_x.keep K71 all0
    have Z78 := Nat.le_trans Z0 K71.1
    have K79 := (Keep.refl h0 [a1]).trans K71 all0
    obtain ⟨_, _, ⟨T80, L80, k80, n80⟩, -, X80, ⟨Lc80, hQ80, l80, y80, z80⟩, st80⟩ := Jvm.LawKit.callS X71 hx (y := (⟨"java/lang/StringUTF16", "coderFromArrayLen", "([BI)B"⟩ : MethodName)) hown (mvT hZ (hw _ (List.mem_of_getElem? (i := 53) rfl))) (mvT hZ (hw _ (List.mem_of_getElem? (i := 54) rfl))) (mvT hZ (hw _ (List.mem_of_getElem? (i := 47) rfl))) (mvT hZ (hw _ (List.mem_of_getElem? (i := 55) rfl))) (by decide) (backOf (W := 1) (rm9 l Z a0 hw [] bb p4 n (fun i => (fc i).toInt8.toInt32) T71.heap n0 Z78 p71_A hz) hZ (hw _ (List.mem_of_getElem? (i := 55) rfl)) (hw _ (List.mem_of_getElem? (i := 47) rfl)) (by decide) (by decide)) (g := (mkF m 45 #[.val (.ref a1), .val (.ref a2), .val (.int (0 : Int32)), .val (.int p4), .val .null, .val (.ref bb)] [(.int p4), (.ref bb), (.ref a1)])) rfl (by rw [hml]; rfl) (argsL := [(.ref bb), (.int p4)]) (rest := [(.ref a1)]) (lenOf pd_3 rfl) rfl (by show 2 * 0 + _ ≤ _; exact Nat.le_of_eq rfl) (hb hby d5_45) (fun _ _ => ⟨rfl, rfl, (by decide : 1 + 0 ≤ _), (by decide : 20 + 0 ≤ _)⟩)
    dsimp only [Pt.U, Pt.locs, Pt.cells, Pt.slots] at X80 l80 y80 z80 st80 hQ80
    subst l80 y80 z80
    obtain ⟨rfl, N80q, hE80⟩ := hQ80
    have N80 := Fr.app N71 N80q
    obtain ⟨T81, gh81, X81, hE81, W81, st81⟩ := putFN X80 hx hZ hown (hw _ (List.mem_of_getElem? (i := 56) rfl)) Via.refl hE80 f74 f72 (Or.inr ⟨(hw _ (List.mem_of_getElem? (i := 57) rfl)), rfl, hnm⟩) (hw _ (List.mem_of_getElem? (i := 32) rfl)) (ty := .byte) (v' := (.int (0 : Int32))) (by decide) rfl rfl (g := (mkF m 48 #[.val (.ref a1), .val (.ref a2), .val (.int (0 : Int32)), .val (.int p4), .val .null, .val (.ref bb)] [(.int (0 : Int32)), (.ref a1)])) rfl rfl (hb hby d5_48)
    have Fw81 := f74.same W81
    have f82 := f72.wr W81
    have f83 := f73.other W81 (Or.inr (slot_ne (Or.inr (hw _ (List.mem_of_getElem? (i := 59) rfl))) (Or.inr (hw _ (List.mem_of_getElem? (i := 57) rfl))) (by decide) (t := (.array .byte)) (t' := .byte) (by decide) (by decide)))
    have f85 := f75.other W81 (Ne.symm n12)
    have f86 := f76.wr W81 g_a1
    have f87 := p71_A.other W81 (Ne.symm ne_a1_bb)
    have Z88 := Nat.le_trans Z78 (Keep.of_wr W81).1
    have N89 := Fr.snoc X81 N80 g_a1
    have K90 := K79.wr W81 (Or.inl (List.mem_of_getElem? (i := 0) rfl))
    obtain ⟨T91, gh91, X91, hE91, W91, st91⟩ := putF X81 hx hZ hown (host := "") (Or.inl (hw _ (List.mem_of_getElem? (i := 58) rfl))) Via.refl hE81 f83 f82 (Or.inr ⟨(hw _ (List.mem_of_getElem? (i := 59) rfl)), rfl, hnm⟩) (hw _ (List.mem_of_getElem? (i := 32) rfl)) (ty := (.array .byte)) (by decide) rfl rfl (g := (mkF m 54 #[.val (.ref a1), .val (.ref a2), .val (.int (0 : Int32)), .val (.int p4), .val .null, .val (.ref bb)] [(.ref bb), (.ref a1)])) rfl rfl (hb hby d5_54)
    have Fw91 := f83.same W91
    have f92 := f82.wr W91
    have f94 := Fw81.other W91 (Or.inr (slot_ne (Or.inr (hw _ (List.mem_of_getElem? (i := 57) rfl))) (Or.inr (hw _ (List.mem_of_getElem? (i := 59) rfl))) (by decide) (t := .byte) (t' := (.array .byte)) (by decide) (by decide)))
    have f95 := f85.other W91 (Ne.symm n12)
    have f96 := f86.wr W91 g_a1
    have f97 := f87.other W91 (Ne.symm ne_a1_bb)
    have Z98 := Nat.le_trans Z88 (Keep.of_wr W91).1
    have N99 := Fr.snoc X91 N89 g_a1
    have K100 := K90.wr W91 (Or.inl (List.mem_of_getElem? (i := 0) rfl))
    have pre101 : ∀ t, Steps p.tables e below (T91.setTop (mkF m 57 #[.val (.ref a1), .val (.ref a2), .val (.int (0 : Int32)), .val (.int p4), .val .null, .val (.ref bb)] [])) t → Steps p.tables e below (s₁.setTop (entryFrame m #[(.ref a1), (.ref a2), (.int (0 : Int32)), (.int p4), .null] 6)) t := by
      intro t kt
      refine pre2 _ ?_
      show Steps p.tables e below (T1.setTop (mkF m 5 #[.val (.ref a1), .val (.ref a2), .val (.int (0 : Int32)), .val (.int p4), .val .null, .unset] [(.int p4)])) _
      refine XS.ifYes X1.here hx rfl (pc0 := 5) (pc' := 27) rfl (hb hby d5_5) rfl (XT.i0_ne_t hc5_3) (by decide) (by decide) ?_
      show Steps p.tables e below (T1.setTop (mkF m 27 #[.val (.ref a1), .val (.ref a2), .val (.int (0 : Int32)), .val (.int p4), .val .null, .unset] [])) _
      refine st70 _ ?_
      show Steps p.tables e below (T70.setTop (mkF m 30 #[.val (.ref a1), .val (.ref a2), .val (.int (0 : Int32)), .val (.int p4), .val .null, .unset] [(.int cs)])) _
      refine XS.ifNo X70.here hx rfl (hb hby d5_30) rfl (XT.i0_eq_f hst.2.1) ?_
      show Steps p.tables e below (T70.setTop (mkF m 33 #[.val (.ref a1), .val (.ref a2), .val (.int (0 : Int32)), .val (.int p4), .val .null, .unset] [])) _
      refine XS.aloadN X70.here hx rfl (hb hby d5_33) rfl rfl ?_
      show Steps p.tables e below (T70.setTop (mkF m 34 #[.val (.ref a1), .val (.ref a2), .val (.int (0 : Int32)), .val (.int p4), .val .null, .unset] [(.ref a2)])) _
      refine XS.iloadN X70.here hx rfl (hb hby d5_34) rfl ?_
      show Steps p.tables e below (T70.setTop (mkF m 35 #[.val (.ref a1), .val (.ref a2), .val (.int (0 : Int32)), .val (.int p4), .val .null, .unset] [(.int (0 : Int32)), (.ref a2)])) _
      refine XS.iloadN X70.here hx rfl (hb hby d5_35) rfl ?_
      show Steps p.tables e below (T70.setTop (mkF m 36 #[.val (.ref a1), .val (.ref a2), .val (.int (0 : Int32)), .val (.int p4), .val .null, .unset] [(.int p4), (.int (0 : Int32)), (.ref a2)])) _
      refine st71 _ ?_
      show Steps p.tables e below (T71.setTop (mkF m 39 #[.val (.ref a1), .val (.ref a2), .val (.int (0 : Int32)), .val (.int p4), .val .null, .unset] [(.ref bb)])) _
      refine XS.astore X71.here hx rfl (hb hby d5_39) rfl rfl (l' := #[.val (.ref a1), .val (.ref a2), .val (.int (0 : Int32)), .val (.int p4), .val .null, .val (.ref bb)]) rfl ?_
      show Steps p.tables e below (T71.setTop (mkF m 41 #[.val (.ref a1), .val (.ref a2), .val (.int (0 : Int32)), .val (.int p4), .val .null, .val (.ref bb)] [])) _
      refine XS.aloadN X71.here hx rfl (hb hby d5_41) rfl rfl ?_
      show Steps p.tables e below (T71.setTop (mkF m 42 #[.val (.ref a1), .val (.ref a2), .val (.int (0 : Int32)), .val (.int p4), .val .null, .val (.ref bb)] [(.ref a1)])) _
      refine XS.aload X71.here hx rfl (hb hby d5_42) rfl rfl ?_
      show Steps p.tables e below (T71.setTop (mkF m 44 #[.val (.ref a1), .val (.ref a2), .val (.int (0 : Int32)), .val (.int p4), .val .null, .val (.ref bb)] [(.ref bb), (.ref a1)])) _
      refine XS.iloadN X71.here hx rfl (hb hby d5_44) rfl ?_
      show Steps p.tables e below (T71.setTop (mkF m 45 #[.val (.ref a1), .val (.ref a2), .val (.int (0 : Int32)), .val (.int p4), .val .null, .val (.ref bb)] [(.int p4), (.ref bb), (.ref a1)])) _
      refine st80 _ ?_
      show Steps p.tables e below (T80.setTop (mkF m 48 #[.val (.ref a1), .val (.ref a2), .val (.int (0 : Int32)), .val (.int p4), .val .null, .val (.ref bb)] [(.int (0 : Int32)), (.ref a1)])) _
      refine st81 _ ?_
      show Steps p.tables e below (T81.setTop (mkF m 51 #[.val (.ref a1), .val (.ref a2), .val (.int (0 : Int32)), .val (.int p4), .val .null, .val (.ref bb)] [])) _
      refine XS.aloadN X81.here hx rfl (hb hby d5_51) rfl rfl ?_
      show Steps p.tables e below (T81.setTop (mkF m 52 #[.val (.ref a1), .val (.ref a2), .val (.int (0 : Int32)), .val (.int p4), .val .null, .val (.ref bb)] [(.ref a1)])) _
      refine XS.aload X81.here hx rfl (hb hby d5_52) rfl rfl ?_
      show Steps p.tables e below (T81.setTop (mkF m 54 #[.val (.ref a1), .val (.ref a2), .val (.int (0 : Int32)), .val (.int p4), .val .null, .val (.ref bb)] [(.ref bb), (.ref a1)])) _
      refine st91 _ ?_
      exact kt
    have CK102 := CHr.keep (Z := Z) (EL := EL1) K100 (sfS SF0_a1 sf0) CH0
    obtain ⟨fs, hr, hrun, hended, hEnd⟩ := X91.leaveW hS (by rw [hE91]; exact Nat.le_trans hk K100.1) (v := none) (fun _ => rfl)
    have CT := CK102.trans (CHv.at (s := s) (vm0 := s.vm) X91 hZ hEL CK102.1)
    refine ⟨_, _, pre101 _ ?_, hrun, hended, _, _, rfl, ?_, ?_, hEnd.1, hEnd.2.1, hEnd.2.2.1, hEnd.2.2.2.mono (by decide) (by decide)⟩
    · show Steps p.tables e below (T91.setTop (mkF m 57 #[.val (.ref a1), .val (.ref a2), .val (.int (0 : Int32)), .val (.int p4), .val .null, .val (.ref bb)] [])) _
      exact X91.returnOut hx Bd.returns (hb hby d5_57) hr
    · show Q5 Z a1 a2 p4 n fc cs fmv h0 n0 _ T91.heap _
      rw [hE91]
      exact ⟨bb, rfl, N99, K100, f92, Fw91, f94, f97⟩
    · rw [hh]
      show CHr Z EL1 s.vm h0 T91.vm T91.heap
      rw [hE91]
      exact CT
theorem pn_4 : plainName "java/lang/String" = true := by first | (simp [plainName, overriddenIn]; done) | decide +kernel
theorem ef_4 (m : MethodId) (x0 : Addr) (x1 : Addr) : entryFrame m #[(.ref x0), (.ref x1)] 2 = mkF m 0 #[.val (.ref x0), .val (.ref x1)] [] := by first | (simp [entryFrame, mkF, argsToLocals, Value.category]; done) | rfl
theorem d4_0 : decode jdk_42_method_3_code 0 = .ok (.aload_n 0, 1) := by decide +kernel
theorem d4_1 : decode jdk_42_method_3_code 1 = .ok (.aload_n 1, 1) := by decide +kernel
theorem d4_2 : decode jdk_42_method_3_code 2 = .ok (.iconst 0, 1) := by decide +kernel
theorem d4_3 : decode jdk_42_method_3_code 3 = .ok (.aload_n 1, 1) := by decide +kernel
theorem d4_4 : decode jdk_42_method_3_code 4 = .ok (.arraylength, 1) := by decide +kernel
theorem d4_5 : decode jdk_42_method_3_code 5 = .ok (.aconst_null, 1) := by decide +kernel
theorem pd_4 : parseMethodDescriptor "([CIILjava/lang/Void;)V" = some ⟨[(.array .char), .int, .int, (.object "java/lang/Void")], none⟩ := by decide +kernel
theorem d4_6 : decode jdk_42_method_3_code 6 = .ok (.invokespecial 27, 3) := by decide +kernel
theorem d4_9 : decode jdk_42_method_3_code 9 = .ok (.return_, 1) := by decide +kernel
def Q4 (Z : State) (a1 : Addr) (a2 : Addr) (n : Nat) (fc : Nat → Int32) (cs : Int32) (fmv : Value) (zn : Int32) (h0 : Heap) (n0 : Nat) (v : Option Value) (h : Heap) (L : List Loc) : Prop := ∃ b : Addr, v = none ∧ Fr n0 L ∧ Keep h0 h [a1] ∧ Exa Z h a1 "java/lang/String" ∧ Fld Z h a1 "java/lang/String" "value" "[B" (.ref b) ∧ Fld Z h a1 "java/lang/String" "coder" "B" (.int (0 : Int32)) ∧ owAI Z h b .byte n (fun i => (fc i).toInt8.toInt32)
set_option maxRecDepth 65536 in
set_option maxHeartbeats 40000000 in
theorem rm4 (l : Launch) (Z : State) (a0 : Array Value) (hw : ∀ d ∈ tables_1, d.before a0 Z = true) (ws : List Jvm.Cond) (a1 : Addr) (a2 : Addr) (n : Nat) (fc : Nat → Int32) (cs : Int32) (fmv : Value) (zn : Int32) (h0 : Heap) (n0 : Nat) (Z0 : n0 ≤ h0.size) (E_a1 : Exa Z h0 a1 "java/lang/String") (F_value : Fld Z h0 a1 "java/lang/String" "value" "[B" .null) (F_coder : Fld Z h0 a1 "java/lang/String" "coder" "B" (.int (0 : Int32))) (A_a2 : owAI Z h0 a2 .char n fc) (g_a1 : n0 ≤ a1) (n12 : a1 ≠ a2) (hfc : OC n fc) (O_x : Old Z n0 h0) (hst : OST Z cs fmv) (hz : zn.toInt = (n : Int)) :
    MetFree l (⟨"java/lang/String", "<init>", "([C)V"⟩ : MethodName) (head1 (Jvm.Cond.code (⟨"java/lang/String", "<init>", "([C)V"⟩ : MethodName) jdk_42_method_3_code 2 none :: ws) ({ frames := 3, cells := 4, slots := 20, locals := 52 } : Room)) (fun a U => a = #[(.ref a1), (.ref a2)] ∧ Z.Warmed39 U.vm ∧ U.heap = h0 ∧ CHv Z EL1 U.vm h0) (fun _ _ _ _ _ => True) (fun _ U o U' => ∃ v L, o = .returned v ∧ Q4 Z a1 a2 n fc cs fmv zn h0 n0 v U'.heap L ∧ CHr Z EL1 U.vm U.heap U'.vm U'.heap ∧ ReturnedEndW U o U' L ({ frames := 3, cells := 4, slots := 20, locals := 52 } : Room).cells ({ frames := 3, cells := 4, slots := 20, locals := 52 } : Room).slots) := by
  refine MetFree.of_bodySF (plainFor_of_name pn_4) hisR ?_
  intro p e s m args below meth c s₁ Bd hml0 hP hK
  obtain ⟨rfl, hZ, hh, CH0⟩ := hP
  have hx := Bd.exec
  have hby := Bd.bytes
  have hml : c.maxLocals = 2 := hml0
  have hown : s.vm.findClass "java/lang/String" = some m.cls := findClass_of_methodNamed Bd.named
  have hnm := (name_of_methodNamed Bd.named Bd.method).1
  have X0 : Stand p l e ({ frames := 3, cells := 4, slots := 20, locals := 52 } : Room) (s.setVm s.vm) m #[(.ref a1), (.ref a2)] below meth c s₁ [] 0 0 := Stand.of_body Bd
  have e0 : s₁.heap = h0 := by rw [← hh, Bd.state]; rfl
  have N0 := Fr.nil n0
  have pre0 : ∀ t, Steps p.tables e below (s₁.setTop (mkF m 0 #[.val (.ref a1), .val (.ref a2)] [])) t → Steps p.tables e below (s₁.setTop (entryFrame m #[(.ref a1), (.ref a2)] 2)) t := fun t k => castTop (ef_4 m a1 a2) k
  have hS : s.Since s.vm 0 := (State.WarmedH.refl s).since 0
  have hk : 0 ≤ h0.size := Nat.zero_le _
  have hEL : EW Z a0 EL1 := own_EW hw
  have hwS := own_wS hw
  have SF0_a1 : Safe Z EL1 s.vm h0 a1 := own_safe hZ.alike E_a1 F_value
  have pre2 : ∀ t, Steps p.tables e below (s₁.setTop (mkF m 6 #[.val (.ref a1), .val (.ref a2)] [.null, (.int zn), (.int (0 : Int32)), (.ref a2), (.ref a1)])) t → Steps p.tables e below (s₁.setTop (entryFrame m #[(.ref a1), (.ref a2)] 2)) t := by
    intro t kt
    refine pre0 _ ?_
    show Steps p.tables e below (s₁.setTop (mkF m 0 #[.val (.ref a1), .val (.ref a2)] [])) _
    refine XS.aloadN X0.here hx rfl (hb hby d4_0) rfl rfl ?_
    show Steps p.tables e below (s₁.setTop (mkF m 1 #[.val (.ref a1), .val (.ref a2)] [(.ref a1)])) _
    refine XS.aloadN X0.here hx rfl (hb hby d4_1) rfl rfl ?_
    show Steps p.tables e below (s₁.setTop (mkF m 2 #[.val (.ref a1), .val (.ref a2)] [(.ref a2), (.ref a1)])) _
    refine XS.iconst X0.here hx rfl (hb hby d4_2) ?_
    show Steps p.tables e below (s₁.setTop (mkF m 3 #[.val (.ref a1), .val (.ref a2)] [(.int (0 : Int32)), (.ref a2), (.ref a1)])) _
    refine XS.aloadN X0.here hx rfl (hb hby d4_3) rfl rfl ?_
    show Steps p.tables e below (s₁.setTop (mkF m 4 #[.val (.ref a1), .val (.ref a2)] [(.ref a2), (.int (0 : Int32)), (.ref a2), (.ref a1)])) _
    refine owLenI X0 hx hZ e0 A_a2 (z := zn) (own_nat32 hz) (g := (mkF m 4 #[.val (.ref a1), .val (.ref a2)] [(.ref a2), (.int (0 : Int32)), (.ref a2), (.ref a1)])) rfl rfl (hb hby d4_4) _ ?_
    show Steps p.tables e below (s₁.setTop (mkF m 5 #[.val (.ref a1), .val (.ref a2)] [(.int zn), (.int (0 : Int32)), (.ref a2), (.ref a1)])) _
    refine XS.aconstNull X0.here hx rfl (hb hby d4_5) ?_
    exact kt
  have CK3 := CHr.keep (Z := Z) (EL := EL1) (Keep.refl h0 [a1]) (sfS SF0_a1 sf0) CH0
  obtain ⟨_, _, ⟨T1, L1, k1, n1⟩, -, X1, hSn, hgr, ⟨Lc1, hQ1, l1, y1, z1, CC1⟩, st1⟩ := X0.specialBackS hx (y := (⟨"java/lang/String", "<init>", "([CIILjava/lang/Void;)V"⟩ : MethodName)) rfl hown (mvT hZ (hw _ (List.mem_of_getElem? (i := 37) rfl))) (mvT hZ (hw _ (List.mem_of_getElem? (i := 38) rfl))) (mvT hZ (hw _ (List.mem_of_getElem? (i := 40) rfl))) (by decide) (backOfSH (s := s) (vm0 := s.vm) (W := 0) (rm5 l Z a0 hw [] a1 a2 zn n fc cs fmv h0 n0 Z0 E_a1 F_value F_coder A_a2 g_a1 n12 hfc O_x hst hz) hZ (hw _ (List.mem_of_getElem? (i := 40) rfl)) (hw _ (List.mem_of_getElem? (i := 33) rfl)) (by decide) (by decide) hEL CK3.1) (g := (mkF m 6 #[.val (.ref a1), .val (.ref a2)] [.null, (.int zn), (.int (0 : Int32)), (.ref a2), (.ref a1)])) rfl (by rw [hml]; rfl) (Steps.refl _) (a := a1) (argsL := [(.ref a2), (.int (0 : Int32)), (.int zn), .null]) (rest := []) (lenOf pd_4 rfl) rfl (by show 2 * 0 + _ ≤ _; exact Nat.le_of_eq rfl) (hb hby d4_6) (fun _ _ => ⟨rfl, e0, (by decide : 0 + 4 ≤ _), (by decide : 0 + 20 ≤ _)⟩)
  dsimp only [Pt.U, Pt.locs, Pt.cells, Pt.slots] at X1 l1 y1 z1 st1 hQ1
  subst l1 y1 z1
  dsimp only [Pt.U, Pt.locs, Pt.cells, Pt.slots] at hSn hgr CC1
  obtain ⟨X1, hS, hZ, hown⟩ := rebS hS (n1 := s₁.heap.size) (by rw [e0]; exact Nat.le_trans hk (Keep.refl h0 [a1]).1) X1 hSn hgr hZ hown
  have hk : T1.heap.size ≤ T1.heap.size := Nat.le_refl _
  obtain ⟨vb, rfl, N1q, K1, p1_E, p1_v, p1_c, p1_A⟩ := hQ1
  have N1 := Fr.app N0 N1q
  have f4 := E_a1.keep K1
  have f7 := A_a2.keep K1 (ninS (Ne.symm n12) nin0)
  have f8 := O_x.keep K1 (allS g_a1 all0)
  have Z9 := Nat.le_trans Z0 K1.1
  have K10 := (Keep.refl h0 [a1]).trans K1 (allS (Or.inl (List.mem_of_getElem? (i := 0) rfl)) all0)
  have CR11 := CK3.trans CC1
  have SF12 := (CK3.trans CC1).safe E_a1.lt SF0_a1
  have pre13 : ∀ t, Steps p.tables e below (T1.setTop (mkF m 9 #[.val (.ref a1), .val (.ref a2)] [])) t → Steps p.tables e below (s₁.setTop (entryFrame m #[(.ref a1), (.ref a2)] 2)) t := by
    intro t kt
    refine pre2 _ ?_
    show Steps p.tables e below (s₁.setTop (mkF m 6 #[.val (.ref a1), .val (.ref a2)] [.null, (.int zn), (.int (0 : Int32)), (.ref a2), (.ref a1)])) _
    refine st1.trans ?_
    exact kt
  have CK14 := CHr.keep (Z := Z) (EL := EL1) (Keep.refl T1.heap [a1]) (sfS SF12 sf0) CC1.1
  obtain ⟨fs, hr, hrun, hended, hEnd⟩ := X1.leaveW hS (Nat.le_trans hk (Keep.refl T1.heap [a1]).1) (v := none) (fun _ => rfl)
  have CT := CK14.trans (CHv.at (s := s) (vm0 := T1.vm) X1 hZ hEL CK14.1)
  refine ⟨_, _, pre13 _ ?_, hrun, hended, _, _, rfl, ?_, ?_, hEnd.1, hEnd.2.1, hEnd.2.2.1, hEnd.2.2.2.mono (by decide) (by decide)⟩
  · show Steps p.tables e below (T1.setTop (mkF m 9 #[.val (.ref a1), .val (.ref a2)] [])) _
    exact X1.returnOut hx Bd.returns (hb hby d4_9) hr
  · show Q4 Z a1 a2 n fc cs fmv zn h0 n0 _ T1.heap _
    exact ⟨vb, rfl, N1, K10, p1_E, p1_v, p1_c, p1_A⟩
  · rw [hh]
    show CHr Z EL1 s.vm h0 T1.vm T1.heap
    exact CR11.trans CT
theorem own_sh (z : Int32) : (z >>> ((0 : Int32) &&& 31)) = z := by
  have h : ((0 : Int32) &&& 31) = 0 := by decide
  rw [h]; simp
theorem pn_13 : plainName "java/lang/String" = true := by first | (simp [plainName, overriddenIn]; done) | decide +kernel
theorem ef_13 (m : MethodId) (x0 : Addr) : entryFrame m #[(.ref x0)] 1 = mkF m 0 #[.val (.ref x0)] [] := by first | (simp [entryFrame, mkF, argsToLocals, Value.category]; done) | rfl
theorem d13_0 : decode jdk_42_method_152_code 0 = .ok (.getstatic 38, 3) := by decide +kernel
theorem d13_3 : decode jdk_42_method_152_code 3 = .ok (.ifCond .eq 10, 3) := by decide +kernel
theorem d13_6 : decode jdk_42_method_152_code 6 = .ok (.aload_n 0, 1) := by decide +kernel
theorem d13_7 : decode jdk_42_method_152_code 7 = .ok (.getfield 15, 3) := by decide +kernel
theorem d13_10 : decode jdk_42_method_152_code 10 = .ok (.goto 4, 3) := by decide +kernel
theorem d13_14 : decode jdk_42_method_152_code 14 = .ok (.ireturn, 1) := by decide +kernel
def Q13 (Z : State) (a1 : Addr) (b : Addr) (zn : Int32) (n : Nat) (fc : Nat → Int32) (cs : Int32) (fmv : Value) (h0 : Heap) (n0 : Nat) (v : Option Value) (h : Heap) (L : List Loc) : Prop := v = some (.int (0 : Int32)) ∧ Fr n0 L ∧ h = h0
set_option maxRecDepth 65536 in
set_option maxHeartbeats 40000000 in
theorem rm13 (l : Launch) (Z : State) (a0 : Array Value) (hw : ∀ d ∈ tables_1, d.before a0 Z = true) (ws : List Jvm.Cond) (a1 : Addr) (b : Addr) (zn : Int32) (n : Nat) (fc : Nat → Int32) (cs : Int32) (fmv : Value) (h0 : Heap) (n0 : Nat) (Z0 : n0 ≤ h0.size) (E_a1 : Exa Z h0 a1 "java/lang/String") (Fv : Fld Z h0 a1 "java/lang/String" "value" "[B" (.ref b)) (Fc : Fld Z h0 a1 "java/lang/String" "coder" "B" (.int (0 : Int32))) (A_b : owAI Z h0 b .byte n (fun i => (fc i).toInt8.toInt32)) (hz : zn.toInt = (n : Int)) (hfc : OC n fc) (O_x : Old Z n0 h0) (hst : OST Z cs fmv) :
    MetFree l (⟨"java/lang/String", "coder", "()B"⟩ : MethodName) (head1 (Jvm.Cond.code (⟨"java/lang/String", "coder", "()B"⟩ : MethodName) jdk_42_method_152_code 1 (some .byte) :: ws) ({ frames := 0, cells := 0, slots := 0, locals := 0 } : Room)) (fun a U => a = #[(.ref a1)] ∧ Z.Warmed39 U.vm ∧ U.heap = h0) (fun _ _ _ _ _ => True) (fun _ U o U' => ∃ v L, o = .returned v ∧ Q13 Z a1 b zn n fc cs fmv h0 n0 v U'.heap L ∧ FrameEnd U o U' L ({ frames := 0, cells := 0, slots := 0, locals := 0 } : Room).cells ({ frames := 0, cells := 0, slots := 0, locals := 0 } : Room).slots) := by
  refine MetFree.of_bodySF (plainFor_of_name pn_13) hisR ?_
  intro p e s m args below meth c s₁ Bd hml0 hP hK
  obtain ⟨rfl, hZ, hh⟩ := hP
  have hx := Bd.exec
  have hby := Bd.bytes
  have hml : c.maxLocals = 1 := hml0
  have hown : s.vm.findClass "java/lang/String" = some m.cls := findClass_of_methodNamed Bd.named
  have hnm := (name_of_methodNamed Bd.named Bd.method).1
  have X0 : Stand p l e ({ frames := 0, cells := 0, slots := 0, locals := 0 } : Room) s m #[(.ref a1)] below meth c s₁ [] 0 0 := Stand.of_body Bd
  have e0 : s₁.heap = h0 := by rw [← hh, Bd.state]; rfl
  have N0 := Fr.nil n0
  have pre0 : ∀ t, Steps p.tables e below (s₁.setTop (mkF m 0 #[.val (.ref a1)] [])) t → Steps p.tables e below (s₁.setTop (entryFrame m #[(.ref a1)] 1)) t := fun t k => castTop (ef_13 m a1) k
  have S1 := hst.1.ext O_x.2
  obtain ⟨T2, X2, hE2, st2⟩ := getS2 X0 hx hZ hown (host := "") (Or.inl (hw _ (List.mem_of_getElem? (i := 44) rfl))) Via.refl e0 S1 (g := (mkF m 0 #[.val (.ref a1)] [])) rfl (hb hby d13_0)
  obtain ⟨T3, X3, hE3, st3⟩ := getF X2 hx hZ hown (host := "") (Or.inl (hw _ (List.mem_of_getElem? (i := 56) rfl))) Via.refl hE2 Fc (g := (mkF m 7 #[.val (.ref a1)] [(.ref a1)])) rfl rfl (hb hby d13_7)
  have pre4 : ∀ t, Steps p.tables e below (T3.setTop (mkF m 14 #[.val (.ref a1)] [(.int (0 : Int32))])) t → Steps p.tables e below (s₁.setTop (entryFrame m #[(.ref a1)] 1)) t := by
    intro t kt
    refine pre0 _ ?_
    show Steps p.tables e below (s₁.setTop (mkF m 0 #[.val (.ref a1)] [])) _
    refine st2 _ ?_
    show Steps p.tables e below (T2.setTop (mkF m 3 #[.val (.ref a1)] [(.int cs)])) _
    refine XS.ifNo X2.here hx rfl (hb hby d13_3) rfl (XT.i0_eq_f hst.2.1) ?_
    show Steps p.tables e below (T2.setTop (mkF m 6 #[.val (.ref a1)] [])) _
    refine XS.aloadN X2.here hx rfl (hb hby d13_6) rfl rfl ?_
    show Steps p.tables e below (T2.setTop (mkF m 7 #[.val (.ref a1)] [(.ref a1)])) _
    refine st3 _ ?_
    show Steps p.tables e below (T3.setTop (mkF m 10 #[.val (.ref a1)] [(.int (0 : Int32))])) _
    refine XS.goto X3.here hx rfl (pc0 := 10) (pc' := 14) rfl (hb hby d13_10) (by decide) (by decide) ?_
    exact kt
  obtain ⟨fs, hr, hrun, hended, hW, hsame⟩ := X3.leave (v := some (.int (0 : Int32))) (fun h => by rw [Bd.returns] at h; cases h)
  refine ⟨_, _, pre4 _ ?_, hrun, hended, _, _, rfl, ?_, ⟨_, rfl⟩, hW, hsame.mono (by decide) (by decide)⟩
  · show Steps p.tables e below (T3.setTop (mkF m 14 #[.val (.ref a1)] [(.int (0 : Int32))])) _
    exact retN X3 hx (t := .byte) Bd.returns (by simp) (hb hby d13_14) hr
  · show Q13 Z a1 b zn n fc cs fmv h0 n0 _ T3.heap _
    rw [hE3]
    exact ⟨rfl, N0, rfl⟩
theorem pn_15 : plainName "java/lang/String" = true := by first | (simp [plainName, overriddenIn]; done) | decide +kernel
theorem ef_15 (m : MethodId) (x0 : Addr) : entryFrame m #[(.ref x0)] 1 = mkF m 0 #[.val (.ref x0)] [] := by first | (simp [entryFrame, mkF, argsToLocals, Value.category]; done) | rfl
theorem d15_0 : decode jdk_42_method_154_code 0 = .ok (.getstatic 38, 3) := by decide +kernel
theorem d15_3 : decode jdk_42_method_154_code 3 = .ok (.ifCond .eq 14, 3) := by decide +kernel
theorem d15_6 : decode jdk_42_method_154_code 6 = .ok (.aload_n 0, 1) := by decide +kernel
theorem d15_7 : decode jdk_42_method_154_code 7 = .ok (.getfield 15, 3) := by decide +kernel
theorem d15_10 : decode jdk_42_method_154_code 10 = .ok (.ifCond .ne 7, 3) := by decide +kernel
theorem d15_13 : decode jdk_42_method_154_code 13 = .ok (.iconst 1, 1) := by decide +kernel
theorem d15_14 : decode jdk_42_method_154_code 14 = .ok (.goto 4, 3) := by decide +kernel
theorem d15_18 : decode jdk_42_method_154_code 18 = .ok (.ireturn, 1) := by decide +kernel
def Q15 (Z : State) (a1 : Addr) (b : Addr) (zn : Int32) (n : Nat) (fc : Nat → Int32) (cs : Int32) (fmv : Value) (h0 : Heap) (n0 : Nat) (v : Option Value) (h : Heap) (L : List Loc) : Prop := v = some (.int (1 : Int32)) ∧ Fr n0 L ∧ h = h0
set_option maxRecDepth 65536 in
set_option maxHeartbeats 40000000 in
theorem rm15 (l : Launch) (Z : State) (a0 : Array Value) (hw : ∀ d ∈ tables_1, d.before a0 Z = true) (ws : List Jvm.Cond) (a1 : Addr) (b : Addr) (zn : Int32) (n : Nat) (fc : Nat → Int32) (cs : Int32) (fmv : Value) (h0 : Heap) (n0 : Nat) (Z0 : n0 ≤ h0.size) (E_a1 : Exa Z h0 a1 "java/lang/String") (Fv : Fld Z h0 a1 "java/lang/String" "value" "[B" (.ref b)) (Fc : Fld Z h0 a1 "java/lang/String" "coder" "B" (.int (0 : Int32))) (A_b : owAI Z h0 b .byte n (fun i => (fc i).toInt8.toInt32)) (hz : zn.toInt = (n : Int)) (hfc : OC n fc) (O_x : Old Z n0 h0) (hst : OST Z cs fmv) :
    MetFree l (⟨"java/lang/String", "isLatin1", "()Z"⟩ : MethodName) (head1 (Jvm.Cond.code (⟨"java/lang/String", "isLatin1", "()Z"⟩ : MethodName) jdk_42_method_154_code 1 (some .boolean) :: ws) ({ frames := 0, cells := 0, slots := 0, locals := 0 } : Room)) (fun a U => a = #[(.ref a1)] ∧ Z.Warmed39 U.vm ∧ U.heap = h0) (fun _ _ _ _ _ => True) (fun _ U o U' => ∃ v L, o = .returned v ∧ Q15 Z a1 b zn n fc cs fmv h0 n0 v U'.heap L ∧ FrameEnd U o U' L ({ frames := 0, cells := 0, slots := 0, locals := 0 } : Room).cells ({ frames := 0, cells := 0, slots := 0, locals := 0 } : Room).slots) := by
  refine MetFree.of_bodySF (plainFor_of_name pn_15) hisR ?_
  intro p e s m args below meth c s₁ Bd hml0 hP hK
  obtain ⟨rfl, hZ, hh⟩ := hP
  have hx := Bd.exec
  have hby := Bd.bytes
  have hml : c.maxLocals = 1 := hml0
  have hown : s.vm.findClass "java/lang/String" = some m.cls := findClass_of_methodNamed Bd.named
  have hnm := (name_of_methodNamed Bd.named Bd.method).1
  have X0 : Stand p l e ({ frames := 0, cells := 0, slots := 0, locals := 0 } : Room) s m #[(.ref a1)] below meth c s₁ [] 0 0 := Stand.of_body Bd
  have e0 : s₁.heap = h0 := by rw [← hh, Bd.state]; rfl
  have N0 := Fr.nil n0
  have pre0 : ∀ t, Steps p.tables e below (s₁.setTop (mkF m 0 #[.val (.ref a1)] [])) t → Steps p.tables e below (s₁.setTop (entryFrame m #[(.ref a1)] 1)) t := fun t k => castTop (ef_15 m a1) k
  have S1 := hst.1.ext O_x.2
  obtain ⟨T2, X2, hE2, st2⟩ := getS2 X0 hx hZ hown (host := "") (Or.inl (hw _ (List.mem_of_getElem? (i := 44) rfl))) Via.refl e0 S1 (g := (mkF m 0 #[.val (.ref a1)] [])) rfl (hb hby d15_0)
  obtain ⟨T3, X3, hE3, st3⟩ := getF X2 hx hZ hown (host := "") (Or.inl (hw _ (List.mem_of_getElem? (i := 56) rfl))) Via.refl hE2 Fc (g := (mkF m 7 #[.val (.ref a1)] [(.ref a1)])) rfl rfl (hb hby d15_7)
  have pre4 : ∀ t, Steps p.tables e below (T3.setTop (mkF m 18 #[.val (.ref a1)] [(.int (1 : Int32))])) t → Steps p.tables e below (s₁.setTop (entryFrame m #[(.ref a1)] 1)) t := by
    intro t kt
    refine pre0 _ ?_
    show Steps p.tables e below (s₁.setTop (mkF m 0 #[.val (.ref a1)] [])) _
    refine st2 _ ?_
    show Steps p.tables e below (T2.setTop (mkF m 3 #[.val (.ref a1)] [(.int cs)])) _
    refine XS.ifNo X2.here hx rfl (hb hby d15_3) rfl (XT.i0_eq_f hst.2.1) ?_
    show Steps p.tables e below (T2.setTop (mkF m 6 #[.val (.ref a1)] [])) _
    refine XS.aloadN X2.here hx rfl (hb hby d15_6) rfl rfl ?_
    show Steps p.tables e below (T2.setTop (mkF m 7 #[.val (.ref a1)] [(.ref a1)])) _
    refine st3 _ ?_
    show Steps p.tables e below (T3.setTop (mkF m 10 #[.val (.ref a1)] [(.int (0 : Int32))])) _
    refine XS.ifNo X3.here hx rfl (hb hby d15_10) rfl (XT.i0_ne_f (by decide)) ?_
    show Steps p.tables e below (T3.setTop (mkF m 13 #[.val (.ref a1)] [])) _
    refine XS.iconst X3.here hx rfl (hb hby d15_13) ?_
    show Steps p.tables e below (T3.setTop (mkF m 14 #[.val (.ref a1)] [(.int (1 : Int32))])) _
    refine XS.goto X3.here hx rfl (pc0 := 14) (pc' := 18) rfl (hb hby d15_14) (by decide) (by decide) ?_
    exact kt
  obtain ⟨fs, hr, hrun, hended, hW, hsame⟩ := X3.leave (v := some (.int (1 : Int32))) (fun h => by rw [Bd.returns] at h; cases h)
  refine ⟨_, _, pre4 _ ?_, hrun, hended, _, _, rfl, ?_, ⟨_, rfl⟩, hW, hsame.mono (by decide) (by decide)⟩
  · show Steps p.tables e below (T3.setTop (mkF m 18 #[.val (.ref a1)] [(.int (1 : Int32))])) _
    exact retN X3 hx (t := .boolean) Bd.returns (by simp) (hb hby d15_18) hr
  · show Q15 Z a1 b zn n fc cs fmv h0 n0 _ T3.heap _
    rw [hE3]
    exact ⟨rfl, N0, rfl⟩
theorem pn_11 : plainName "java/lang/String" = true := by first | (simp [plainName, overriddenIn]; done) | decide +kernel
theorem ef_11 (m : MethodId) (x0 : Addr) : entryFrame m #[(.ref x0)] 1 = mkF m 0 #[.val (.ref x0)] [] := by first | (simp [entryFrame, mkF, argsToLocals, Value.category]; done) | rfl
theorem d11_0 : decode jdk_42_method_55_code 0 = .ok (.aload_n 0, 1) := by decide +kernel
theorem d11_1 : decode jdk_42_method_55_code 1 = .ok (.getfield 9, 3) := by decide +kernel
theorem d11_4 : decode jdk_42_method_55_code 4 = .ok (.arraylength, 1) := by decide +kernel
theorem d11_5 : decode jdk_42_method_55_code 5 = .ok (.ifCond .ne 7, 3) := by decide +kernel
theorem d11_8 : decode jdk_42_method_55_code 8 = .ok (.iconst 1, 1) := by decide +kernel
theorem d11_9 : decode jdk_42_method_55_code 9 = .ok (.goto 4, 3) := by decide +kernel
theorem d11_13 : decode jdk_42_method_55_code 13 = .ok (.ireturn, 1) := by decide +kernel
theorem d11_12 : decode jdk_42_method_55_code 12 = .ok (.iconst 0, 1) := by decide +kernel
def Q11 (Z : State) (a1 : Addr) (b : Addr) (zn : Int32) (n : Nat) (fc : Nat → Int32) (cs : Int32) (fmv : Value) (h0 : Heap) (n0 : Nat) (v : Option Value) (h : Heap) (L : List Loc) : Prop := v = some (.int (if zn = (0 : Int32) then (1 : Int32) else (0 : Int32))) ∧ Fr n0 L ∧ h = h0
set_option maxRecDepth 65536 in
set_option maxHeartbeats 40000000 in
theorem rm11 (l : Launch) (Z : State) (a0 : Array Value) (hw : ∀ d ∈ tables_1, d.before a0 Z = true) (ws : List Jvm.Cond) (a1 : Addr) (b : Addr) (zn : Int32) (n : Nat) (fc : Nat → Int32) (cs : Int32) (fmv : Value) (h0 : Heap) (n0 : Nat) (Z0 : n0 ≤ h0.size) (E_a1 : Exa Z h0 a1 "java/lang/String") (Fv : Fld Z h0 a1 "java/lang/String" "value" "[B" (.ref b)) (Fc : Fld Z h0 a1 "java/lang/String" "coder" "B" (.int (0 : Int32))) (A_b : owAI Z h0 b .byte n (fun i => (fc i).toInt8.toInt32)) (hz : zn.toInt = (n : Int)) (hfc : OC n fc) (O_x : Old Z n0 h0) (hst : OST Z cs fmv) :
    MetFree l (⟨"java/lang/String", "isEmpty", "()Z"⟩ : MethodName) (head1 (Jvm.Cond.code (⟨"java/lang/String", "isEmpty", "()Z"⟩ : MethodName) jdk_42_method_55_code 1 (some .boolean) :: ws) ({ frames := 0, cells := 0, slots := 0, locals := 0 } : Room)) (fun a U => a = #[(.ref a1)] ∧ Z.Warmed39 U.vm ∧ U.heap = h0) (fun _ _ _ _ _ => True) (fun _ U o U' => ∃ v L, o = .returned v ∧ Q11 Z a1 b zn n fc cs fmv h0 n0 v U'.heap L ∧ FrameEnd U o U' L ({ frames := 0, cells := 0, slots := 0, locals := 0 } : Room).cells ({ frames := 0, cells := 0, slots := 0, locals := 0 } : Room).slots) := by
  refine MetFree.of_bodySF (plainFor_of_name pn_11) hisR ?_
  intro p e s m args below meth c s₁ Bd hml0 hP hK
  obtain ⟨rfl, hZ, hh⟩ := hP
  have hx := Bd.exec
  have hby := Bd.bytes
  have hml : c.maxLocals = 1 := hml0
  have hown : s.vm.findClass "java/lang/String" = some m.cls := findClass_of_methodNamed Bd.named
  have hnm := (name_of_methodNamed Bd.named Bd.method).1
  have X0 : Stand p l e ({ frames := 0, cells := 0, slots := 0, locals := 0 } : Room) s m #[(.ref a1)] below meth c s₁ [] 0 0 := Stand.of_body Bd
  have e0 : s₁.heap = h0 := by rw [← hh, Bd.state]; rfl
  have N0 := Fr.nil n0
  have pre0 : ∀ t, Steps p.tables e below (s₁.setTop (mkF m 0 #[.val (.ref a1)] [])) t → Steps p.tables e below (s₁.setTop (entryFrame m #[(.ref a1)] 1)) t := fun t k => castTop (ef_11 m a1) k
  obtain ⟨T1, X1, hE1, st1⟩ := getF X0 hx hZ hown (host := "") (Or.inl (hw _ (List.mem_of_getElem? (i := 58) rfl))) Via.refl e0 Fv (g := (mkF m 1 #[.val (.ref a1)] [(.ref a1)])) rfl rfl (hb hby d11_1)
  have pre2 : ∀ t, Steps p.tables e below (T1.setTop (mkF m 5 #[.val (.ref a1)] [(.int zn)])) t → Steps p.tables e below (s₁.setTop (entryFrame m #[(.ref a1)] 1)) t := by
    intro t kt
    refine pre0 _ ?_
    show Steps p.tables e below (s₁.setTop (mkF m 0 #[.val (.ref a1)] [])) _
    refine XS.aloadN X0.here hx rfl (hb hby d11_0) rfl rfl ?_
    show Steps p.tables e below (s₁.setTop (mkF m 1 #[.val (.ref a1)] [(.ref a1)])) _
    refine st1 _ ?_
    show Steps p.tables e below (T1.setTop (mkF m 4 #[.val (.ref a1)] [(.ref b)])) _
    refine owLenI X1 hx hZ hE1 A_b (z := zn) (own_nat32 hz) (g := (mkF m 4 #[.val (.ref a1)] [(.ref b)])) rfl rfl (hb hby d11_4) _ ?_
    exact kt
  by_cases hc5_3 : zn = (0 : Int32)
  · skip
    have pre4 : ∀ t, Steps p.tables e below (T1.setTop (mkF m 13 #[.val (.ref a1)] [(.int (1 : Int32))])) t → Steps p.tables e below (s₁.setTop (entryFrame m #[(.ref a1)] 1)) t := by
      intro t kt
      refine pre2 _ ?_
      show Steps p.tables e below (T1.setTop (mkF m 5 #[.val (.ref a1)] [(.int zn)])) _
      refine XS.ifNo X1.here hx rfl (hb hby d11_5) rfl (XT.i0_ne_f hc5_3) ?_
      show Steps p.tables e below (T1.setTop (mkF m 8 #[.val (.ref a1)] [])) _
      refine XS.iconst X1.here hx rfl (hb hby d11_8) ?_
      show Steps p.tables e below (T1.setTop (mkF m 9 #[.val (.ref a1)] [(.int (1 : Int32))])) _
      refine XS.goto X1.here hx rfl (pc0 := 9) (pc' := 13) rfl (hb hby d11_9) (by decide) (by decide) ?_
      exact kt
    obtain ⟨fs, hr, hrun, hended, hW, hsame⟩ := X1.leave (v := some (.int (1 : Int32))) (fun h => by rw [Bd.returns] at h; cases h)
    refine ⟨_, _, pre4 _ ?_, hrun, hended, _, _, rfl, ?_, ⟨_, rfl⟩, hW, hsame.mono (by decide) (by decide)⟩
    · show Steps p.tables e below (T1.setTop (mkF m 13 #[.val (.ref a1)] [(.int (1 : Int32))])) _
      exact retN X1 hx (t := .boolean) Bd.returns (by simp) (hb hby d11_13) hr
    · show Q11 Z a1 b zn n fc cs fmv h0 n0 _ T1.heap _
      rw [hE1]
      exact ⟨by rw [if_pos hc5_3], N0, rfl⟩
  · skip
    have pre5 : ∀ t, Steps p.tables e below (T1.setTop (mkF m 13 #[.val (.ref a1)] [(.int (0 : Int32))])) t → Steps p.tables e below (s₁.setTop (entryFrame m #[(.ref a1)] 1)) t := by
      intro t kt
      refine pre2 _ ?_
      show Steps p.tables e below (T1.setTop (mkF m 5 #[.val (.ref a1)] [(.int zn)])) _
      refine XS.ifYes X1.here hx rfl (pc0 := 5) (pc' := 12) rfl (hb hby d11_5) rfl (XT.i0_ne_t hc5_3) (by decide) (by decide) ?_
      show Steps p.tables e below (T1.setTop (mkF m 12 #[.val (.ref a1)] [])) _
      refine XS.iconst X1.here hx rfl (hb hby d11_12) ?_
      exact kt
    obtain ⟨fs, hr, hrun, hended, hW, hsame⟩ := X1.leave (v := some (.int (0 : Int32))) (fun h => by rw [Bd.returns] at h; cases h)
    refine ⟨_, _, pre5 _ ?_, hrun, hended, _, _, rfl, ?_, ⟨_, rfl⟩, hW, hsame.mono (by decide) (by decide)⟩
    · show Steps p.tables e below (T1.setTop (mkF m 13 #[.val (.ref a1)] [(.int (0 : Int32))])) _
      exact retN X1 hx (t := .boolean) Bd.returns (by simp) (hb hby d11_13) hr
    · show Q11 Z a1 b zn n fc cs fmv h0 n0 _ T1.heap _
      rw [hE1]
      exact ⟨by rw [if_neg hc5_3], N0, rfl⟩
theorem pn_12 : plainName "java/lang/String" = true := by first | (simp [plainName, overriddenIn]; done) | decide +kernel
theorem ef_12 (m : MethodId) (x0 : Addr) : entryFrame m #[(.ref x0)] 1 = mkF m 0 #[.val (.ref x0)] [] := by first | (simp [entryFrame, mkF, argsToLocals, Value.category]; done) | rfl
theorem d12_0 : decode jdk_42_method_54_code 0 = .ok (.aload_n 0, 1) := by decide +kernel
theorem d12_1 : decode jdk_42_method_54_code 1 = .ok (.getfield 9, 3) := by decide +kernel
theorem d12_4 : decode jdk_42_method_54_code 4 = .ok (.arraylength, 1) := by decide +kernel
theorem d12_5 : decode jdk_42_method_54_code 5 = .ok (.aload_n 0, 1) := by decide +kernel
theorem pd_5 : parseMethodDescriptor "()B" = some ⟨[], some .byte⟩ := by decide +kernel
theorem d12_6 : decode jdk_42_method_54_code 6 = .ok (.invokevirtual 335, 3) := by decide +kernel
theorem d12_9 : decode jdk_42_method_54_code 9 = .ok (.ishr, 1) := by decide +kernel
theorem d12_10 : decode jdk_42_method_54_code 10 = .ok (.ireturn, 1) := by decide +kernel
def Q12 (Z : State) (a1 : Addr) (b : Addr) (zn : Int32) (n : Nat) (fc : Nat → Int32) (cs : Int32) (fmv : Value) (h0 : Heap) (n0 : Nat) (v : Option Value) (h : Heap) (L : List Loc) : Prop := v = some (.int zn) ∧ Fr n0 L ∧ h = h0
set_option maxRecDepth 65536 in
set_option maxHeartbeats 40000000 in
theorem rm12 (l : Launch) (Z : State) (a0 : Array Value) (hw : ∀ d ∈ tables_1, d.before a0 Z = true) (ws : List Jvm.Cond) (a1 : Addr) (b : Addr) (zn : Int32) (n : Nat) (fc : Nat → Int32) (cs : Int32) (fmv : Value) (h0 : Heap) (n0 : Nat) (Z0 : n0 ≤ h0.size) (E_a1 : Exa Z h0 a1 "java/lang/String") (Fv : Fld Z h0 a1 "java/lang/String" "value" "[B" (.ref b)) (Fc : Fld Z h0 a1 "java/lang/String" "coder" "B" (.int (0 : Int32))) (A_b : owAI Z h0 b .byte n (fun i => (fc i).toInt8.toInt32)) (hz : zn.toInt = (n : Int)) (hfc : OC n fc) (O_x : Old Z n0 h0) (hst : OST Z cs fmv) :
    MetFree l (⟨"java/lang/String", "length", "()I"⟩ : MethodName) (head1 (Jvm.Cond.code (⟨"java/lang/String", "length", "()I"⟩ : MethodName) jdk_42_method_54_code 1 (some .int) :: ws) ({ frames := 1, cells := 0, slots := 0, locals := 13 } : Room)) (fun a U => a = #[(.ref a1)] ∧ Z.Warmed39 U.vm ∧ U.heap = h0) (fun _ _ _ _ _ => True) (fun _ U o U' => ∃ v L, o = .returned v ∧ Q12 Z a1 b zn n fc cs fmv h0 n0 v U'.heap L ∧ FrameEnd U o U' L ({ frames := 1, cells := 0, slots := 0, locals := 13 } : Room).cells ({ frames := 1, cells := 0, slots := 0, locals := 13 } : Room).slots) := by
  refine MetFree.of_bodySF (plainFor_of_name pn_12) hisR ?_
  intro p e s m args below meth c s₁ Bd hml0 hP hK
  obtain ⟨rfl, hZ, hh⟩ := hP
  have hx := Bd.exec
  have hby := Bd.bytes
  have hml : c.maxLocals = 1 := hml0
  have hown : s.vm.findClass "java/lang/String" = some m.cls := findClass_of_methodNamed Bd.named
  have hnm := (name_of_methodNamed Bd.named Bd.method).1
  have X0 : Stand p l e ({ frames := 1, cells := 0, slots := 0, locals := 13 } : Room) s m #[(.ref a1)] below meth c s₁ [] 0 0 := Stand.of_body Bd
  have e0 : s₁.heap = h0 := by rw [← hh, Bd.state]; rfl
  have N0 := Fr.nil n0
  have pre0 : ∀ t, Steps p.tables e below (s₁.setTop (mkF m 0 #[.val (.ref a1)] [])) t → Steps p.tables e below (s₁.setTop (entryFrame m #[(.ref a1)] 1)) t := fun t k => castTop (ef_12 m a1) k
  obtain ⟨T1, X1, hE1, st1⟩ := getF X0 hx hZ hown (host := "") (Or.inl (hw _ (List.mem_of_getElem? (i := 58) rfl))) Via.refl e0 Fv (g := (mkF m 1 #[.val (.ref a1)] [(.ref a1)])) rfl rfl (hb hby d12_1)
  obtain ⟨cq2, kq2, q2a, q2b, q2c⟩ := isOf hZ hE1 E_a1
  obtain ⟨_, _, ⟨T2, L2, k2, n2⟩, -, X2, ⟨Lc2, hQ2, l2, y2, z2⟩, st2⟩ := X1.virtualBack hx (y := (⟨"java/lang/String", "coder", "()B"⟩ : MethodName)) (z := (⟨"java/lang/String", "coder", "()B"⟩ : MethodName)) hown (mvT hZ (hw _ (List.mem_of_getElem? (i := 74) rfl))) (mvT hZ (hw _ (List.mem_of_getElem? (i := 75) rfl))) (notFace_of_selects (args := #[]) (mvT hZ (hw _ (List.mem_of_getElem? (i := 77) rfl)))) (mvT hZ (hw _ (List.mem_of_getElem? (i := 77) rfl))) (mvT hZ (hw _ (List.mem_of_getElem? (i := 76) rfl))) (by decide) (backOf (W := 1) (rm13 l Z a0 hw [] a1 b zn n fc cs fmv h0 n0 Z0 E_a1 Fv Fc A_b hz hfc O_x hst) hZ (hw _ (List.mem_of_getElem? (i := 78) rfl)) (hw _ (List.mem_of_getElem? (i := 33) rfl)) (by decide) (by decide)) q2a q2c (g := (mkF m 6 #[.val (.ref a1)] [(.ref a1), (.int zn)])) rfl (by rw [hml]; rfl) (Steps.refl _) (argsL := []) (rest := [(.int zn)]) (lenOf pd_5 rfl) rfl (by show 2 * 0 + _ ≤ _; exact Nat.le_of_eq rfl) (hb hby d12_6) (fun _ _ => ⟨rfl, hE1, (by decide : 0 + 0 ≤ _), (by decide : 0 + 0 ≤ _)⟩)
  dsimp only [Pt.U, Pt.locs, Pt.cells, Pt.slots] at X2 l2 y2 z2 st2 hQ2
  subst l2 y2 z2
  obtain ⟨rfl, N2q, hE2⟩ := hQ2
  have N2 := Fr.app N0 N2q
  have pre3 : ∀ t, Steps p.tables e below (T2.setTop (mkF m 10 #[.val (.ref a1)] [(.int (zn >>> ((0 : Int32) &&& 31)))])) t → Steps p.tables e below (s₁.setTop (entryFrame m #[(.ref a1)] 1)) t := by
    intro t kt
    refine pre0 _ ?_
    show Steps p.tables e below (s₁.setTop (mkF m 0 #[.val (.ref a1)] [])) _
    refine XS.aloadN X0.here hx rfl (hb hby d12_0) rfl rfl ?_
    show Steps p.tables e below (s₁.setTop (mkF m 1 #[.val (.ref a1)] [(.ref a1)])) _
    refine st1 _ ?_
    show Steps p.tables e below (T1.setTop (mkF m 4 #[.val (.ref a1)] [(.ref b)])) _
    refine owLenI X1 hx hZ hE1 A_b (z := zn) (own_nat32 hz) (g := (mkF m 4 #[.val (.ref a1)] [(.ref b)])) rfl rfl (hb hby d12_4) _ ?_
    show Steps p.tables e below (T1.setTop (mkF m 5 #[.val (.ref a1)] [(.int zn)])) _
    refine XS.aloadN X1.here hx rfl (hb hby d12_5) rfl rfl ?_
    show Steps p.tables e below (T1.setTop (mkF m 6 #[.val (.ref a1)] [(.ref a1), (.int zn)])) _
    refine st2.trans ?_
    show Steps p.tables e below (T2.setTop (mkF m 9 #[.val (.ref a1)] [(.int (0 : Int32)), (.int zn)])) _
    refine XS.ishr X2.here hx rfl (hb hby d12_9) rfl ?_
    exact kt
  have ql4 : (zn >>> ((0 : Int32) &&& 31)) = zn := (own_sh zn)
  have pre5 : ∀ t, Steps p.tables e below (T2.setTop (mkF m 10 #[.val (.ref a1)] [(.int zn)])) t → Steps p.tables e below (s₁.setTop (entryFrame m #[(.ref a1)] 1)) t := by
    intro t kt
    refine pre3 _ ?_
    rw [ql4]
    exact kt
  obtain ⟨fs, hr, hrun, hended, hW, hsame⟩ := X2.leave (v := some (.int zn)) (fun h => by rw [Bd.returns] at h; cases h)
  refine ⟨_, _, pre5 _ ?_, hrun, hended, _, _, rfl, ?_, ⟨_, rfl⟩, hW, hsame.mono (by decide) (by decide)⟩
  · show Steps p.tables e below (T2.setTop (mkF m 10 #[.val (.ref a1)] [(.int zn)])) _
    exact owRetI X2 hx Bd.returns (hb hby d12_10) hr
  · show Q12 Z a1 b zn n fc cs fmv h0 n0 _ T2.heap _
    rw [hE2]
    exact ⟨rfl, N2, rfl⟩
theorem pn_18r : plainName "jdk/internal/util/Preconditions" = true := by first | (simp [plainName, overriddenIn]; done) | decide +kernel
theorem ef_18r (m : MethodId) (x0 : Int32) (x1 : Int32) (x2 : Addr) : entryFrame m #[(.int x0), (.int x1), (.ref x2)] 3 = mkF m 0 #[.val (.int x0), .val (.int x1), .val (.ref x2)] [] := by first | (simp [entryFrame, mkF, argsToLocals, Value.category]; done) | rfl
theorem d18_0 : decode jdk_41_method_11_code 0 = .ok (.iload_n 0, 1) := by decide +kernel
theorem d18_1 : decode jdk_41_method_11_code 1 = .ok (.ifCond .lt 8, 3) := by decide +kernel
theorem d18_4 : decode jdk_41_method_11_code 4 = .ok (.iload_n 0, 1) := by decide +kernel
theorem d18_5 : decode jdk_41_method_11_code 5 = .ok (.iload_n 1, 1) := by decide +kernel
theorem d18_6 : decode jdk_41_method_11_code 6 = .ok (.if_icmp .lt 10, 3) := by decide +kernel
theorem d18_16 : decode jdk_41_method_11_code 16 = .ok (.iload_n 0, 1) := by decide +kernel
theorem d18_17 : decode jdk_41_method_11_code 17 = .ok (.ireturn, 1) := by decide +kernel
def Q18r (Z : State) (p1 : Int32) (p2 : Int32) (a3 : Addr) (h0 : Heap) (n0 : Nat) (v : Option Value) (h : Heap) (L : List Loc) : Prop := v = some (.int p1) ∧ Fr n0 L ∧ h = h0
set_option maxRecDepth 65536 in
set_option maxHeartbeats 40000000 in
theorem rm18r (l : Launch) (Z : State) (a0 : Array Value) (hw : ∀ d ∈ tables_1, d.before a0 Z = true) (ws : List Jvm.Cond) (p1 : Int32) (p2 : Int32) (a3 : Addr) (h0 : Heap) (n0 : Nat) (Z0 : n0 ≤ h0.size) (hp1 : ¬ p1 < (0 : Int32)) (hp2 : p1 < p2) :
    MetFree l (⟨"jdk/internal/util/Preconditions", "checkIndex", "(IILjava/util/function/BiFunction;)I"⟩ : MethodName) (head1 (Jvm.Cond.code (⟨"jdk/internal/util/Preconditions", "checkIndex", "(IILjava/util/function/BiFunction;)I"⟩ : MethodName) jdk_41_method_11_code 3 (some .int) :: ws) ({ frames := 0, cells := 0, slots := 0, locals := 0 } : Room)) (fun a U => a = #[(.int p1), (.int p2), (.ref a3)] ∧ Z.Warmed39 U.vm ∧ U.heap = h0) (fun _ _ _ _ _ => True) (fun _ U o U' => ∃ v L, o = .returned v ∧ Q18r Z p1 p2 a3 h0 n0 v U'.heap L ∧ FrameEnd U o U' L ({ frames := 0, cells := 0, slots := 0, locals := 0 } : Room).cells ({ frames := 0, cells := 0, slots := 0, locals := 0 } : Room).slots) := by
  refine MetFree.of_bodySF (plainFor_of_name pn_18r) hisR ?_
  intro p e s m args below meth c s₁ Bd hml0 hP hK
  obtain ⟨rfl, hZ, hh⟩ := hP
  have hx := Bd.exec
  have hby := Bd.bytes
  have hml : c.maxLocals = 3 := hml0
  have hown : s.vm.findClass "jdk/internal/util/Preconditions" = some m.cls := findClass_of_methodNamed Bd.named
  have hnm := (name_of_methodNamed Bd.named Bd.method).1
  have X0 : Stand p l e ({ frames := 0, cells := 0, slots := 0, locals := 0 } : Room) s m #[(.int p1), (.int p2), (.ref a3)] below meth c s₁ [] 0 0 := Stand.of_body Bd
  have e0 : s₁.heap = h0 := by rw [← hh, Bd.state]; rfl
  have N0 := Fr.nil n0
  have pre0 : ∀ t, Steps p.tables e below (s₁.setTop (mkF m 0 #[.val (.int p1), .val (.int p2), .val (.ref a3)] [])) t → Steps p.tables e below (s₁.setTop (entryFrame m #[(.int p1), (.int p2), (.ref a3)] 3)) t := fun t k => castTop (ef_18r m p1 p2 a3) k
  have pre1 : ∀ t, Steps p.tables e below (s₁.setTop (mkF m 17 #[.val (.int p1), .val (.int p2), .val (.ref a3)] [(.int p1)])) t → Steps p.tables e below (s₁.setTop (entryFrame m #[(.int p1), (.int p2), (.ref a3)] 3)) t := by
    intro t kt
    refine pre0 _ ?_
    show Steps p.tables e below (s₁.setTop (mkF m 0 #[.val (.int p1), .val (.int p2), .val (.ref a3)] [])) _
    refine XS.iloadN X0.here hx rfl (hb hby d18_0) rfl ?_
    show Steps p.tables e below (s₁.setTop (mkF m 1 #[.val (.int p1), .val (.int p2), .val (.ref a3)] [(.int p1)])) _
    refine XS.ifNo X0.here hx rfl (hb hby d18_1) rfl (XT.i0_lt_f hp1) ?_
    show Steps p.tables e below (s₁.setTop (mkF m 4 #[.val (.int p1), .val (.int p2), .val (.ref a3)] [])) _
    refine XS.iloadN X0.here hx rfl (hb hby d18_4) rfl ?_
    show Steps p.tables e below (s₁.setTop (mkF m 5 #[.val (.int p1), .val (.int p2), .val (.ref a3)] [(.int p1)])) _
    refine XS.iloadN X0.here hx rfl (hb hby d18_5) rfl ?_
    show Steps p.tables e below (s₁.setTop (mkF m 6 #[.val (.int p1), .val (.int p2), .val (.ref a3)] [(.int p2), (.int p1)])) _
    refine XS.icmpYes X0.here hx rfl (pc0 := 6) (pc' := 16) rfl (hb hby d18_6) rfl (XT.ii_lt_t hp2) (by decide) (by decide) ?_
    show Steps p.tables e below (s₁.setTop (mkF m 16 #[.val (.int p1), .val (.int p2), .val (.ref a3)] [])) _
    refine XS.iloadN X0.here hx rfl (hb hby d18_16) rfl ?_
    exact kt
  obtain ⟨fs, hr, hrun, hended, hW, hsame⟩ := X0.leave (v := some (.int p1)) (fun h => by rw [Bd.returns] at h; cases h)
  refine ⟨_, _, pre1 _ ?_, hrun, hended, _, _, rfl, ?_, ⟨_, rfl⟩, hW, hsame.mono (by decide) (by decide)⟩
  · show Steps p.tables e below (s₁.setTop (mkF m 17 #[.val (.int p1), .val (.int p2), .val (.ref a3)] [(.int p1)])) _
    exact owRetI X0 hx Bd.returns (hb hby d18_17) hr
  · show Q18r Z p1 p2 a3 h0 n0 _ s₁.heap _
    rw [e0]
    exact ⟨rfl, N0, rfl⟩
theorem pn_18n : plainName "jdk/internal/util/Preconditions" = true := by first | (simp [plainName, overriddenIn]; done) | decide +kernel
theorem ef_18n (m : MethodId) (x0 : Int32) (x1 : Int32) : entryFrame m #[(.int x0), (.int x1), .null] 3 = mkF m 0 #[.val (.int x0), .val (.int x1), .val .null] [] := by first | (simp [entryFrame, mkF, argsToLocals, Value.category]; done) | rfl
def Q18n (Z : State) (p1 : Int32) (p2 : Int32) (h0 : Heap) (n0 : Nat) (v : Option Value) (h : Heap) (L : List Loc) : Prop := v = some (.int p1) ∧ Fr n0 L ∧ h = h0
set_option maxRecDepth 65536 in
set_option maxHeartbeats 40000000 in
theorem rm18n (l : Launch) (Z : State) (a0 : Array Value) (hw : ∀ d ∈ tables_1, d.before a0 Z = true) (ws : List Jvm.Cond) (p1 : Int32) (p2 : Int32) (h0 : Heap) (n0 : Nat) (Z0 : n0 ≤ h0.size) (hp1 : ¬ p1 < (0 : Int32)) (hp2 : p1 < p2) :
    MetFree l (⟨"jdk/internal/util/Preconditions", "checkIndex", "(IILjava/util/function/BiFunction;)I"⟩ : MethodName) (head1 (Jvm.Cond.code (⟨"jdk/internal/util/Preconditions", "checkIndex", "(IILjava/util/function/BiFunction;)I"⟩ : MethodName) jdk_41_method_11_code 3 (some .int) :: ws) ({ frames := 0, cells := 0, slots := 0, locals := 0 } : Room)) (fun a U => a = #[(.int p1), (.int p2), .null] ∧ Z.Warmed39 U.vm ∧ U.heap = h0) (fun _ _ _ _ _ => True) (fun _ U o U' => ∃ v L, o = .returned v ∧ Q18n Z p1 p2 h0 n0 v U'.heap L ∧ FrameEnd U o U' L ({ frames := 0, cells := 0, slots := 0, locals := 0 } : Room).cells ({ frames := 0, cells := 0, slots := 0, locals := 0 } : Room).slots) := by
  refine MetFree.of_bodySF (plainFor_of_name pn_18n) hisR ?_
  intro p e s m args below meth c s₁ Bd hml0 hP hK
  obtain ⟨rfl, hZ, hh⟩ := hP
  have hx := Bd.exec
  have hby := Bd.bytes
  have hml : c.maxLocals = 3 := hml0
  have hown : s.vm.findClass "jdk/internal/util/Preconditions" = some m.cls := findClass_of_methodNamed Bd.named
  have hnm := (name_of_methodNamed Bd.named Bd.method).1
  have X0 : Stand p l e ({ frames := 0, cells := 0, slots := 0, locals := 0 } : Room) s m #[(.int p1), (.int p2), .null] below meth c s₁ [] 0 0 := Stand.of_body Bd
  have e0 : s₁.heap = h0 := by rw [← hh, Bd.state]; rfl
  have N0 := Fr.nil n0
  have pre0 : ∀ t, Steps p.tables e below (s₁.setTop (mkF m 0 #[.val (.int p1), .val (.int p2), .val .null] [])) t → Steps p.tables e below (s₁.setTop (entryFrame m #[(.int p1), (.int p2), .null] 3)) t := fun t k => castTop (ef_18n m p1 p2) k
  have pre1 : ∀ t, Steps p.tables e below (s₁.setTop (mkF m 17 #[.val (.int p1), .val (.int p2), .val .null] [(.int p1)])) t → Steps p.tables e below (s₁.setTop (entryFrame m #[(.int p1), (.int p2), .null] 3)) t := by
    intro t kt
    refine pre0 _ ?_
    show Steps p.tables e below (s₁.setTop (mkF m 0 #[.val (.int p1), .val (.int p2), .val .null] [])) _
    refine XS.iloadN X0.here hx rfl (hb hby d18_0) rfl ?_
    show Steps p.tables e below (s₁.setTop (mkF m 1 #[.val (.int p1), .val (.int p2), .val .null] [(.int p1)])) _
    refine XS.ifNo X0.here hx rfl (hb hby d18_1) rfl (XT.i0_lt_f hp1) ?_
    show Steps p.tables e below (s₁.setTop (mkF m 4 #[.val (.int p1), .val (.int p2), .val .null] [])) _
    refine XS.iloadN X0.here hx rfl (hb hby d18_4) rfl ?_
    show Steps p.tables e below (s₁.setTop (mkF m 5 #[.val (.int p1), .val (.int p2), .val .null] [(.int p1)])) _
    refine XS.iloadN X0.here hx rfl (hb hby d18_5) rfl ?_
    show Steps p.tables e below (s₁.setTop (mkF m 6 #[.val (.int p1), .val (.int p2), .val .null] [(.int p2), (.int p1)])) _
    refine XS.icmpYes X0.here hx rfl (pc0 := 6) (pc' := 16) rfl (hb hby d18_6) rfl (XT.ii_lt_t hp2) (by decide) (by decide) ?_
    show Steps p.tables e below (s₁.setTop (mkF m 16 #[.val (.int p1), .val (.int p2), .val .null] [])) _
    refine XS.iloadN X0.here hx rfl (hb hby d18_16) rfl ?_
    exact kt
  obtain ⟨fs, hr, hrun, hended, hW, hsame⟩ := X0.leave (v := some (.int p1)) (fun h => by rw [Bd.returns] at h; cases h)
  refine ⟨_, _, pre1 _ ?_, hrun, hended, _, _, rfl, ?_, ⟨_, rfl⟩, hW, hsame.mono (by decide) (by decide)⟩
  · show Steps p.tables e below (s₁.setTop (mkF m 17 #[.val (.int p1), .val (.int p2), .val .null] [(.int p1)])) _
    exact owRetI X0 hx Bd.returns (hb hby d18_17) hr
  · show Q18n Z p1 p2 h0 n0 _ s₁.heap _
    rw [e0]
    exact ⟨rfl, N0, rfl⟩
theorem pn_17r : plainName "java/lang/String" = true := by first | (simp [plainName, overriddenIn]; done) | decide +kernel
theorem ef_17r (m : MethodId) (x0 : Int32) (x1 : Int32) : entryFrame m #[(.int x0), (.int x1)] 2 = mkF m 0 #[.val (.int x0), .val (.int x1)] [] := by first | (simp [entryFrame, mkF, argsToLocals, Value.category]; done) | rfl
theorem d17_0 : decode jdk_42_method_155_code 0 = .ok (.iload_n 0, 1) := by decide +kernel
theorem d17_1 : decode jdk_42_method_155_code 1 = .ok (.iload_n 1, 1) := by decide +kernel
theorem d17_2 : decode jdk_42_method_155_code 2 = .ok (.getstatic 1053, 3) := by decide +kernel
theorem pd_6 : parseMethodDescriptor "(IILjava/util/function/BiFunction;)I" = some ⟨[.int, .int, (.object "java/util/function/BiFunction")], some .int⟩ := by decide +kernel
theorem d17_5 : decode jdk_42_method_155_code 5 = .ok (.invokestatic 1059, 3) := by decide +kernel
theorem d17_8 : decode jdk_42_method_155_code 8 = .ok (.pop, 1) := by decide +kernel
theorem d17_9 : decode jdk_42_method_155_code 9 = .ok (.return_, 1) := by decide +kernel
def Q17r (Z : State) (p1 : Int32) (p2 : Int32) (fm : Addr) (h0 : Heap) (n0 : Nat) (v : Option Value) (h : Heap) (L : List Loc) : Prop := v = none ∧ Fr n0 L ∧ h = h0
set_option maxRecDepth 65536 in
set_option maxHeartbeats 40000000 in
theorem rm17r (l : Launch) (Z : State) (a0 : Array Value) (hw : ∀ d ∈ tables_1, d.before a0 Z = true) (ws : List Jvm.Cond) (p1 : Int32) (p2 : Int32) (fm : Addr) (h0 : Heap) (n0 : Nat) (Z0 : n0 ≤ h0.size) (S_fm : Sta Z h0 "jdk/internal/util/Preconditions" "SIOOBE_FORMATTER" "Ljava/util/function/BiFunction;" (.ref fm)) (hp1 : ¬ p1 < (0 : Int32)) (hp2 : p1 < p2) :
    MetFree l (⟨"java/lang/String", "checkIndex", "(II)V"⟩ : MethodName) (head1 (Jvm.Cond.code (⟨"java/lang/String", "checkIndex", "(II)V"⟩ : MethodName) jdk_42_method_155_code 2 none :: ws) ({ frames := 1, cells := 0, slots := 0, locals := 14 } : Room)) (fun a U => a = #[(.int p1), (.int p2)] ∧ Z.Warmed39 U.vm ∧ U.heap = h0) (fun _ _ _ _ _ => True) (fun _ U o U' => ∃ v L, o = .returned v ∧ Q17r Z p1 p2 fm h0 n0 v U'.heap L ∧ FrameEnd U o U' L ({ frames := 1, cells := 0, slots := 0, locals := 14 } : Room).cells ({ frames := 1, cells := 0, slots := 0, locals := 14 } : Room).slots) := by
  refine MetFree.of_bodySF (plainFor_of_name pn_17r) hisR ?_
  intro p e s m args below meth c s₁ Bd hml0 hP hK
  obtain ⟨rfl, hZ, hh⟩ := hP
  have hx := Bd.exec
  have hby := Bd.bytes
  have hml : c.maxLocals = 2 := hml0
  have hown : s.vm.findClass "java/lang/String" = some m.cls := findClass_of_methodNamed Bd.named
  have hnm := (name_of_methodNamed Bd.named Bd.method).1
  have X0 : Stand p l e ({ frames := 1, cells := 0, slots := 0, locals := 14 } : Room) s m #[(.int p1), (.int p2)] below meth c s₁ [] 0 0 := Stand.of_body Bd
  have e0 : s₁.heap = h0 := by rw [← hh, Bd.state]; rfl
  have N0 := Fr.nil n0
  have pre0 : ∀ t, Steps p.tables e below (s₁.setTop (mkF m 0 #[.val (.int p1), .val (.int p2)] [])) t → Steps p.tables e below (s₁.setTop (entryFrame m #[(.int p1), (.int p2)] 2)) t := fun t k => castTop (ef_17r m p1 p2) k
  obtain ⟨T1, X1, hE1, st1⟩ := getS2 X0 hx hZ hown (host := "") (Or.inl (hw _ (List.mem_of_getElem? (i := 96) rfl))) Via.refl e0 S_fm (g := (mkF m 2 #[.val (.int p1), .val (.int p2)] [(.int p2), (.int p1)])) rfl (hb hby d17_2)
  obtain ⟨_, _, ⟨T2, L2, k2, n2⟩, -, X2, ⟨Lc2, hQ2, l2, y2, z2⟩, st2⟩ := Jvm.LawKit.callS X1 hx (y := (⟨"jdk/internal/util/Preconditions", "checkIndex", "(IILjava/util/function/BiFunction;)I"⟩ : MethodName)) hown (mvT hZ (hw _ (List.mem_of_getElem? (i := 98) rfl))) (mvT hZ (hw _ (List.mem_of_getElem? (i := 99) rfl))) (mvT hZ (hw _ (List.mem_of_getElem? (i := 97) rfl))) (mvT hZ (hw _ (List.mem_of_getElem? (i := 100) rfl))) (by decide) (backOf (W := 0) (rm18r l Z a0 hw [] p1 p2 fm h0 n0 Z0 hp1 hp2) hZ (hw _ (List.mem_of_getElem? (i := 100) rfl)) (hw _ (List.mem_of_getElem? (i := 97) rfl)) (by decide) (by decide)) (g := (mkF m 5 #[.val (.int p1), .val (.int p2)] [(.ref fm), (.int p2), (.int p1)])) rfl (by rw [hml]; rfl) (argsL := [(.int p1), (.int p2), (.ref fm)]) (rest := []) (lenOf pd_6 rfl) rfl (by show 2 * 0 + _ ≤ _; exact Nat.le_of_eq rfl) (hb hby d17_5) (fun _ _ => ⟨rfl, hE1, (by decide : 0 + 0 ≤ _), (by decide : 0 + 0 ≤ _)⟩)
  dsimp only [Pt.U, Pt.locs, Pt.cells, Pt.slots] at X2 l2 y2 z2 st2 hQ2
  subst l2 y2 z2
  obtain ⟨rfl, N2q, hE2⟩ := hQ2
  have N2 := Fr.app N0 N2q
  have pre3 : ∀ t, Steps p.tables e below (T2.setTop (mkF m 9 #[.val (.int p1), .val (.int p2)] [])) t → Steps p.tables e below (s₁.setTop (entryFrame m #[(.int p1), (.int p2)] 2)) t := by
    intro t kt
    refine pre0 _ ?_
    show Steps p.tables e below (s₁.setTop (mkF m 0 #[.val (.int p1), .val (.int p2)] [])) _
    refine XS.iloadN X0.here hx rfl (hb hby d17_0) rfl ?_
    show Steps p.tables e below (s₁.setTop (mkF m 1 #[.val (.int p1), .val (.int p2)] [(.int p1)])) _
    refine XS.iloadN X0.here hx rfl (hb hby d17_1) rfl ?_
    show Steps p.tables e below (s₁.setTop (mkF m 2 #[.val (.int p1), .val (.int p2)] [(.int p2), (.int p1)])) _
    refine st1 _ ?_
    show Steps p.tables e below (T1.setTop (mkF m 5 #[.val (.int p1), .val (.int p2)] [(.ref fm), (.int p2), (.int p1)])) _
    refine st2 _ ?_
    show Steps p.tables e below (T2.setTop (mkF m 8 #[.val (.int p1), .val (.int p2)] [(.int p1)])) _
    refine XS.pop X2.here hx rfl (hb hby d17_8) rfl rfl ?_
    exact kt
  obtain ⟨fs, hr, hrun, hended, hW, hsame⟩ := X2.leave (v := none) (fun _ => rfl)
  refine ⟨_, _, pre3 _ ?_, hrun, hended, _, _, rfl, ?_, ⟨_, rfl⟩, hW, hsame.mono (by decide) (by decide)⟩
  · show Steps p.tables e below (T2.setTop (mkF m 9 #[.val (.int p1), .val (.int p2)] [])) _
    exact X2.returnOut hx Bd.returns (hb hby d17_9) hr
  · show Q17r Z p1 p2 fm h0 n0 _ T2.heap _
    rw [hE2]
    exact ⟨rfl, N2, rfl⟩
theorem pn_17n : plainName "java/lang/String" = true := by first | (simp [plainName, overriddenIn]; done) | decide +kernel
theorem ef_17n (m : MethodId) (x0 : Int32) (x1 : Int32) : entryFrame m #[(.int x0), (.int x1)] 2 = mkF m 0 #[.val (.int x0), .val (.int x1)] [] := by first | (simp [entryFrame, mkF, argsToLocals, Value.category]; done) | rfl
def Q17n (Z : State) (p1 : Int32) (p2 : Int32) (h0 : Heap) (n0 : Nat) (v : Option Value) (h : Heap) (L : List Loc) : Prop := v = none ∧ Fr n0 L ∧ h = h0
set_option maxRecDepth 65536 in
set_option maxHeartbeats 40000000 in
theorem rm17n (l : Launch) (Z : State) (a0 : Array Value) (hw : ∀ d ∈ tables_1, d.before a0 Z = true) (ws : List Jvm.Cond) (p1 : Int32) (p2 : Int32) (h0 : Heap) (n0 : Nat) (Z0 : n0 ≤ h0.size) (S_fm : Sta Z h0 "jdk/internal/util/Preconditions" "SIOOBE_FORMATTER" "Ljava/util/function/BiFunction;" .null) (hp1 : ¬ p1 < (0 : Int32)) (hp2 : p1 < p2) :
    MetFree l (⟨"java/lang/String", "checkIndex", "(II)V"⟩ : MethodName) (head1 (Jvm.Cond.code (⟨"java/lang/String", "checkIndex", "(II)V"⟩ : MethodName) jdk_42_method_155_code 2 none :: ws) ({ frames := 1, cells := 0, slots := 0, locals := 14 } : Room)) (fun a U => a = #[(.int p1), (.int p2)] ∧ Z.Warmed39 U.vm ∧ U.heap = h0) (fun _ _ _ _ _ => True) (fun _ U o U' => ∃ v L, o = .returned v ∧ Q17n Z p1 p2 h0 n0 v U'.heap L ∧ FrameEnd U o U' L ({ frames := 1, cells := 0, slots := 0, locals := 14 } : Room).cells ({ frames := 1, cells := 0, slots := 0, locals := 14 } : Room).slots) := by
  refine MetFree.of_bodySF (plainFor_of_name pn_17n) hisR ?_
  intro p e s m args below meth c s₁ Bd hml0 hP hK
  obtain ⟨rfl, hZ, hh⟩ := hP
  have hx := Bd.exec
  have hby := Bd.bytes
  have hml : c.maxLocals = 2 := hml0
  have hown : s.vm.findClass "java/lang/String" = some m.cls := findClass_of_methodNamed Bd.named
  have hnm := (name_of_methodNamed Bd.named Bd.method).1
  have X0 : Stand p l e ({ frames := 1, cells := 0, slots := 0, locals := 14 } : Room) s m #[(.int p1), (.int p2)] below meth c s₁ [] 0 0 := Stand.of_body Bd
  have e0 : s₁.heap = h0 := by rw [← hh, Bd.state]; rfl
  have N0 := Fr.nil n0
  have pre0 : ∀ t, Steps p.tables e below (s₁.setTop (mkF m 0 #[.val (.int p1), .val (.int p2)] [])) t → Steps p.tables e below (s₁.setTop (entryFrame m #[(.int p1), (.int p2)] 2)) t := fun t k => castTop (ef_17n m p1 p2) k
  obtain ⟨T1, X1, hE1, st1⟩ := getS2 X0 hx hZ hown (host := "") (Or.inl (hw _ (List.mem_of_getElem? (i := 96) rfl))) Via.refl e0 S_fm (g := (mkF m 2 #[.val (.int p1), .val (.int p2)] [(.int p2), (.int p1)])) rfl (hb hby d17_2)
  obtain ⟨_, _, ⟨T2, L2, k2, n2⟩, -, X2, ⟨Lc2, hQ2, l2, y2, z2⟩, st2⟩ := Jvm.LawKit.callS X1 hx (y := (⟨"jdk/internal/util/Preconditions", "checkIndex", "(IILjava/util/function/BiFunction;)I"⟩ : MethodName)) hown (mvT hZ (hw _ (List.mem_of_getElem? (i := 98) rfl))) (mvT hZ (hw _ (List.mem_of_getElem? (i := 99) rfl))) (mvT hZ (hw _ (List.mem_of_getElem? (i := 97) rfl))) (mvT hZ (hw _ (List.mem_of_getElem? (i := 100) rfl))) (by decide) (backOf (W := 0) (rm18n l Z a0 hw [] p1 p2 h0 n0 Z0 hp1 hp2) hZ (hw _ (List.mem_of_getElem? (i := 100) rfl)) (hw _ (List.mem_of_getElem? (i := 97) rfl)) (by decide) (by decide)) (g := (mkF m 5 #[.val (.int p1), .val (.int p2)] [.null, (.int p2), (.int p1)])) rfl (by rw [hml]; rfl) (argsL := [(.int p1), (.int p2), .null]) (rest := []) (lenOf pd_6 rfl) rfl (by show 2 * 0 + _ ≤ _; exact Nat.le_of_eq rfl) (hb hby d17_5) (fun _ _ => ⟨rfl, hE1, (by decide : 0 + 0 ≤ _), (by decide : 0 + 0 ≤ _)⟩)
  dsimp only [Pt.U, Pt.locs, Pt.cells, Pt.slots] at X2 l2 y2 z2 st2 hQ2
  subst l2 y2 z2
  obtain ⟨rfl, N2q, hE2⟩ := hQ2
  have N2 := Fr.app N0 N2q
  have pre3 : ∀ t, Steps p.tables e below (T2.setTop (mkF m 9 #[.val (.int p1), .val (.int p2)] [])) t → Steps p.tables e below (s₁.setTop (entryFrame m #[(.int p1), (.int p2)] 2)) t := by
    intro t kt
    refine pre0 _ ?_
    show Steps p.tables e below (s₁.setTop (mkF m 0 #[.val (.int p1), .val (.int p2)] [])) _
    refine XS.iloadN X0.here hx rfl (hb hby d17_0) rfl ?_
    show Steps p.tables e below (s₁.setTop (mkF m 1 #[.val (.int p1), .val (.int p2)] [(.int p1)])) _
    refine XS.iloadN X0.here hx rfl (hb hby d17_1) rfl ?_
    show Steps p.tables e below (s₁.setTop (mkF m 2 #[.val (.int p1), .val (.int p2)] [(.int p2), (.int p1)])) _
    refine st1 _ ?_
    show Steps p.tables e below (T1.setTop (mkF m 5 #[.val (.int p1), .val (.int p2)] [.null, (.int p2), (.int p1)])) _
    refine st2 _ ?_
    show Steps p.tables e below (T2.setTop (mkF m 8 #[.val (.int p1), .val (.int p2)] [(.int p1)])) _
    refine XS.pop X2.here hx rfl (hb hby d17_8) rfl rfl ?_
    exact kt
  obtain ⟨fs, hr, hrun, hended, hW, hsame⟩ := X2.leave (v := none) (fun _ => rfl)
  refine ⟨_, _, pre3 _ ?_, hrun, hended, _, _, rfl, ?_, ⟨_, rfl⟩, hW, hsame.mono (by decide) (by decide)⟩
  · show Steps p.tables e below (T2.setTop (mkF m 9 #[.val (.int p1), .val (.int p2)] [])) _
    exact X2.returnOut hx Bd.returns (hb hby d17_9) hr
  · show Q17n Z p1 p2 h0 n0 _ T2.heap _
    rw [hE2]
    exact ⟨rfl, N2, rfl⟩
def Q17 (Z : State) (p1 p2 : Int32) (fmv : Value) (h0 : Heap) (n0 : Nat) (v : Option Value) (h : Heap) (L : List Loc) : Prop := v = none ∧ Fr n0 L ∧ h = h0
theorem rm17 (l : Launch) (Z : State) (a0 : Array Value) (hw : ∀ d ∈ tables_1, d.before a0 Z = true) (ws : List Jvm.Cond) (p1 p2 : Int32) (fmv : Value) (h0 : Heap) (n0 : Nat) (Z0 : n0 ≤ h0.size) (S_fm : Sta Z h0 "jdk/internal/util/Preconditions" "SIOOBE_FORMATTER" "Ljava/util/function/BiFunction;" fmv) (hf : fmv.isRef = true) (hp1 : ¬ p1 < (0 : Int32)) (hp2 : p1 < p2) :
    MetFree l (⟨"java/lang/String", "checkIndex", "(II)V"⟩ : MethodName) (head1 (Jvm.Cond.code (⟨"java/lang/String", "checkIndex", "(II)V"⟩ : MethodName) jdk_42_method_155_code 2 none :: ws) ({ frames := 1, cells := 0, slots := 0, locals := 14 } : Room)) (fun a U => a = #[(.int p1), (.int p2)] ∧ Z.Warmed39 U.vm ∧ U.heap = h0) (fun _ _ _ _ _ => True) (fun _ U o U' => ∃ v L, o = .returned v ∧ Q17 Z p1 p2 fmv h0 n0 v U'.heap L ∧ FrameEnd U o U' L ({ frames := 1, cells := 0, slots := 0, locals := 14 } : Room).cells ({ frames := 1, cells := 0, slots := 0, locals := 14 } : Room).slots) := by
  rcases Jvm.RoadKit.ref_cases hf with rfl | ⟨fm, rfl⟩
  · exact rm17n l Z a0 hw ws p1 p2 h0 n0 Z0 S_fm hp1 hp2
  · exact rm17r l Z a0 hw ws p1 p2 fm h0 n0 Z0 S_fm hp1 hp2
theorem pn_16 : plainName "java/lang/StringLatin1" = true := by first | (simp [plainName, overriddenIn]; done) | decide +kernel
theorem ef_16 (m : MethodId) (x0 : Addr) (x1 : Int32) : entryFrame m #[(.ref x0), (.int x1)] 2 = mkF m 0 #[.val (.ref x0), .val (.int x1)] [] := by first | (simp [entryFrame, mkF, argsToLocals, Value.category]; done) | rfl
theorem d16_0 : decode jdk_43_method_2_code 0 = .ok (.iload_n 1, 1) := by decide +kernel
theorem d16_1 : decode jdk_43_method_2_code 1 = .ok (.aload_n 0, 1) := by decide +kernel
theorem d16_2 : decode jdk_43_method_2_code 2 = .ok (.arraylength, 1) := by decide +kernel
theorem pd_7 : parseMethodDescriptor "(II)V" = some ⟨[.int, .int], none⟩ := by decide +kernel
theorem d16_3 : decode jdk_43_method_2_code 3 = .ok (.invokestatic 9, 3) := by decide +kernel
theorem d16_6 : decode jdk_43_method_2_code 6 = .ok (.aload_n 0, 1) := by decide +kernel
theorem d16_7 : decode jdk_43_method_2_code 7 = .ok (.iload_n 1, 1) := by decide +kernel
theorem d16_8 : decode jdk_43_method_2_code 8 = .ok (.baload, 1) := by decide +kernel
theorem d16_9 : decode jdk_43_method_2_code 9 = .ok (.sipush 255, 3) := by decide +kernel
theorem d16_12 : decode jdk_43_method_2_code 12 = .ok (.iand, 1) := by decide +kernel
theorem d16_13 : decode jdk_43_method_2_code 13 = .ok (.i2c, 1) := by decide +kernel
theorem d16_14 : decode jdk_43_method_2_code 14 = .ok (.ireturn, 1) := by decide +kernel
def Q16 (Z : State) (a1 : Addr) (p2 : Int32) (zn : Int32) (n : Nat) (fc : Nat → Int32) (cs : Int32) (fmv : Value) (kx : Nat) (h0 : Heap) (n0 : Nat) (v : Option Value) (h : Heap) (L : List Loc) : Prop := v = some (.int (nar .char ((((fc kx).toInt8.toInt32) &&& (255 : Int32)).toUInt32.toUInt16.toUInt32.toInt32))) ∧ Fr n0 L ∧ h = h0
set_option maxRecDepth 65536 in
set_option maxHeartbeats 40000000 in
theorem rm16 (l : Launch) (Z : State) (a0 : Array Value) (hw : ∀ d ∈ tables_1, d.before a0 Z = true) (ws : List Jvm.Cond) (a1 : Addr) (p2 : Int32) (zn : Int32) (n : Nat) (fc : Nat → Int32) (cs : Int32) (fmv : Value) (kx : Nat) (h0 : Heap) (n0 : Nat) (Z0 : n0 ≤ h0.size) (A_b : owAI Z h0 a1 .byte n (fun i => (fc i).toInt8.toInt32)) (hz : zn.toInt = (n : Int)) (O_x : Old Z n0 h0) (hst : OST Z cs fmv) (hk1 : p2.toInt = (kx : Int)) (hk2 : kx < n) :
    MetFree l (⟨"java/lang/StringLatin1", "charAt", "([BI)C"⟩ : MethodName) (head1 (Jvm.Cond.code (⟨"java/lang/StringLatin1", "charAt", "([BI)C"⟩ : MethodName) jdk_43_method_2_code 2 (some .char) :: ws) ({ frames := 2, cells := 0, slots := 0, locals := 27 } : Room)) (fun a U => a = #[(.ref a1), (.int p2)] ∧ Z.Warmed39 U.vm ∧ U.heap = h0) (fun _ _ _ _ _ => True) (fun _ U o U' => ∃ v L, o = .returned v ∧ Q16 Z a1 p2 zn n fc cs fmv kx h0 n0 v U'.heap L ∧ FrameEnd U o U' L ({ frames := 2, cells := 0, slots := 0, locals := 27 } : Room).cells ({ frames := 2, cells := 0, slots := 0, locals := 27 } : Room).slots) := by
  refine MetFree.of_bodySF (plainFor_of_name pn_16) hisR ?_
  intro p e s m args below meth c s₁ Bd hml0 hP hK
  obtain ⟨rfl, hZ, hh⟩ := hP
  have hx := Bd.exec
  have hby := Bd.bytes
  have hml : c.maxLocals = 2 := hml0
  have hown : s.vm.findClass "java/lang/StringLatin1" = some m.cls := findClass_of_methodNamed Bd.named
  have hnm := (name_of_methodNamed Bd.named Bd.method).1
  have X0 : Stand p l e ({ frames := 2, cells := 0, slots := 0, locals := 27 } : Room) s m #[(.ref a1), (.int p2)] below meth c s₁ [] 0 0 := Stand.of_body Bd
  have e0 : s₁.heap = h0 := by rw [← hh, Bd.state]; rfl
  have N0 := Fr.nil n0
  have pre0 : ∀ t, Steps p.tables e below (s₁.setTop (mkF m 0 #[.val (.ref a1), .val (.int p2)] [])) t → Steps p.tables e below (s₁.setTop (entryFrame m #[(.ref a1), (.int p2)] 2)) t := fun t k => castTop (ef_16 m a1 p2) k
  obtain ⟨_, _, ⟨T1, L1, k1, n1⟩, -, X1, ⟨Lc1, hQ1, l1, y1, z1⟩, st1⟩ := Jvm.LawKit.callS X0 hx (y := (⟨"java/lang/String", "checkIndex", "(II)V"⟩ : MethodName)) hown (mvT hZ (hw _ (List.mem_of_getElem? (i := 93) rfl))) (mvT hZ (hw _ (List.mem_of_getElem? (i := 94) rfl))) (mvT hZ (hw _ (List.mem_of_getElem? (i := 33) rfl))) (mvT hZ (hw _ (List.mem_of_getElem? (i := 95) rfl))) (by decide) (backOf (W := 0) (rm17 l Z a0 hw [] p2 zn fmv h0 n0 Z0 (hst.2.2.1.ext O_x.2) hst.2.2.2 (own_nn hk1) (own_ltn hk1 hz hk2)) hZ (hw _ (List.mem_of_getElem? (i := 95) rfl)) (hw _ (List.mem_of_getElem? (i := 33) rfl)) (by decide) (by decide)) (g := (mkF m 3 #[.val (.ref a1), .val (.int p2)] [(.int zn), (.int p2)])) rfl (by rw [hml]; rfl) (argsL := [(.int p2), (.int zn)]) (rest := []) (lenOf pd_7 rfl) rfl (by show 2 * 0 + _ ≤ _; exact Nat.le_of_eq rfl) (hb hby d16_3) (fun _ _ => ⟨rfl, e0, (by decide : 0 + 0 ≤ _), (by decide : 0 + 0 ≤ _)⟩)
  dsimp only [Pt.U, Pt.locs, Pt.cells, Pt.slots] at X1 l1 y1 z1 st1 hQ1
  subst l1 y1 z1
  obtain ⟨rfl, N1q, hE1⟩ := hQ1
  have N1 := Fr.app N0 N1q
  have pre2 : ∀ t, Steps p.tables e below (T1.setTop (mkF m 14 #[.val (.ref a1), .val (.int p2)] [(.int ((((fun i => (fc i).toInt8.toInt32) kx) &&& (255 : Int32)).toUInt32.toUInt16.toUInt32.toInt32))])) t → Steps p.tables e below (s₁.setTop (entryFrame m #[(.ref a1), (.int p2)] 2)) t := by
    intro t kt
    refine pre0 _ ?_
    show Steps p.tables e below (s₁.setTop (mkF m 0 #[.val (.ref a1), .val (.int p2)] [])) _
    refine XS.iloadN X0.here hx rfl (hb hby d16_0) rfl ?_
    show Steps p.tables e below (s₁.setTop (mkF m 1 #[.val (.ref a1), .val (.int p2)] [(.int p2)])) _
    refine XS.aloadN X0.here hx rfl (hb hby d16_1) rfl rfl ?_
    show Steps p.tables e below (s₁.setTop (mkF m 2 #[.val (.ref a1), .val (.int p2)] [(.ref a1), (.int p2)])) _
    refine owLenI X0 hx hZ e0 A_b (z := zn) (own_nat32 hz) (g := (mkF m 2 #[.val (.ref a1), .val (.int p2)] [(.ref a1), (.int p2)])) rfl rfl (hb hby d16_2) _ ?_
    show Steps p.tables e below (s₁.setTop (mkF m 3 #[.val (.ref a1), .val (.int p2)] [(.int zn), (.int p2)])) _
    refine st1 _ ?_
    show Steps p.tables e below (T1.setTop (mkF m 6 #[.val (.ref a1), .val (.int p2)] [])) _
    refine XS.aloadN X1.here hx rfl (hb hby d16_6) rfl rfl ?_
    show Steps p.tables e below (T1.setTop (mkF m 7 #[.val (.ref a1), .val (.int p2)] [(.ref a1)])) _
    refine XS.iloadN X1.here hx rfl (hb hby d16_7) rfl ?_
    show Steps p.tables e below (T1.setTop (mkF m 8 #[.val (.ref a1), .val (.int p2)] [(.int p2), (.ref a1)])) _
    refine owLdB (k := kx) X1 hx hZ hE1 A_b (j := p2) hk1 hk2 (g := (mkF m 8 #[.val (.ref a1), .val (.int p2)] [(.int p2), (.ref a1)])) rfl rfl (hb hby d16_8) _ ?_
    show Steps p.tables e below (T1.setTop (mkF m 9 #[.val (.ref a1), .val (.int p2)] [(.int ((fun i => (fc i).toInt8.toInt32) kx))])) _
    refine XS.sipush X1.here hx rfl (hb hby d16_9) ?_
    show Steps p.tables e below (T1.setTop (mkF m 12 #[.val (.ref a1), .val (.int p2)] [(.int (255 : Int32)), (.int ((fun i => (fc i).toInt8.toInt32) kx))])) _
    refine XS.iand X1.here hx rfl (hb hby d16_12) rfl ?_
    show Steps p.tables e below (T1.setTop (mkF m 13 #[.val (.ref a1), .val (.int p2)] [(.int (((fun i => (fc i).toInt8.toInt32) kx) &&& (255 : Int32)))])) _
    refine XS.i2c X1.here hx rfl (hb hby d16_13) rfl ?_
    exact kt
  obtain ⟨fs, hr, hrun, hended, hW, hsame⟩ := X1.leave (v := some (.int (nar .char ((((fun i => (fc i).toInt8.toInt32) kx) &&& (255 : Int32)).toUInt32.toUInt16.toUInt32.toInt32)))) (fun h => by rw [Bd.returns] at h; cases h)
  refine ⟨_, _, pre2 _ ?_, hrun, hended, _, _, rfl, ?_, ⟨_, rfl⟩, hW, hsame.mono (by decide) (by decide)⟩
  · show Steps p.tables e below (T1.setTop (mkF m 14 #[.val (.ref a1), .val (.int p2)] [(.int ((((fun i => (fc i).toInt8.toInt32) kx) &&& (255 : Int32)).toUInt32.toUInt16.toUInt32.toInt32))])) _
    exact retN X1 hx (t := .char) Bd.returns (by simp) (hb hby d16_14) hr
  · show Q16 Z a1 p2 zn n fc cs fmv kx h0 n0 _ T1.heap _
    rw [hE1]
    exact ⟨rfl, N1, rfl⟩
theorem pn_14 : plainName "java/lang/String" = true := by first | (simp [plainName, overriddenIn]; done) | decide +kernel
theorem ef_14 (m : MethodId) (x0 : Addr) (x1 : Int32) : entryFrame m #[(.ref x0), (.int x1)] 2 = mkF m 0 #[.val (.ref x0), .val (.int x1)] [] := by first | (simp [entryFrame, mkF, argsToLocals, Value.category]; done) | rfl
theorem d14_0 : decode jdk_42_method_56_code 0 = .ok (.aload_n 0, 1) := by decide +kernel
theorem pd_8 : parseMethodDescriptor "()Z" = some ⟨[], some .boolean⟩ := by decide +kernel
theorem d14_1 : decode jdk_42_method_56_code 1 = .ok (.invokevirtual 492, 3) := by decide +kernel
theorem d14_4 : decode jdk_42_method_56_code 4 = .ok (.ifCond .eq 12, 3) := by decide +kernel
theorem d14_7 : decode jdk_42_method_56_code 7 = .ok (.aload_n 0, 1) := by decide +kernel
theorem d14_8 : decode jdk_42_method_56_code 8 = .ok (.getfield 9, 3) := by decide +kernel
theorem d14_11 : decode jdk_42_method_56_code 11 = .ok (.iload_n 1, 1) := by decide +kernel
theorem pd_9 : parseMethodDescriptor "([BI)C" = some ⟨[(.array .byte), .int], some .char⟩ := by decide +kernel
theorem d14_12 : decode jdk_42_method_56_code 12 = .ok (.invokestatic 495, 3) := by decide +kernel
theorem d14_15 : decode jdk_42_method_56_code 15 = .ok (.ireturn, 1) := by decide +kernel
def Q14 (Z : State) (a1 : Addr) (p2 : Int32) (b : Addr) (zn : Int32) (n : Nat) (fc : Nat → Int32) (cs : Int32) (fmv : Value) (kx : Nat) (h0 : Heap) (n0 : Nat) (v : Option Value) (h : Heap) (L : List Loc) : Prop := v = some (.int (fc kx)) ∧ Fr n0 L ∧ h = h0
set_option maxRecDepth 65536 in
set_option maxHeartbeats 40000000 in
theorem rm14 (l : Launch) (Z : State) (a0 : Array Value) (hw : ∀ d ∈ tables_1, d.before a0 Z = true) (ws : List Jvm.Cond) (a1 : Addr) (p2 : Int32) (b : Addr) (zn : Int32) (n : Nat) (fc : Nat → Int32) (cs : Int32) (fmv : Value) (kx : Nat) (h0 : Heap) (n0 : Nat) (Z0 : n0 ≤ h0.size) (E_a1 : Exa Z h0 a1 "java/lang/String") (Fv : Fld Z h0 a1 "java/lang/String" "value" "[B" (.ref b)) (Fc : Fld Z h0 a1 "java/lang/String" "coder" "B" (.int (0 : Int32))) (A_b : owAI Z h0 b .byte n (fun i => (fc i).toInt8.toInt32)) (hz : zn.toInt = (n : Int)) (hfc : OC n fc) (O_x : Old Z n0 h0) (hst : OST Z cs fmv) (hk1 : p2.toInt = (kx : Int)) (hk2 : kx < n) :
    MetFree l (⟨"java/lang/String", "charAt", "(I)C"⟩ : MethodName) (head1 (Jvm.Cond.code (⟨"java/lang/String", "charAt", "(I)C"⟩ : MethodName) jdk_42_method_56_code 2 (some .char) :: ws) ({ frames := 3, cells := 0, slots := 0, locals := 40 } : Room)) (fun a U => a = #[(.ref a1), (.int p2)] ∧ Z.Warmed39 U.vm ∧ U.heap = h0) (fun _ _ _ _ _ => True) (fun _ U o U' => ∃ v L, o = .returned v ∧ Q14 Z a1 p2 b zn n fc cs fmv kx h0 n0 v U'.heap L ∧ FrameEnd U o U' L ({ frames := 3, cells := 0, slots := 0, locals := 40 } : Room).cells ({ frames := 3, cells := 0, slots := 0, locals := 40 } : Room).slots) := by
  refine MetFree.of_bodySF (plainFor_of_name pn_14) hisR ?_
  intro p e s m args below meth c s₁ Bd hml0 hP hK
  obtain ⟨rfl, hZ, hh⟩ := hP
  have hx := Bd.exec
  have hby := Bd.bytes
  have hml : c.maxLocals = 2 := hml0
  have hown : s.vm.findClass "java/lang/String" = some m.cls := findClass_of_methodNamed Bd.named
  have hnm := (name_of_methodNamed Bd.named Bd.method).1
  have X0 : Stand p l e ({ frames := 3, cells := 0, slots := 0, locals := 40 } : Room) s m #[(.ref a1), (.int p2)] below meth c s₁ [] 0 0 := Stand.of_body Bd
  have e0 : s₁.heap = h0 := by rw [← hh, Bd.state]; rfl
  have N0 := Fr.nil n0
  have pre0 : ∀ t, Steps p.tables e below (s₁.setTop (mkF m 0 #[.val (.ref a1), .val (.int p2)] [])) t → Steps p.tables e below (s₁.setTop (entryFrame m #[(.ref a1), (.int p2)] 2)) t := fun t k => castTop (ef_14 m a1 p2) k
  obtain ⟨cq1, kq1, q1a, q1b, q1c⟩ := isOf hZ e0 E_a1
  obtain ⟨_, _, ⟨T1, L1, k1, n1⟩, -, X1, ⟨Lc1, hQ1, l1, y1, z1⟩, st1⟩ := X0.virtualBack hx (y := (⟨"java/lang/String", "isLatin1", "()Z"⟩ : MethodName)) (z := (⟨"java/lang/String", "isLatin1", "()Z"⟩ : MethodName)) hown (mvT hZ (hw _ (List.mem_of_getElem? (i := 84) rfl))) (mvT hZ (hw _ (List.mem_of_getElem? (i := 85) rfl))) (notFace_of_selects (args := #[]) (mvT hZ (hw _ (List.mem_of_getElem? (i := 87) rfl)))) (mvT hZ (hw _ (List.mem_of_getElem? (i := 87) rfl))) (mvT hZ (hw _ (List.mem_of_getElem? (i := 86) rfl))) (by decide) (backOf (W := 0) (rm15 l Z a0 hw [] a1 b zn n fc cs fmv h0 n0 Z0 E_a1 Fv Fc A_b hz hfc O_x hst) hZ (hw _ (List.mem_of_getElem? (i := 88) rfl)) (hw _ (List.mem_of_getElem? (i := 33) rfl)) (by decide) (by decide)) q1a q1c (g := (mkF m 1 #[.val (.ref a1), .val (.int p2)] [(.ref a1)])) rfl (by rw [hml]; rfl) (Steps.refl _) (argsL := []) (rest := []) (lenOf pd_8 rfl) rfl (by show 2 * 0 + _ ≤ _; exact Nat.le_of_eq rfl) (hb hby d14_1) (fun _ _ => ⟨rfl, e0, (by decide : 0 + 0 ≤ _), (by decide : 0 + 0 ≤ _)⟩)
  dsimp only [Pt.U, Pt.locs, Pt.cells, Pt.slots] at X1 l1 y1 z1 st1 hQ1
  subst l1 y1 z1
  obtain ⟨rfl, N1q, hE1⟩ := hQ1
  have N1 := Fr.app N0 N1q
  obtain ⟨T2, X2, hE2, st2⟩ := getF X1 hx hZ hown (host := "") (Or.inl (hw _ (List.mem_of_getElem? (i := 58) rfl))) Via.refl hE1 Fv (g := (mkF m 8 #[.val (.ref a1), .val (.int p2)] [(.ref a1)])) rfl rfl (hb hby d14_8)
  obtain ⟨_, _, ⟨T3, L3, k3, n3⟩, -, X3, ⟨Lc3, hQ3, l3, y3, z3⟩, st3⟩ := Jvm.LawKit.callS X2 hx (y := (⟨"java/lang/StringLatin1", "charAt", "([BI)C"⟩ : MethodName)) hown (mvT hZ (hw _ (List.mem_of_getElem? (i := 89) rfl))) (mvT hZ (hw _ (List.mem_of_getElem? (i := 90) rfl))) (mvT hZ (hw _ (List.mem_of_getElem? (i := 91) rfl))) (mvT hZ (hw _ (List.mem_of_getElem? (i := 92) rfl))) (by decide) (backOf (W := 0) (rm16 l Z a0 hw [] b p2 zn n fc cs fmv kx h0 n0 Z0 A_b hz O_x hst hk1 hk2) hZ (hw _ (List.mem_of_getElem? (i := 92) rfl)) (hw _ (List.mem_of_getElem? (i := 91) rfl)) (by decide) (by decide)) (g := (mkF m 12 #[.val (.ref a1), .val (.int p2)] [(.int p2), (.ref b)])) rfl (by rw [hml]; rfl) (argsL := [(.ref b), (.int p2)]) (rest := []) (lenOf pd_9 rfl) rfl (by show 2 * 0 + _ ≤ _; exact Nat.le_of_eq rfl) (hb hby d14_12) (fun _ _ => ⟨rfl, hE2, (by decide : 0 + 0 ≤ _), (by decide : 0 + 0 ≤ _)⟩)
  dsimp only [Pt.U, Pt.locs, Pt.cells, Pt.slots] at X3 l3 y3 z3 st3 hQ3
  subst l3 y3 z3
  obtain ⟨rfl, N3q, hE3⟩ := hQ3
  have N3 := Fr.app N1 N3q
  have pre4 : ∀ t, Steps p.tables e below (T3.setTop (mkF m 15 #[.val (.ref a1), .val (.int p2)] [(.int (nar .char ((((fc kx).toInt8.toInt32) &&& (255 : Int32)).toUInt32.toUInt16.toUInt32.toInt32)))])) t → Steps p.tables e below (s₁.setTop (entryFrame m #[(.ref a1), (.int p2)] 2)) t := by
    intro t kt
    refine pre0 _ ?_
    show Steps p.tables e below (s₁.setTop (mkF m 0 #[.val (.ref a1), .val (.int p2)] [])) _
    refine XS.aloadN X0.here hx rfl (hb hby d14_0) rfl rfl ?_
    show Steps p.tables e below (s₁.setTop (mkF m 1 #[.val (.ref a1), .val (.int p2)] [(.ref a1)])) _
    refine st1.trans ?_
    show Steps p.tables e below (T1.setTop (mkF m 4 #[.val (.ref a1), .val (.int p2)] [(.int (1 : Int32))])) _
    refine XS.ifNo X1.here hx rfl (hb hby d14_4) rfl (XT.i0_eq_f (by decide)) ?_
    show Steps p.tables e below (T1.setTop (mkF m 7 #[.val (.ref a1), .val (.int p2)] [])) _
    refine XS.aloadN X1.here hx rfl (hb hby d14_7) rfl rfl ?_
    show Steps p.tables e below (T1.setTop (mkF m 8 #[.val (.ref a1), .val (.int p2)] [(.ref a1)])) _
    refine st2 _ ?_
    show Steps p.tables e below (T2.setTop (mkF m 11 #[.val (.ref a1), .val (.int p2)] [(.ref b)])) _
    refine XS.iloadN X2.here hx rfl (hb hby d14_11) rfl ?_
    show Steps p.tables e below (T2.setTop (mkF m 12 #[.val (.ref a1), .val (.int p2)] [(.int p2), (.ref b)])) _
    refine st3 _ ?_
    exact kt
  obtain ⟨fs, hr, hrun, hended, hW, hsame⟩ := X3.leave (v := some (.int (nar .char (nar .char ((((fc kx).toInt8.toInt32) &&& (255 : Int32)).toUInt32.toUInt16.toUInt32.toInt32))))) (fun h => by rw [Bd.returns] at h; cases h)
  refine ⟨_, _, pre4 _ ?_, hrun, hended, _, _, rfl, ?_, ⟨_, rfl⟩, hW, hsame.mono (by decide) (by decide)⟩
  · show Steps p.tables e below (T3.setTop (mkF m 15 #[.val (.ref a1), .val (.int p2)] [(.int (nar .char ((((fc kx).toInt8.toInt32) &&& (255 : Int32)).toUInt32.toUInt16.toUInt32.toInt32)))])) _
    exact retN X3 hx (t := .char) Bd.returns (by simp) (hb hby d14_15) hr
  · show Q14 Z a1 p2 b zn n fc cs fmv kx h0 n0 _ T3.heap _
    rw [hE3]
    exact ⟨by rw [own_bc (hfc.2 kx hk2)], N3, rfl⟩
theorem pn_20 : plainName "java/util/OptionalLong" = true := by first | (simp [plainName, overriddenIn]; done) | decide +kernel
theorem ef_20 (m : MethodId) (x0 : Addr) (x1 : Int64) : entryFrame m #[(.ref x0), (.long x1)] 3 = mkF m 0 #[.val (.ref x0), .val (.long x1), .second] [] := by first | (simp [entryFrame, mkF, argsToLocals, Value.category]; done) | rfl
theorem d20_0 : decode jdk_2650_method_3_code 0 = .ok (.aload_n 0, 1) := by decide +kernel
theorem d20_1 : decode jdk_2650_method_3_code 1 = .ok (.invokespecial 1, 3) := by decide +kernel
theorem d20_4 : decode jdk_2650_method_3_code 4 = .ok (.aload_n 0, 1) := by decide +kernel
theorem d20_5 : decode jdk_2650_method_3_code 5 = .ok (.iconst 1, 1) := by decide +kernel
theorem d20_6 : decode jdk_2650_method_3_code 6 = .ok (.putfield 7, 3) := by decide +kernel
theorem d20_9 : decode jdk_2650_method_3_code 9 = .ok (.aload_n 0, 1) := by decide +kernel
theorem d20_10 : decode jdk_2650_method_3_code 10 = .ok (.lload_n 1, 1) := by decide +kernel
theorem d20_11 : decode jdk_2650_method_3_code 11 = .ok (.putfield 13, 3) := by decide +kernel
theorem d20_14 : decode jdk_2650_method_3_code 14 = .ok (.return_, 1) := by decide +kernel
def Q20 (Z : State) (a1 : Addr) (q2 : Int64) (h0 : Heap) (n0 : Nat) (v : Option Value) (h : Heap) (L : List Loc) : Prop := v = none ∧ Fr n0 L ∧ Keep h0 h [a1] ∧ Exa Z h a1 "java/util/OptionalLong" ∧ Fld Z h a1 "java/util/OptionalLong" "isPresent" "Z" (.int (1 : Int32)) ∧ Fld Z h a1 "java/util/OptionalLong" "value" "J" (.long q2)
set_option maxRecDepth 65536 in
set_option maxHeartbeats 40000000 in
theorem rm20 (l : Launch) (Z : State) (a0 : Array Value) (hw : ∀ d ∈ tables_1, d.before a0 Z = true) (ws : List Jvm.Cond) (a1 : Addr) (q2 : Int64) (h0 : Heap) (n0 : Nat) (Z0 : n0 ≤ h0.size) (E_a1 : Exa Z h0 a1 "java/util/OptionalLong") (F_isPresent : Fld Z h0 a1 "java/util/OptionalLong" "isPresent" "Z" (.int (0 : Int32))) (F_value : Fld Z h0 a1 "java/util/OptionalLong" "value" "J" (.long (0 : Int64))) (g_a1 : n0 ≤ a1) :
    MetFree l (⟨"java/util/OptionalLong", "<init>", "(J)V"⟩ : MethodName) (head1 (Jvm.Cond.code (⟨"java/util/OptionalLong", "<init>", "(J)V"⟩ : MethodName) jdk_2650_method_3_code 3 none :: ws) ({ frames := 1, cells := 0, slots := 0, locals := 12 } : Room)) (fun a U => a = #[(.ref a1), (.long q2)] ∧ Z.Warmed39 U.vm ∧ U.heap = h0) (fun _ _ _ _ _ => True) (fun _ U o U' => ∃ v L, o = .returned v ∧ Q20 Z a1 q2 h0 n0 v U'.heap L ∧ FrameEnd U o U' L ({ frames := 1, cells := 0, slots := 0, locals := 12 } : Room).cells ({ frames := 1, cells := 0, slots := 0, locals := 12 } : Room).slots) := by
  refine MetFree.of_bodySF (plainFor_of_name pn_20) hisR ?_
  intro p e s m args below meth c s₁ Bd hml0 hP hK
  obtain ⟨rfl, hZ, hh⟩ := hP
  have hx := Bd.exec
  have hby := Bd.bytes
  have hml : c.maxLocals = 3 := hml0
  have hown : s.vm.findClass "java/util/OptionalLong" = some m.cls := findClass_of_methodNamed Bd.named
  have hnm := (name_of_methodNamed Bd.named Bd.method).1
  have X0 : Stand p l e ({ frames := 1, cells := 0, slots := 0, locals := 12 } : Room) s m #[(.ref a1), (.long q2)] below meth c s₁ [] 0 0 := Stand.of_body Bd
  have e0 : s₁.heap = h0 := by rw [← hh, Bd.state]; rfl
  have N0 := Fr.nil n0
  have pre0 : ∀ t, Steps p.tables e below (s₁.setTop (mkF m 0 #[.val (.ref a1), .val (.long q2), .second] [])) t → Steps p.tables e below (s₁.setTop (entryFrame m #[(.ref a1), (.long q2)] 3)) t := fun t k => castTop (ef_20 m a1 q2) k
  obtain ⟨T1, X1, hE1, st1⟩ := initO X0 hx hZ hown (hw _ (List.mem_of_getElem? (i := 113) rfl)) (hw _ (List.mem_of_getElem? (i := 42) rfl)) (hw _ (List.mem_of_getElem? (i := 43) rfl)) e0 (g := (mkF m 1 #[.val (.ref a1), .val (.long q2), .second] [(.ref a1)])) rfl (by rw [hml]; rfl) rfl (hb hby d20_1) (by decide) (W := 0) (by show 2 * 0 + _ ≤ _; exact Nat.le_of_eq rfl) (by decide)
  obtain ⟨T2, gh2, X2, hE2, W2, st2⟩ := putFN X1 hx hZ hown (hw _ (List.mem_of_getElem? (i := 114) rfl)) Via.refl hE1 F_isPresent E_a1 (Or.inr ⟨(hw _ (List.mem_of_getElem? (i := 115) rfl)), rfl, hnm⟩) (hw _ (List.mem_of_getElem? (i := 108) rfl)) (ty := .boolean) (v' := (.int (1 : Int32))) (by decide) rfl rfl (g := (mkF m 6 #[.val (.ref a1), .val (.long q2), .second] [(.int (1 : Int32)), (.ref a1)])) rfl rfl (hb hby d20_6)
  have Fw2 := F_isPresent.same W2
  have f3 := E_a1.wr W2
  have f5 := F_value.other W2 (Or.inr (slot_ne (Or.inr (hw _ (List.mem_of_getElem? (i := 117) rfl))) (Or.inr (hw _ (List.mem_of_getElem? (i := 115) rfl))) (by decide) (t := .long) (t' := .boolean) (by decide) (by decide)))
  have Z6 := Nat.le_trans Z0 (Keep.of_wr W2).1
  have N7 := Fr.snoc X2 N0 g_a1
  have K8 := (Keep.refl h0 [a1]).wr W2 (Or.inl (List.mem_of_getElem? (i := 0) rfl))
  obtain ⟨T9, gh9, X9, hE9, W9, st9⟩ := putF X2 hx hZ hown (host := "") (Or.inl (hw _ (List.mem_of_getElem? (i := 116) rfl))) Via.refl hE2 f5 f3 (Or.inr ⟨(hw _ (List.mem_of_getElem? (i := 117) rfl)), rfl, hnm⟩) (hw _ (List.mem_of_getElem? (i := 108) rfl)) (ty := .long) (by decide) rfl rfl (g := (mkF m 11 #[.val (.ref a1), .val (.long q2), .second] [(.long q2), (.ref a1)])) rfl rfl (hb hby d20_11)
  have Fw9 := f5.same W9
  have f10 := f3.wr W9
  have f11 := Fw2.other W9 (Or.inr (slot_ne (Or.inr (hw _ (List.mem_of_getElem? (i := 115) rfl))) (Or.inr (hw _ (List.mem_of_getElem? (i := 117) rfl))) (by decide) (t := .boolean) (t' := .long) (by decide) (by decide)))
  have Z13 := Nat.le_trans Z6 (Keep.of_wr W9).1
  have N14 := Fr.snoc X9 N7 g_a1
  have K15 := K8.wr W9 (Or.inl (List.mem_of_getElem? (i := 0) rfl))
  have pre16 : ∀ t, Steps p.tables e below (T9.setTop (mkF m 14 #[.val (.ref a1), .val (.long q2), .second] [])) t → Steps p.tables e below (s₁.setTop (entryFrame m #[(.ref a1), (.long q2)] 3)) t := by
    intro t kt
    refine pre0 _ ?_
    show Steps p.tables e below (s₁.setTop (mkF m 0 #[.val (.ref a1), .val (.long q2), .second] [])) _
    refine XS.aloadN X0.here hx rfl (hb hby d20_0) rfl rfl ?_
    show Steps p.tables e below (s₁.setTop (mkF m 1 #[.val (.ref a1), .val (.long q2), .second] [(.ref a1)])) _
    refine st1 _ ?_
    show Steps p.tables e below (T1.setTop (mkF m 4 #[.val (.ref a1), .val (.long q2), .second] [])) _
    refine XS.aloadN X1.here hx rfl (hb hby d20_4) rfl rfl ?_
    show Steps p.tables e below (T1.setTop (mkF m 5 #[.val (.ref a1), .val (.long q2), .second] [(.ref a1)])) _
    refine XS.iconst X1.here hx rfl (hb hby d20_5) ?_
    show Steps p.tables e below (T1.setTop (mkF m 6 #[.val (.ref a1), .val (.long q2), .second] [(.int (1 : Int32)), (.ref a1)])) _
    refine st2 _ ?_
    show Steps p.tables e below (T2.setTop (mkF m 9 #[.val (.ref a1), .val (.long q2), .second] [])) _
    refine XS.aloadN X2.here hx rfl (hb hby d20_9) rfl rfl ?_
    show Steps p.tables e below (T2.setTop (mkF m 10 #[.val (.ref a1), .val (.long q2), .second] [(.ref a1)])) _
    refine XS.lloadN X2.here hx rfl (hb hby d20_10) rfl ?_
    show Steps p.tables e below (T2.setTop (mkF m 11 #[.val (.ref a1), .val (.long q2), .second] [(.long q2), (.ref a1)])) _
    refine st9 _ ?_
    exact kt
  obtain ⟨fs, hr, hrun, hended, hW, hsame⟩ := X9.leave (v := none) (fun _ => rfl)
  refine ⟨_, _, pre16 _ ?_, hrun, hended, _, _, rfl, ?_, ⟨_, rfl⟩, hW, hsame.mono (by decide) (by decide)⟩
  · show Steps p.tables e below (T9.setTop (mkF m 14 #[.val (.ref a1), .val (.long q2), .second] [])) _
    exact X9.returnOut hx Bd.returns (hb hby d20_14) hr
  · show Q20 Z a1 q2 h0 n0 _ T9.heap _
    rw [hE9]
    exact ⟨rfl, N14, K15, f10, f11, Fw9⟩
theorem pn_19 : plainName "java/util/OptionalLong" = true := by first | (simp [plainName, overriddenIn]; done) | decide +kernel
theorem ef_19 (m : MethodId) (x0 : Int64) : entryFrame m #[(.long x0)] 2 = mkF m 0 #[.val (.long x0), .second] [] := by first | (simp [entryFrame, mkF, argsToLocals, Value.category]; done) | rfl
theorem d19_0 : decode jdk_2650_method_4_code 0 = .ok (.new 8, 3) := by decide +kernel
theorem d19_3 : decode jdk_2650_method_4_code 3 = .ok (.dup, 1) := by decide +kernel
theorem d19_4 : decode jdk_2650_method_4_code 4 = .ok (.lload_n 0, 1) := by decide +kernel
theorem pd_10 : parseMethodDescriptor "(J)V" = some ⟨[.long], none⟩ := by decide +kernel
theorem d19_5 : decode jdk_2650_method_4_code 5 = .ok (.invokespecial 21, 3) := by decide +kernel
theorem d19_8 : decode jdk_2650_method_4_code 8 = .ok (.areturn, 1) := by decide +kernel
def Q19 (Z : State) (q1 : Int64) (h0 : Heap) (n0 : Nat) (v : Option Value) (h : Heap) (L : List Loc) : Prop := ∃ o : Addr, v = some (.ref o) ∧ Fr n0 L ∧ Keep h0 h [] ∧ Exa Z h o "java/util/OptionalLong" ∧ Fld Z h o "java/util/OptionalLong" "isPresent" "Z" (.int (1 : Int32)) ∧ Fld Z h o "java/util/OptionalLong" "value" "J" (.long q1)
set_option maxRecDepth 65536 in
set_option maxHeartbeats 40000000 in
theorem rm19 (l : Launch) (Z : State) (a0 : Array Value) (hw : ∀ d ∈ tables_1, d.before a0 Z = true) (ws : List Jvm.Cond) (q1 : Int64) (h0 : Heap) (n0 : Nat) (Z0 : n0 ≤ h0.size) :
    MetFree l (⟨"java/util/OptionalLong", "of", "(J)Ljava/util/OptionalLong;"⟩ : MethodName) (head1 (Jvm.Cond.code (⟨"java/util/OptionalLong", "of", "(J)Ljava/util/OptionalLong;"⟩ : MethodName) jdk_2650_method_4_code 2 (some (.object "java/util/OptionalLong")) :: ws) ({ frames := 2, cells := 1, slots := 2, locals := 27 } : Room)) (fun a U => a = #[(.long q1)] ∧ Z.Warmed39 U.vm ∧ U.heap = h0) (fun _ _ _ _ _ => True) (fun _ U o U' => ∃ v L, o = .returned v ∧ Q19 Z q1 h0 n0 v U'.heap L ∧ FrameEnd U o U' L ({ frames := 2, cells := 1, slots := 2, locals := 27 } : Room).cells ({ frames := 2, cells := 1, slots := 2, locals := 27 } : Room).slots) := by
  refine MetFree.of_bodySF (plainFor_of_name pn_19) hisR ?_
  intro p e s m args below meth c s₁ Bd hml0 hP hK
  obtain ⟨rfl, hZ, hh⟩ := hP
  have hx := Bd.exec
  have hby := Bd.bytes
  have hml : c.maxLocals = 2 := hml0
  have hown : s.vm.findClass "java/util/OptionalLong" = some m.cls := findClass_of_methodNamed Bd.named
  have hnm := (name_of_methodNamed Bd.named Bd.method).1
  have X0 : Stand p l e ({ frames := 2, cells := 1, slots := 2, locals := 27 } : Room) s m #[(.long q1)] below meth c s₁ [] 0 0 := Stand.of_body Bd
  have e0 : s₁.heap = h0 := by rw [← hh, Bd.state]; rfl
  have N0 := Fr.nil n0
  have pre0 : ∀ t, Steps p.tables e below (s₁.setTop (mkF m 0 #[.val (.long q1), .second] [])) t → Steps p.tables e below (s₁.setTop (entryFrame m #[(.long q1)] 2)) t := fun t k => castTop (ef_19 m q1) k
  obtain ⟨T1, gh1, X1, hE1, E1, A1, D1, -, st1⟩ := newO X0 hx hZ hown (hw _ (List.mem_of_getElem? (i := 107) rfl)) (hw _ (List.mem_of_getElem? (i := 108) rfl)) (hw _ (List.mem_of_getElem? (i := 105) rfl)) e0 (g := (mkF m 0 #[.val (.long q1), .second] [])) rfl (hb hby d19_0) (by decide) (by decide)
  obtain ⟨ol, g1⟩ : ∃ z, z = h0.size := ⟨_, rfl⟩
  rw [← g1] at A1 D1 st1
  have g_ol : n0 ≤ ol := Nat.le_trans Z0 (Nat.le_of_eq g1.symm)
  have sz_ol : h0.size ≤ ol := Nat.le_trans (Keep.refl h0 []).1 (Nat.le_of_eq g1.symm)
  have Z2 := Nat.le_trans Z0 E1.1
  have K3 := (Keep.refl h0 []).ext E1
  have F_isPresent_ol : Fld Z gh1 ol "java/util/OptionalLong" "isPresent" "Z" (.int (0 : Int32)) := D1 (Or.inr (hw _ (List.mem_of_getElem? (i := 115) rfl))) (ty := .boolean) (by decide)
  have F_value_ol : Fld Z gh1 ol "java/util/OptionalLong" "value" "J" (.long (0 : Int64)) := D1 (Or.inr (hw _ (List.mem_of_getElem? (i := 117) rfl))) (ty := .long) (by decide)
  obtain ⟨_, _, ⟨T4, L4, k4, n4⟩, -, X4, ⟨Lc4, hQ4, l4, y4, z4⟩, st4⟩ := X1.specialBack hx (y := (⟨"java/util/OptionalLong", "<init>", "(J)V"⟩ : MethodName)) rfl hown (mvT hZ (hw _ (List.mem_of_getElem? (i := 109) rfl))) (mvT hZ (hw _ (List.mem_of_getElem? (i := 110) rfl))) (mvT hZ (hw _ (List.mem_of_getElem? (i := 112) rfl))) (by decide) (backOf (W := 1) (rm20 l Z a0 hw [] ol q1 gh1 n0 Z2 A1 F_isPresent_ol F_value_ol g_ol) hZ (hw _ (List.mem_of_getElem? (i := 112) rfl)) (hw _ (List.mem_of_getElem? (i := 105) rfl)) (by decide) (by decide)) (g := (mkF m 5 #[.val (.long q1), .second] [(.long q1), (.ref ol), (.ref ol)])) rfl (by rw [hml]; rfl) (Steps.refl _) (a := ol) (argsL := [(.long q1)]) (rest := [(.ref ol)]) (lenOf pd_10 rfl) rfl (by show 2 * 0 + _ ≤ _; exact Nat.le_of_eq rfl) (hb hby d19_5) (fun _ _ => ⟨rfl, hE1, (by decide : 1 + 0 ≤ _), (by decide : 2 + 0 ≤ _)⟩)
  dsimp only [Pt.U, Pt.locs, Pt.cells, Pt.slots] at X4 l4 y4 z4 st4 hQ4
  subst l4 y4 z4
  obtain ⟨rfl, N4q, K4, p4_0, p4_1, p4_2⟩ := hQ4
  have N4 := Fr.app N0 N4q
  have f5 := A1.keep K4
  have Z8 := Nat.le_trans Z2 K4.1
  have K9 := K3.trans K4 (allS (Or.inr sz_ol) all0)
  have pre10 : ∀ t, Steps p.tables e below (T4.setTop (mkF m 8 #[.val (.long q1), .second] [(.ref ol)])) t → Steps p.tables e below (s₁.setTop (entryFrame m #[(.long q1)] 2)) t := by
    intro t kt
    refine pre0 _ ?_
    show Steps p.tables e below (s₁.setTop (mkF m 0 #[.val (.long q1), .second] [])) _
    refine st1 _ ?_
    show Steps p.tables e below (T1.setTop (mkF m 3 #[.val (.long q1), .second] [(.ref ol)])) _
    refine XS.dup X1.here hx rfl (hb hby d19_3) rfl rfl ?_
    show Steps p.tables e below (T1.setTop (mkF m 4 #[.val (.long q1), .second] [(.ref ol), (.ref ol)])) _
    refine XS.lloadN X1.here hx rfl (hb hby d19_4) rfl ?_
    show Steps p.tables e below (T1.setTop (mkF m 5 #[.val (.long q1), .second] [(.long q1), (.ref ol), (.ref ol)])) _
    refine st4.trans ?_
    exact kt
  obtain ⟨fs, hr, hrun, hended, hW, hsame⟩ := X4.leave (v := some (.ref ol)) (fun h => by rw [Bd.returns] at h; cases h)
  refine ⟨_, _, pre10 _ ?_, hrun, hended, _, _, rfl, ?_, ⟨_, rfl⟩, hW, hsame.mono (by decide) (by decide)⟩
  · show Steps p.tables e below (T4.setTop (mkF m 8 #[.val (.long q1), .second] [(.ref ol)])) _
    exact X4.areturnOut hx rfl Bd.returns rfl (hb hby d19_8) hr
  · show Q19 Z q1 h0 n0 _ T4.heap _
    exact ⟨ol, rfl, N4, K9, p4_0, p4_1, p4_2⟩
theorem pn_24 : plainName "java/util/OptionalLong" = true := by first | (simp [plainName, overriddenIn]; done) | decide +kernel
theorem ef_24 (m : MethodId)  : entryFrame m #[] 0 = mkF m 0 #[] [] := by first | (simp [entryFrame, mkF, argsToLocals, Value.category]; done) | rfl
theorem d24_0 : decode jdk_2650_method_2_code 0 = .ok (.getstatic 17, 3) := by decide +kernel
theorem d24_3 : decode jdk_2650_method_2_code 3 = .ok (.areturn, 1) := by decide +kernel
def Q24 (Z : State) (em : Addr) (h0 : Heap) (n0 : Nat) (v : Option Value) (h : Heap) (L : List Loc) : Prop := v = some (.ref em) ∧ Fr n0 L ∧ h = h0
set_option maxRecDepth 65536 in
set_option maxHeartbeats 40000000 in
theorem rm24 (l : Launch) (Z : State) (a0 : Array Value) (hw : ∀ d ∈ tables_1, d.before a0 Z = true) (ws : List Jvm.Cond) (em : Addr) (h0 : Heap) (n0 : Nat) (Z0 : n0 ≤ h0.size) (S_em : Sta Z h0 "java/util/OptionalLong" "EMPTY" "Ljava/util/OptionalLong;" (.ref em)) :
    MetFree l (⟨"java/util/OptionalLong", "empty", "()Ljava/util/OptionalLong;"⟩ : MethodName) (head1 (Jvm.Cond.code (⟨"java/util/OptionalLong", "empty", "()Ljava/util/OptionalLong;"⟩ : MethodName) jdk_2650_method_2_code 0 (some (.object "java/util/OptionalLong")) :: ws) ({ frames := 0, cells := 0, slots := 0, locals := 0 } : Room)) (fun a U => a = #[] ∧ Z.Warmed39 U.vm ∧ U.heap = h0) (fun _ _ _ _ _ => True) (fun _ U o U' => ∃ v L, o = .returned v ∧ Q24 Z em h0 n0 v U'.heap L ∧ FrameEnd U o U' L ({ frames := 0, cells := 0, slots := 0, locals := 0 } : Room).cells ({ frames := 0, cells := 0, slots := 0, locals := 0 } : Room).slots) := by
  refine MetFree.of_bodySF (plainFor_of_name pn_24) hisR ?_
  intro p e s m args below meth c s₁ Bd hml0 hP hK
  obtain ⟨rfl, hZ, hh⟩ := hP
  have hx := Bd.exec
  have hby := Bd.bytes
  have hml : c.maxLocals = 0 := hml0
  have hown : s.vm.findClass "java/util/OptionalLong" = some m.cls := findClass_of_methodNamed Bd.named
  have hnm := (name_of_methodNamed Bd.named Bd.method).1
  have X0 : Stand p l e ({ frames := 0, cells := 0, slots := 0, locals := 0 } : Room) s m #[] below meth c s₁ [] 0 0 := Stand.of_body Bd
  have e0 : s₁.heap = h0 := by rw [← hh, Bd.state]; rfl
  have N0 := Fr.nil n0
  have pre0 : ∀ t, Steps p.tables e below (s₁.setTop (mkF m 0 #[] [])) t → Steps p.tables e below (s₁.setTop (entryFrame m #[] 0)) t := fun t k => castTop (ef_24 m ) k
  obtain ⟨T1, X1, hE1, st1⟩ := getS2 X0 hx hZ hown (host := "") (Or.inl (hw _ (List.mem_of_getElem? (i := 134) rfl))) Via.refl e0 S_em (g := (mkF m 0 #[] [])) rfl (hb hby d24_0)
  have pre2 : ∀ t, Steps p.tables e below (T1.setTop (mkF m 3 #[] [(.ref em)])) t → Steps p.tables e below (s₁.setTop (entryFrame m #[] 0)) t := by
    intro t kt
    refine pre0 _ ?_
    show Steps p.tables e below (s₁.setTop (mkF m 0 #[] [])) _
    refine st1 _ ?_
    exact kt
  obtain ⟨fs, hr, hrun, hended, hW, hsame⟩ := X1.leave (v := some (.ref em)) (fun h => by rw [Bd.returns] at h; cases h)
  refine ⟨_, _, pre2 _ ?_, hrun, hended, _, _, rfl, ?_, ⟨_, rfl⟩, hW, hsame.mono (by decide) (by decide)⟩
  · show Steps p.tables e below (T1.setTop (mkF m 3 #[] [(.ref em)])) _
    exact X1.areturnOut hx rfl Bd.returns rfl (hb hby d24_3) hr
  · show Q24 Z em h0 n0 _ T1.heap _
    rw [hE1]
    exact ⟨rfl, N0, rfl⟩
theorem pn_22 : plainName "java/util/OptionalLong" = true := by first | (simp [plainName, overriddenIn]; done) | decide +kernel
theorem ef_22 (m : MethodId) (x0 : Addr) : entryFrame m #[(.ref x0)] 1 = mkF m 0 #[.val (.ref x0)] [] := by first | (simp [entryFrame, mkF, argsToLocals, Value.category]; done) | rfl
theorem d22_0 : decode jdk_2650_method_6_code 0 = .ok (.aload_n 0, 1) := by decide +kernel
theorem d22_1 : decode jdk_2650_method_6_code 1 = .ok (.getfield 7, 3) := by decide +kernel
theorem d22_4 : decode jdk_2650_method_6_code 4 = .ok (.ireturn, 1) := by decide +kernel
def Q22 (Z : State) (a1 : Addr) (ip : Int32) (vv : Int64) (h0 : Heap) (n0 : Nat) (v : Option Value) (h : Heap) (L : List Loc) : Prop := v = some (.int (nar .boolean ip)) ∧ Fr n0 L ∧ h = h0
set_option maxRecDepth 65536 in
set_option maxHeartbeats 40000000 in
theorem rm22 (l : Launch) (Z : State) (a0 : Array Value) (hw : ∀ d ∈ tables_1, d.before a0 Z = true) (ws : List Jvm.Cond) (a1 : Addr) (ip : Int32) (vv : Int64) (h0 : Heap) (n0 : Nat) (Z0 : n0 ≤ h0.size) (E_a1 : Exa Z h0 a1 "java/util/OptionalLong") (Fi : Fld Z h0 a1 "java/util/OptionalLong" "isPresent" "Z" (.int ip)) (Fv : Fld Z h0 a1 "java/util/OptionalLong" "value" "J" (.long vv)) :
    MetFree l (⟨"java/util/OptionalLong", "isPresent", "()Z"⟩ : MethodName) (head1 (Jvm.Cond.code (⟨"java/util/OptionalLong", "isPresent", "()Z"⟩ : MethodName) jdk_2650_method_6_code 1 (some .boolean) :: ws) ({ frames := 0, cells := 0, slots := 0, locals := 0 } : Room)) (fun a U => a = #[(.ref a1)] ∧ Z.Warmed39 U.vm ∧ U.heap = h0) (fun _ _ _ _ _ => True) (fun _ U o U' => ∃ v L, o = .returned v ∧ Q22 Z a1 ip vv h0 n0 v U'.heap L ∧ FrameEnd U o U' L ({ frames := 0, cells := 0, slots := 0, locals := 0 } : Room).cells ({ frames := 0, cells := 0, slots := 0, locals := 0 } : Room).slots) := by
  refine MetFree.of_bodySF (plainFor_of_name pn_22) hisR ?_
  intro p e s m args below meth c s₁ Bd hml0 hP hK
  obtain ⟨rfl, hZ, hh⟩ := hP
  have hx := Bd.exec
  have hby := Bd.bytes
  have hml : c.maxLocals = 1 := hml0
  have hown : s.vm.findClass "java/util/OptionalLong" = some m.cls := findClass_of_methodNamed Bd.named
  have hnm := (name_of_methodNamed Bd.named Bd.method).1
  have X0 : Stand p l e ({ frames := 0, cells := 0, slots := 0, locals := 0 } : Room) s m #[(.ref a1)] below meth c s₁ [] 0 0 := Stand.of_body Bd
  have e0 : s₁.heap = h0 := by rw [← hh, Bd.state]; rfl
  have N0 := Fr.nil n0
  have pre0 : ∀ t, Steps p.tables e below (s₁.setTop (mkF m 0 #[.val (.ref a1)] [])) t → Steps p.tables e below (s₁.setTop (entryFrame m #[(.ref a1)] 1)) t := fun t k => castTop (ef_22 m a1) k
  obtain ⟨T1, X1, hE1, st1⟩ := getF X0 hx hZ hown (host := "") (Or.inl (hw _ (List.mem_of_getElem? (i := 114) rfl))) Via.refl e0 Fi (g := (mkF m 1 #[.val (.ref a1)] [(.ref a1)])) rfl rfl (hb hby d22_1)
  have pre2 : ∀ t, Steps p.tables e below (T1.setTop (mkF m 4 #[.val (.ref a1)] [(.int ip)])) t → Steps p.tables e below (s₁.setTop (entryFrame m #[(.ref a1)] 1)) t := by
    intro t kt
    refine pre0 _ ?_
    show Steps p.tables e below (s₁.setTop (mkF m 0 #[.val (.ref a1)] [])) _
    refine XS.aloadN X0.here hx rfl (hb hby d22_0) rfl rfl ?_
    show Steps p.tables e below (s₁.setTop (mkF m 1 #[.val (.ref a1)] [(.ref a1)])) _
    refine st1 _ ?_
    exact kt
  obtain ⟨fs, hr, hrun, hended, hW, hsame⟩ := X1.leave (v := some (.int (nar .boolean ip))) (fun h => by rw [Bd.returns] at h; cases h)
  refine ⟨_, _, pre2 _ ?_, hrun, hended, _, _, rfl, ?_, ⟨_, rfl⟩, hW, hsame.mono (by decide) (by decide)⟩
  · show Steps p.tables e below (T1.setTop (mkF m 4 #[.val (.ref a1)] [(.int ip)])) _
    exact retN X1 hx (t := .boolean) Bd.returns (by simp) (hb hby d22_4) hr
  · show Q22 Z a1 ip vv h0 n0 _ T1.heap _
    rw [hE1]
    exact ⟨rfl, N0, rfl⟩
theorem pn_23 : plainName "java/util/OptionalLong" = true := by first | (simp [plainName, overriddenIn]; done) | decide +kernel
theorem ef_23 (m : MethodId) (x0 : Addr) : entryFrame m #[(.ref x0)] 1 = mkF m 0 #[.val (.ref x0)] [] := by first | (simp [entryFrame, mkF, argsToLocals, Value.category]; done) | rfl
theorem d23_0 : decode jdk_2650_method_5_code 0 = .ok (.aload_n 0, 1) := by decide +kernel
theorem d23_1 : decode jdk_2650_method_5_code 1 = .ok (.getfield 7, 3) := by decide +kernel
theorem d23_4 : decode jdk_2650_method_5_code 4 = .ok (.ifCond .ne 13, 3) := by decide +kernel
theorem d23_17 : decode jdk_2650_method_5_code 17 = .ok (.aload_n 0, 1) := by decide +kernel
theorem d23_18 : decode jdk_2650_method_5_code 18 = .ok (.getfield 13, 3) := by decide +kernel
theorem d23_21 : decode jdk_2650_method_5_code 21 = .ok (.lreturn, 1) := by decide +kernel
def Q23 (Z : State) (a1 : Addr) (ip : Int32) (vv : Int64) (h0 : Heap) (n0 : Nat) (v : Option Value) (h : Heap) (L : List Loc) : Prop := v = some (.long vv) ∧ Fr n0 L ∧ h = h0
set_option maxRecDepth 65536 in
set_option maxHeartbeats 40000000 in
theorem rm23 (l : Launch) (Z : State) (a0 : Array Value) (hw : ∀ d ∈ tables_1, d.before a0 Z = true) (ws : List Jvm.Cond) (a1 : Addr) (ip : Int32) (vv : Int64) (h0 : Heap) (n0 : Nat) (Z0 : n0 ≤ h0.size) (E_a1 : Exa Z h0 a1 "java/util/OptionalLong") (Fi : Fld Z h0 a1 "java/util/OptionalLong" "isPresent" "Z" (.int ip)) (Fv : Fld Z h0 a1 "java/util/OptionalLong" "value" "J" (.long vv)) (hip : ¬ ip = (0 : Int32)) :
    MetFree l (⟨"java/util/OptionalLong", "getAsLong", "()J"⟩ : MethodName) (head1 (Jvm.Cond.code (⟨"java/util/OptionalLong", "getAsLong", "()J"⟩ : MethodName) jdk_2650_method_5_code 1 (some .long) :: ws) ({ frames := 0, cells := 0, slots := 0, locals := 0 } : Room)) (fun a U => a = #[(.ref a1)] ∧ Z.Warmed39 U.vm ∧ U.heap = h0) (fun _ _ _ _ _ => True) (fun _ U o U' => ∃ v L, o = .returned v ∧ Q23 Z a1 ip vv h0 n0 v U'.heap L ∧ FrameEnd U o U' L ({ frames := 0, cells := 0, slots := 0, locals := 0 } : Room).cells ({ frames := 0, cells := 0, slots := 0, locals := 0 } : Room).slots) := by
  refine MetFree.of_bodySF (plainFor_of_name pn_23) hisR ?_
  intro p e s m args below meth c s₁ Bd hml0 hP hK
  obtain ⟨rfl, hZ, hh⟩ := hP
  have hx := Bd.exec
  have hby := Bd.bytes
  have hml : c.maxLocals = 1 := hml0
  have hown : s.vm.findClass "java/util/OptionalLong" = some m.cls := findClass_of_methodNamed Bd.named
  have hnm := (name_of_methodNamed Bd.named Bd.method).1
  have X0 : Stand p l e ({ frames := 0, cells := 0, slots := 0, locals := 0 } : Room) s m #[(.ref a1)] below meth c s₁ [] 0 0 := Stand.of_body Bd
  have e0 : s₁.heap = h0 := by rw [← hh, Bd.state]; rfl
  have N0 := Fr.nil n0
  have pre0 : ∀ t, Steps p.tables e below (s₁.setTop (mkF m 0 #[.val (.ref a1)] [])) t → Steps p.tables e below (s₁.setTop (entryFrame m #[(.ref a1)] 1)) t := fun t k => castTop (ef_23 m a1) k
  obtain ⟨T1, X1, hE1, st1⟩ := getF X0 hx hZ hown (host := "") (Or.inl (hw _ (List.mem_of_getElem? (i := 114) rfl))) Via.refl e0 Fi (g := (mkF m 1 #[.val (.ref a1)] [(.ref a1)])) rfl rfl (hb hby d23_1)
  obtain ⟨T2, X2, hE2, st2⟩ := getF X1 hx hZ hown (host := "") (Or.inl (hw _ (List.mem_of_getElem? (i := 116) rfl))) Via.refl hE1 Fv (g := (mkF m 18 #[.val (.ref a1)] [(.ref a1)])) rfl rfl (hb hby d23_18)
  have pre3 : ∀ t, Steps p.tables e below (T2.setTop (mkF m 21 #[.val (.ref a1)] [(.long vv)])) t → Steps p.tables e below (s₁.setTop (entryFrame m #[(.ref a1)] 1)) t := by
    intro t kt
    refine pre0 _ ?_
    show Steps p.tables e below (s₁.setTop (mkF m 0 #[.val (.ref a1)] [])) _
    refine XS.aloadN X0.here hx rfl (hb hby d23_0) rfl rfl ?_
    show Steps p.tables e below (s₁.setTop (mkF m 1 #[.val (.ref a1)] [(.ref a1)])) _
    refine st1 _ ?_
    show Steps p.tables e below (T1.setTop (mkF m 4 #[.val (.ref a1)] [(.int ip)])) _
    refine XS.ifYes X1.here hx rfl (pc0 := 4) (pc' := 17) rfl (hb hby d23_4) rfl (XT.i0_ne_t hip) (by decide) (by decide) ?_
    show Steps p.tables e below (T1.setTop (mkF m 17 #[.val (.ref a1)] [])) _
    refine XS.aloadN X1.here hx rfl (hb hby d23_17) rfl rfl ?_
    show Steps p.tables e below (T1.setTop (mkF m 18 #[.val (.ref a1)] [(.ref a1)])) _
    refine st2 _ ?_
    exact kt
  obtain ⟨fs, hr, hrun, hended, hW, hsame⟩ := X2.leave (v := some (.long vv)) (fun h => by rw [Bd.returns] at h; cases h)
  refine ⟨_, _, pre3 _ ?_, hrun, hended, _, _, rfl, ?_, ⟨_, rfl⟩, hW, hsame.mono (by decide) (by decide)⟩
  · show Steps p.tables e below (T2.setTop (mkF m 21 #[.val (.ref a1)] [(.long vv)])) _
    exact X2.lreturnOut hx Bd.returns (hb hby d23_21) hr
  · show Q23 Z a1 ip vv h0 n0 _ T2.heap _
    rw [hE2]
    exact ⟨rfl, N0, rfl⟩
def own_step (acc : Int64) (d : Int32) : Int64 := if (((9223372036854775807 : Int64) - (d.toInt64)) / (10 : Int64)) < acc then (9223372036854775807 : Int64) else ((acc * (10 : Int64)) + (d.toInt64))
def own_scan (fc : Nat → Int32) : Nat → Nat → Int64 → Int32 × Int64
  | 0, _, acc => (1, acc)
  | d + 1, i, acc => if ((fc i) - (48 : Int32)) < (0 : Int32) then (0, 0) else if (9 : Int32) < ((fc i) - (48 : Int32)) then (0, 0) else own_scan fc d (i + 1) (own_step acc ((fc i) - (48 : Int32)))
def own_res (fc : Nat → Int32) (n : Nat) : Int32 × Int64 := if n = 0 then (0, 0) else own_scan fc n 0 0
theorem own_res0 {fc : Nat → Int32} {n : Nat} (h : n = 0) : own_res fc n = (0, 0) := if_pos h
theorem own_res1 {fc : Nat → Int32} {n : Nat} {r : Int32 × Int64} (h : ¬ n = 0) (hr : own_scan fc n 0 0 = r) : own_res fc n = r := by rw [own_res, if_neg h, hr]
theorem own_scn {fc : Nat → Int32} {d i : Nat} {acc : Int64} (h : ((fc i) - (48 : Int32)) < (0 : Int32)) : own_scan fc (d + 1) i acc = (0, 0) := by rw [own_scan, if_pos h]
theorem own_sc9 {fc : Nat → Int32} {d i : Nat} {acc : Int64} (h : ¬ ((fc i) - (48 : Int32)) < (0 : Int32)) (h9 : (9 : Int32) < ((fc i) - (48 : Int32))) : own_scan fc (d + 1) i acc = (0, 0) := by rw [own_scan, if_neg h, if_pos h9]
theorem own_scs {fc : Nat → Int32} {d i : Nat} {acc : Int64} {nv : Int64} {r : Int32 × Int64} (h : ¬ ((fc i) - (48 : Int32)) < (0 : Int32)) (h9 : ¬ (9 : Int32) < ((fc i) - (48 : Int32))) (hn : nv = own_step acc ((fc i) - (48 : Int32))) (hr : own_scan fc d (i + 1) nv = r) : own_scan fc (d + 1) i acc = r := by rw [own_scan, if_neg h, if_neg h9, ← hn, hr]
theorem own_emp {zn : Int32} {n : Nat} (hz : zn.toInt = (n : Int)) : zn = (0 : Int32) ↔ n = 0 := by
  rw [← Int32.toInt_inj, hz]
  have q : (0 : Int32).toInt = 0 := rfl
  omega
theorem own_hn0 {zn : Int32} {n : Nat} (hz : zn.toInt = (n : Int)) (h : (if zn = (0 : Int32) then (1 : Int32) else (0 : Int32)) = (0 : Int32)) : ¬ n = 0 := fun q => by
  rw [if_pos ((own_emp hz).mpr q)] at h
  exact absurd h (by decide)
theorem own_hn1 {zn : Int32} {n : Nat} (hz : zn.toInt = (n : Int)) (h : ¬ (if zn = (0 : Int32) then (1 : Int32) else (0 : Int32)) = (0 : Int32)) : n = 0 := by
  by_cases q : zn = (0 : Int32)
  · exact (own_emp hz).mp q
  · rw [if_neg q] at h; exact absurd rfl h
theorem d10_0 : decode prog_40_method_2_code 0 = .ok (.aload_n 0, 1) := by decide +kernel
theorem d10_1 : decode prog_40_method_2_code 1 = .ok (.invokevirtual 7, 3) := by decide +kernel
theorem d10_4 : decode prog_40_method_2_code 4 = .ok (.ifCond .eq 7, 3) := by decide +kernel
theorem d10_7 : decode prog_40_method_2_code 7 = .ok (.invokestatic 13, 3) := by decide +kernel
theorem d10_10 : decode prog_40_method_2_code 10 = .ok (.areturn, 1) := by decide +kernel
theorem d10_11 : decode prog_40_method_2_code 11 = .ok (.lconst 0, 1) := by decide +kernel
theorem d10_12 : decode prog_40_method_2_code 12 = .ok (.lstore_n 1, 1) := by decide +kernel
theorem d10_13 : decode prog_40_method_2_code 13 = .ok (.iconst 0, 1) := by decide +kernel
theorem d10_14 : decode prog_40_method_2_code 14 = .ok (.istore_n 3, 1) := by decide +kernel
theorem d10_15 : decode prog_40_method_2_code 15 = .ok (.iload_n 3, 1) := by decide +kernel
theorem d10_16 : decode prog_40_method_2_code 16 = .ok (.aload_n 0, 1) := by decide +kernel
theorem d10_17 : decode prog_40_method_2_code 17 = .ok (.invokevirtual 19, 3) := by decide +kernel
theorem d10_20 : decode prog_40_method_2_code 20 = .ok (.if_icmp .ge 67, 3) := by decide +kernel
theorem d10_23 : decode prog_40_method_2_code 23 = .ok (.aload_n 0, 1) := by decide +kernel
theorem d10_24 : decode prog_40_method_2_code 24 = .ok (.iload_n 3, 1) := by decide +kernel
theorem d10_25 : decode prog_40_method_2_code 25 = .ok (.invokevirtual 23, 3) := by decide +kernel
theorem d10_28 : decode prog_40_method_2_code 28 = .ok (.bipush 48, 2) := by decide +kernel
theorem d10_30 : decode prog_40_method_2_code 30 = .ok (.isub, 1) := by decide +kernel
theorem d10_31 : decode prog_40_method_2_code 31 = .ok (.istore 4, 2) := by decide +kernel
theorem d10_33 : decode prog_40_method_2_code 33 = .ok (.iload 4, 2) := by decide +kernel
theorem d10_35 : decode prog_40_method_2_code 35 = .ok (.ifCond .lt 10, 3) := by decide +kernel
theorem d10_38 : decode prog_40_method_2_code 38 = .ok (.iload 4, 2) := by decide +kernel
theorem d10_40 : decode prog_40_method_2_code 40 = .ok (.bipush 9, 2) := by decide +kernel
theorem d10_42 : decode prog_40_method_2_code 42 = .ok (.if_icmp .le 7, 3) := by decide +kernel
theorem d10_45 : decode prog_40_method_2_code 45 = .ok (.invokestatic 13, 3) := by decide +kernel
theorem d10_48 : decode prog_40_method_2_code 48 = .ok (.areturn, 1) := by decide +kernel
theorem d10_49 : decode prog_40_method_2_code 49 = .ok (.lload_n 1, 1) := by decide +kernel
theorem d10_50 : decode prog_40_method_2_code 50 = .ok (.ldc2_w 29, 3) := by decide +kernel
theorem d10_53 : decode prog_40_method_2_code 53 = .ok (.iload 4, 2) := by decide +kernel
theorem d10_55 : decode prog_40_method_2_code 55 = .ok (.i2l, 1) := by decide +kernel
theorem d10_56 : decode prog_40_method_2_code 56 = .ok (.lsub, 1) := by decide +kernel
theorem d10_57 : decode prog_40_method_2_code 57 = .ok (.ldc2_w 31, 3) := by decide +kernel
theorem d10_60 : decode prog_40_method_2_code 60 = .ok (.ldiv, 1) := by decide +kernel
theorem d10_61 : decode prog_40_method_2_code 61 = .ok (.lcmp, 1) := by decide +kernel
theorem d10_62 : decode prog_40_method_2_code 62 = .ok (.ifCond .le 9, 3) := by decide +kernel
theorem d10_65 : decode prog_40_method_2_code 65 = .ok (.ldc2_w 29, 3) := by decide +kernel
theorem d10_68 : decode prog_40_method_2_code 68 = .ok (.goto 12, 3) := by decide +kernel
theorem d10_71 : decode prog_40_method_2_code 71 = .ok (.lload_n 1, 1) := by decide +kernel
theorem d10_72 : decode prog_40_method_2_code 72 = .ok (.ldc2_w 31, 3) := by decide +kernel
theorem d10_75 : decode prog_40_method_2_code 75 = .ok (.lmul, 1) := by decide +kernel
theorem d10_76 : decode prog_40_method_2_code 76 = .ok (.iload 4, 2) := by decide +kernel
theorem d10_78 : decode prog_40_method_2_code 78 = .ok (.i2l, 1) := by decide +kernel
theorem d10_79 : decode prog_40_method_2_code 79 = .ok (.ladd, 1) := by decide +kernel
theorem d10_80 : decode prog_40_method_2_code 80 = .ok (.lstore_n 1, 1) := by decide +kernel
theorem d10_81 : decode prog_40_method_2_code 81 = .ok (.iinc 3 1, 3) := by decide +kernel
theorem d10_84 : decode prog_40_method_2_code 84 = .ok (.goto (-69), 3) := by decide +kernel
theorem d10_87 : decode prog_40_method_2_code 87 = .ok (.lload_n 1, 1) := by decide +kernel
theorem d10_88 : decode prog_40_method_2_code 88 = .ok (.invokestatic 33, 3) := by decide +kernel
theorem d10_91 : decode prog_40_method_2_code 91 = .ok (.areturn, 1) := by decide +kernel
theorem pn_10 : plainName "com/example/relent/relent/WholeNumbers" = true := by first | (simp [plainName, overriddenIn]; done) | decide +kernel
theorem ef_10 (m : MethodId) (x0 : Addr) : entryFrame m #[(.ref x0)] 5 = mkF m 0 #[.val (.ref x0), .unset, .unset, .unset, .unset] [] := by first | (simp [entryFrame, mkF, argsToLocals, Value.category]; done) | rfl
theorem pd_11 : parseMethodDescriptor "()I" = some ⟨[], some .int⟩ := by decide +kernel
theorem pd_12 : parseMethodDescriptor "(I)C" = some ⟨[.int], some .char⟩ := by decide +kernel
theorem pd_13 : parseMethodDescriptor "()Ljava/util/OptionalLong;" = some ⟨[], some (.object "java/util/OptionalLong")⟩ := by decide +kernel
theorem pd_14 : parseMethodDescriptor "(J)Ljava/util/OptionalLong;" = some ⟨[.long], some (.object "java/util/OptionalLong")⟩ := by decide +kernel
def Q10 (Z : State) (a1 : Addr) (b : Addr) (zn : Int32) (n : Nat) (fc : Nat → Int32) (cs : Int32) (fmv : Value) (em : Addr) (h0 : Heap) (n0 : Nat) (v : Option Value) (h : Heap) (L : List Loc) : Prop := ∃ o : Addr, v = some (.ref o) ∧ Fr n0 L ∧ Keep h0 h [] ∧ Exa Z h o "java/util/OptionalLong" ∧ Fld Z h o "java/util/OptionalLong" "isPresent" "Z" (.int (own_res fc n).1) ∧ Fld Z h o "java/util/OptionalLong" "value" "J" (.long (own_res fc n).2)
set_option maxRecDepth 65536 in
set_option maxHeartbeats 40000000 in
theorem rm10 (l : Launch) (Z : State) (a0 : Array Value) (hw : ∀ d ∈ tables_1, d.before a0 Z = true) (ws : List Jvm.Cond) (a1 : Addr) (b : Addr) (zn : Int32) (n : Nat) (fc : Nat → Int32) (cs : Int32) (fmv : Value) (em : Addr) (h0 : Heap) (n0 : Nat) (Z0 : n0 ≤ h0.size) (E_a1 : Exa Z h0 a1 "java/lang/String") (Fv : Fld Z h0 a1 "java/lang/String" "value" "[B" (.ref b)) (Fc : Fld Z h0 a1 "java/lang/String" "coder" "B" (.int (0 : Int32))) (A_b : owAI Z h0 b .byte n (fun i => (fc i).toInt8.toInt32)) (hz : zn.toInt = (n : Int)) (hfc : OC n fc) (O_x : Old Z n0 h0) (hst : OST Z cs fmv) (hem : OEM Z em) :
    MetFree l (⟨"com/example/relent/relent/WholeNumbers", "unsigned", "(Ljava/lang/String;)Ljava/util/OptionalLong;"⟩ : MethodName) (head1 (Jvm.Cond.code (⟨"com/example/relent/relent/WholeNumbers", "unsigned", "(Ljava/lang/String;)Ljava/util/OptionalLong;"⟩ : MethodName) prog_40_method_2_code 5 (some (.object "java/util/OptionalLong")) :: ws) ({ frames := 4, cells := 1, slots := 2, locals := 53 } : Room)) (fun a U => a = #[(.ref a1)] ∧ Z.Warmed39 U.vm ∧ U.heap = h0) (fun _ _ _ _ _ => True) (fun _ U o U' => ∃ v L, o = .returned v ∧ Q10 Z a1 b zn n fc cs fmv em h0 n0 v U'.heap L ∧ FrameEnd U o U' L ({ frames := 4, cells := 1, slots := 2, locals := 53 } : Room).cells ({ frames := 4, cells := 1, slots := 2, locals := 53 } : Room).slots) := by
  refine MetFree.of_bodySF (plainFor_of_name pn_10) hisR ?_
  intro p e s m args below meth c s₁ Bd hml0 hP hK
  obtain ⟨rfl, hZ, hh⟩ := hP
  have hx := Bd.exec
  have hby := Bd.bytes
  have hml : c.maxLocals = 5 := hml0
  have hown : s.vm.findClass "com/example/relent/relent/WholeNumbers" = some m.cls := findClass_of_methodNamed Bd.named
  have hnm := (name_of_methodNamed Bd.named Bd.method).1
  have X0 : Stand p l e ({ frames := 4, cells := 1, slots := 2, locals := 53 } : Room) s m #[(.ref a1)] below meth c s₁ [] 0 0 := Stand.of_body Bd
  have e0 : s₁.heap = h0 := by rw [← hh, Bd.state]; rfl
  have N0 := Fr.nil n0
  have pre0 : ∀ t, Steps p.tables e below (s₁.setTop (mkF m 0 #[.val (.ref a1), .unset, .unset, .unset, .unset] [])) t → Steps p.tables e below (s₁.setTop (entryFrame m #[(.ref a1)] 5)) t := fun t k => castTop (ef_10 m a1) k
  obtain ⟨cq1, kq1, q1a, q1b, q1c⟩ := isOf hZ e0 E_a1
  obtain ⟨_, _, ⟨T1, L1, k1, n1⟩, -, X1, ⟨Lc1, hQ1, l1, y1, z1⟩, st1⟩ := X0.virtualBack hx (y := (⟨"java/lang/String", "isEmpty", "()Z"⟩ : MethodName)) (z := (⟨"java/lang/String", "isEmpty", "()Z"⟩ : MethodName)) hown (mvT hZ (hw _ (List.mem_of_getElem? (i := 64) rfl))) (mvT hZ (hw _ (List.mem_of_getElem? (i := 65) rfl))) (notFace_of_selects (args := #[]) (mvT hZ (hw _ (List.mem_of_getElem? (i := 67) rfl)))) (mvT hZ (hw _ (List.mem_of_getElem? (i := 67) rfl))) (mvT hZ (hw _ (List.mem_of_getElem? (i := 66) rfl))) (by decide) (backOf (W := 0) (rm11 l Z a0 hw [] a1 b zn n fc cs fmv h0 n0 Z0 E_a1 Fv Fc A_b hz hfc O_x hst) hZ (hw _ (List.mem_of_getElem? (i := 68) rfl)) (hw _ (List.mem_of_getElem? (i := 33) rfl)) (by decide) (by decide)) q1a q1c (g := (mkF m 1 #[.val (.ref a1), .unset, .unset, .unset, .unset] [(.ref a1)])) rfl (by rw [hml]; rfl) (Steps.refl _) (argsL := []) (rest := []) (lenOf pd_8 rfl) rfl (by show 2 * 0 + _ ≤ _; exact Nat.le_of_eq rfl) (hb hby d10_1) (fun _ _ => ⟨rfl, e0, (by decide : 0 + 0 ≤ _), (by decide : 0 + 0 ≤ _)⟩)
  dsimp only [Pt.U, Pt.locs, Pt.cells, Pt.slots] at X1 l1 y1 z1 st1 hQ1
  subst l1 y1 z1
  obtain ⟨rfl, N1q, hE1⟩ := hQ1
  have N1 := Fr.app N0 N1q
  have pre2 : ∀ t, Steps p.tables e below (T1.setTop (mkF m 4 #[.val (.ref a1), .unset, .unset, .unset, .unset] [(.int (if zn = (0 : Int32) then (1 : Int32) else (0 : Int32)))])) t → Steps p.tables e below (s₁.setTop (entryFrame m #[(.ref a1)] 5)) t := by
    intro t kt
    refine pre0 _ ?_
    show Steps p.tables e below (s₁.setTop (mkF m 0 #[.val (.ref a1), .unset, .unset, .unset, .unset] [])) _
    refine XS.aloadN X0.here hx rfl (hb hby d10_0) rfl rfl ?_
    show Steps p.tables e below (s₁.setTop (mkF m 1 #[.val (.ref a1), .unset, .unset, .unset, .unset] [(.ref a1)])) _
    refine st1.trans ?_
    exact kt
  by_cases hc4_3 : (if zn = (0 : Int32) then (1 : Int32) else (0 : Int32)) = (0 : Int32)
  · skip
    have pre4 : ∀ t, Steps p.tables e below (T1.setTop (mkF m 15 #[.val (.ref a1), .val (.long (0 : Int64)), .second, .val (.int (0 : Int32)), .unset] [])) t → Steps p.tables e below (s₁.setTop (entryFrame m #[(.ref a1)] 5)) t := by
      intro t kt
      refine pre2 _ ?_
      show Steps p.tables e below (T1.setTop (mkF m 4 #[.val (.ref a1), .unset, .unset, .unset, .unset] [(.int (if zn = (0 : Int32) then (1 : Int32) else (0 : Int32)))])) _
      refine XS.ifYes X1.here hx rfl (pc0 := 4) (pc' := 11) rfl (hb hby d10_4) rfl (XT.i0_eq_t hc4_3) (by decide) (by decide) ?_
      show Steps p.tables e below (T1.setTop (mkF m 11 #[.val (.ref a1), .unset, .unset, .unset, .unset] [])) _
      refine XS.lconst X1.here hx rfl (hb hby d10_11) ?_
      show Steps p.tables e below (T1.setTop (mkF m 12 #[.val (.ref a1), .unset, .unset, .unset, .unset] [(.long (0 : Int64))])) _
      refine XS.lstoreN X1.here hx rfl (hb hby d10_12) rfl (l' := #[.val (.ref a1), .val (.long (0 : Int64)), .second, .unset, .unset]) rfl ?_
      show Steps p.tables e below (T1.setTop (mkF m 13 #[.val (.ref a1), .val (.long (0 : Int64)), .second, .unset, .unset] [])) _
      refine XS.iconst X1.here hx rfl (hb hby d10_13) ?_
      show Steps p.tables e below (T1.setTop (mkF m 14 #[.val (.ref a1), .val (.long (0 : Int64)), .second, .unset, .unset] [(.int (0 : Int32))])) _
      refine XS.istoreN X1.here hx rfl (hb hby d10_14) rfl (l' := #[.val (.ref a1), .val (.long (0 : Int64)), .second, .val (.int (0 : Int32)), .unset]) rfl ?_
      exact kt
    have loop : ∀ (d : Nat) (TL : State) (lcL : List Loc) (ci : Int32) (ac : Int64) (s4 : Slot) (kc : Nat), Stand p l e ({ frames := 4, cells := 1, slots := 2, locals := 53 } : Room) s m #[(.ref a1)] below meth c TL lcL 0 0 → Fr n0 lcL → TL.heap = h0 → One s4 → ci.toInt = (kc : Int) → kc + d = n → ∃ (T' : State) (lc' : List Loc) (ci' : Int32) (ac' : Int64) (s4' : Slot), Stand p l e ({ frames := 4, cells := 1, slots := 2, locals := 53 } : Room) s m #[(.ref a1)] below meth c T' lc' 0 0 ∧ Fr n0 lc' ∧ T'.heap = h0 ∧ ((own_scan fc d kc ac = (0, 0) ∧ ∀ t, Steps p.tables e below (T'.setTop (mkF m 45 #[.val (.ref a1), .val (.long ac'), .second, .val (.int ci'), s4'] [])) t → Steps p.tables e below (TL.setTop (mkF m 15 #[.val (.ref a1), .val (.long ac), .second, .val (.int ci), s4] [])) t) ∨ (own_scan fc d kc ac = (1, ac') ∧ ∀ t, Steps p.tables e below (T'.setTop (mkF m 87 #[.val (.ref a1), .val (.long ac'), .second, .val (.int ci'), s4'] [])) t → Steps p.tables e below (TL.setTop (mkF m 15 #[.val (.ref a1), .val (.long ac), .second, .val (.int ci), s4] [])) t)) := by
      intro d
      induction d with
      | zero =>
        intro TL lcL ci ac s4 kc XL NL eL h4 hci hkd
        have pre5 : ∀ t, Steps p.tables e below (TL.setTop (mkF m 15 #[.val (.ref a1), .val (.long ac), .second, .val (.int ci), s4] [])) t → Steps p.tables e below (TL.setTop (mkF m 15 #[.val (.ref a1), .val (.long ac), .second, .val (.int ci), s4] [])) t := fun _ k => k
        obtain ⟨cq6, kq6, q6a, q6b, q6c⟩ := isOf hZ eL E_a1
        obtain ⟨_, _, ⟨T6, L6, k6, n6⟩, -, X6, ⟨Lc6, hQ6, l6, y6, z6⟩, st6⟩ := XL.virtualBack hx (y := (⟨"java/lang/String", "length", "()I"⟩ : MethodName)) (z := (⟨"java/lang/String", "length", "()I"⟩ : MethodName)) hown (mvT hZ (hw _ (List.mem_of_getElem? (i := 69) rfl))) (mvT hZ (hw _ (List.mem_of_getElem? (i := 70) rfl))) (notFace_of_selects (args := #[]) (mvT hZ (hw _ (List.mem_of_getElem? (i := 72) rfl)))) (mvT hZ (hw _ (List.mem_of_getElem? (i := 72) rfl))) (mvT hZ (hw _ (List.mem_of_getElem? (i := 71) rfl))) (by decide) (backOf (W := 1) (rm12 l Z a0 hw [] a1 b zn n fc cs fmv h0 n0 Z0 E_a1 Fv Fc A_b hz hfc O_x hst) hZ (hw _ (List.mem_of_getElem? (i := 73) rfl)) (hw _ (List.mem_of_getElem? (i := 33) rfl)) (by decide) (by decide)) q6a q6c (g := (mkF m 17 #[.val (.ref a1), .val (.long ac), .second, .val (.int ci), s4] [(.ref a1), (.int ci)])) rfl (by rw [hml]; rfl) (Steps.refl _) (argsL := []) (rest := [(.int ci)]) (lenOf pd_11 rfl) rfl (by show 2 * 0 + _ ≤ _; exact Nat.le_of_eq rfl) (hb hby d10_17) (fun _ _ => ⟨rfl, eL, (by decide : 0 + 0 ≤ _), (by decide : 0 + 0 ≤ _)⟩)
        dsimp only [Pt.U, Pt.locs, Pt.cells, Pt.slots] at X6 l6 y6 z6 st6 hQ6
        subst l6 y6 z6
        obtain ⟨rfl, N6q, hE6⟩ := hQ6
        have N6 := Fr.app NL N6q
        have pre7 : ∀ t, Steps p.tables e below (T6.setTop (mkF m 87 #[.val (.ref a1), .val (.long ac), .second, .val (.int ci), s4] [])) t → Steps p.tables e below (TL.setTop (mkF m 15 #[.val (.ref a1), .val (.long ac), .second, .val (.int ci), s4] [])) t := by
          intro t kt
          refine pre5 _ ?_
          show Steps p.tables e below (TL.setTop (mkF m 15 #[.val (.ref a1), .val (.long ac), .second, .val (.int ci), s4] [])) _
          refine XS.iloadN XL.here hx rfl (hb hby d10_15) rfl ?_
          show Steps p.tables e below (TL.setTop (mkF m 16 #[.val (.ref a1), .val (.long ac), .second, .val (.int ci), s4] [(.int ci)])) _
          refine XS.aloadN XL.here hx rfl (hb hby d10_16) rfl rfl ?_
          show Steps p.tables e below (TL.setTop (mkF m 17 #[.val (.ref a1), .val (.long ac), .second, .val (.int ci), s4] [(.ref a1), (.int ci)])) _
          refine st6.trans ?_
          show Steps p.tables e below (T6.setTop (mkF m 20 #[.val (.ref a1), .val (.long ac), .second, .val (.int ci), s4] [(.int zn), (.int ci)])) _
          refine XS.icmpYes X6.here hx rfl (pc0 := 20) (pc' := 87) rfl (hb hby d10_20) rfl (XT.ii_ge_t (own_nltn hci hz (by omega))) (by decide) (by decide) ?_
          exact kt
        exact ⟨T6, _, ci, ac, s4, X6, N6, hE6, Or.inr ⟨rfl, fun t kt => pre7 _ kt⟩⟩
      | succ d ih =>
        intro TL lcL ci ac s4 kc XL NL eL h4 hci hkd
        have pre8 : ∀ t, Steps p.tables e below (TL.setTop (mkF m 15 #[.val (.ref a1), .val (.long ac), .second, .val (.int ci), s4] [])) t → Steps p.tables e below (TL.setTop (mkF m 15 #[.val (.ref a1), .val (.long ac), .second, .val (.int ci), s4] [])) t := fun _ k => k
        obtain ⟨cq9, kq9, q9a, q9b, q9c⟩ := isOf hZ eL E_a1
        obtain ⟨_, _, ⟨T9, L9, k9, n9⟩, -, X9, ⟨Lc9, hQ9, l9, y9, z9⟩, st9⟩ := XL.virtualBack hx (y := (⟨"java/lang/String", "length", "()I"⟩ : MethodName)) (z := (⟨"java/lang/String", "length", "()I"⟩ : MethodName)) hown (mvT hZ (hw _ (List.mem_of_getElem? (i := 69) rfl))) (mvT hZ (hw _ (List.mem_of_getElem? (i := 70) rfl))) (notFace_of_selects (args := #[]) (mvT hZ (hw _ (List.mem_of_getElem? (i := 72) rfl)))) (mvT hZ (hw _ (List.mem_of_getElem? (i := 72) rfl))) (mvT hZ (hw _ (List.mem_of_getElem? (i := 71) rfl))) (by decide) (backOf (W := 1) (rm12 l Z a0 hw [] a1 b zn n fc cs fmv h0 n0 Z0 E_a1 Fv Fc A_b hz hfc O_x hst) hZ (hw _ (List.mem_of_getElem? (i := 73) rfl)) (hw _ (List.mem_of_getElem? (i := 33) rfl)) (by decide) (by decide)) q9a q9c (g := (mkF m 17 #[.val (.ref a1), .val (.long ac), .second, .val (.int ci), s4] [(.ref a1), (.int ci)])) rfl (by rw [hml]; rfl) (Steps.refl _) (argsL := []) (rest := [(.int ci)]) (lenOf pd_11 rfl) rfl (by show 2 * 0 + _ ≤ _; exact Nat.le_of_eq rfl) (hb hby d10_17) (fun _ _ => ⟨rfl, eL, (by decide : 0 + 0 ≤ _), (by decide : 0 + 0 ≤ _)⟩)
        dsimp only [Pt.U, Pt.locs, Pt.cells, Pt.slots] at X9 l9 y9 z9 st9 hQ9
        subst l9 y9 z9
        obtain ⟨rfl, N9q, hE9⟩ := hQ9
        have N9 := Fr.app NL N9q
        obtain ⟨cq10, kq10, q10a, q10b, q10c⟩ := isOf hZ hE9 E_a1
        obtain ⟨_, _, ⟨T10, L10, k10, n10⟩, -, X10, ⟨Lc10, hQ10, l10, y10, z10⟩, st10⟩ := X9.virtualBack hx (y := (⟨"java/lang/String", "charAt", "(I)C"⟩ : MethodName)) (z := (⟨"java/lang/String", "charAt", "(I)C"⟩ : MethodName)) hown (mvT hZ (hw _ (List.mem_of_getElem? (i := 79) rfl))) (mvT hZ (hw _ (List.mem_of_getElem? (i := 80) rfl))) (notFace_of_selects (args := #[]) (mvT hZ (hw _ (List.mem_of_getElem? (i := 82) rfl)))) (mvT hZ (hw _ (List.mem_of_getElem? (i := 82) rfl))) (mvT hZ (hw _ (List.mem_of_getElem? (i := 81) rfl))) (by decide) (backOf (W := 0) (rm14 l Z a0 hw [] a1 ci b zn n fc cs fmv kc h0 n0 Z0 E_a1 Fv Fc A_b hz hfc O_x hst hci (by omega)) hZ (hw _ (List.mem_of_getElem? (i := 83) rfl)) (hw _ (List.mem_of_getElem? (i := 33) rfl)) (by decide) (by decide)) q10a q10c (g := (mkF m 25 #[.val (.ref a1), .val (.long ac), .second, .val (.int ci), s4] [(.int ci), (.ref a1)])) rfl (by rw [hml]; rfl) (Steps.refl _) (argsL := [(.int ci)]) (rest := []) (lenOf pd_12 rfl) rfl (by show 2 * 0 + _ ≤ _; exact Nat.le_of_eq rfl) (hb hby d10_25) (fun _ _ => ⟨rfl, hE9, (by decide : 0 + 0 ≤ _), (by decide : 0 + 0 ≤ _)⟩)
        dsimp only [Pt.U, Pt.locs, Pt.cells, Pt.slots] at X10 l10 y10 z10 st10 hQ10
        subst l10 y10 z10
        obtain ⟨rfl, N10q, hE10⟩ := hQ10
        have N10 := Fr.app N9 N10q
        have pre11 : ∀ t, Steps p.tables e below (T10.setTop (mkF m 35 #[.val (.ref a1), .val (.long ac), .second, .val (.int ci), .val (.int ((fc kc) - (48 : Int32)))] [(.int ((fc kc) - (48 : Int32)))])) t → Steps p.tables e below (TL.setTop (mkF m 15 #[.val (.ref a1), .val (.long ac), .second, .val (.int ci), s4] [])) t := by
          intro t kt
          refine pre8 _ ?_
          show Steps p.tables e below (TL.setTop (mkF m 15 #[.val (.ref a1), .val (.long ac), .second, .val (.int ci), s4] [])) _
          refine XS.iloadN XL.here hx rfl (hb hby d10_15) rfl ?_
          show Steps p.tables e below (TL.setTop (mkF m 16 #[.val (.ref a1), .val (.long ac), .second, .val (.int ci), s4] [(.int ci)])) _
          refine XS.aloadN XL.here hx rfl (hb hby d10_16) rfl rfl ?_
          show Steps p.tables e below (TL.setTop (mkF m 17 #[.val (.ref a1), .val (.long ac), .second, .val (.int ci), s4] [(.ref a1), (.int ci)])) _
          refine st9.trans ?_
          show Steps p.tables e below (T9.setTop (mkF m 20 #[.val (.ref a1), .val (.long ac), .second, .val (.int ci), s4] [(.int zn), (.int ci)])) _
          refine XS.icmpNo X9.here hx rfl (hb hby d10_20) rfl (XT.ii_ge_f (own_ltn hci hz (by omega))) ?_
          show Steps p.tables e below (T9.setTop (mkF m 23 #[.val (.ref a1), .val (.long ac), .second, .val (.int ci), s4] [])) _
          refine XS.aloadN X9.here hx rfl (hb hby d10_23) rfl rfl ?_
          show Steps p.tables e below (T9.setTop (mkF m 24 #[.val (.ref a1), .val (.long ac), .second, .val (.int ci), s4] [(.ref a1)])) _
          refine XS.iloadN X9.here hx rfl (hb hby d10_24) rfl ?_
          show Steps p.tables e below (T9.setTop (mkF m 25 #[.val (.ref a1), .val (.long ac), .second, .val (.int ci), s4] [(.int ci), (.ref a1)])) _
          refine st10.trans ?_
          show Steps p.tables e below (T10.setTop (mkF m 28 #[.val (.ref a1), .val (.long ac), .second, .val (.int ci), s4] [(.int (fc kc))])) _
          refine XS.bipush X10.here hx rfl (hb hby d10_28) ?_
          show Steps p.tables e below (T10.setTop (mkF m 30 #[.val (.ref a1), .val (.long ac), .second, .val (.int ci), s4] [(.int (48 : Int32)), (.int (fc kc))])) _
          refine XS.isub X10.here hx rfl (hb hby d10_30) rfl ?_
          show Steps p.tables e below (T10.setTop (mkF m 31 #[.val (.ref a1), .val (.long ac), .second, .val (.int ci), s4] [(.int ((fc kc) - (48 : Int32)))])) _
          refine XS.istoreS X10.here hx rfl (hb hby d10_31) rfl  rfl h4 ?_
          show Steps p.tables e below (T10.setTop (mkF m 33 #[.val (.ref a1), .val (.long ac), .second, .val (.int ci), .val (.int ((fc kc) - (48 : Int32)))] [])) _
          refine XS.iload X10.here hx rfl (hb hby d10_33) rfl ?_
          exact kt
        by_cases hc35_12 : ((fc kc) - (48 : Int32)) < (0 : Int32)
        · skip
          have pre13 : ∀ t, Steps p.tables e below (T10.setTop (mkF m 45 #[.val (.ref a1), .val (.long ac), .second, .val (.int ci), .val (.int ((fc kc) - (48 : Int32)))] [])) t → Steps p.tables e below (TL.setTop (mkF m 15 #[.val (.ref a1), .val (.long ac), .second, .val (.int ci), s4] [])) t := by
            intro t kt
            refine pre11 _ ?_
            show Steps p.tables e below (T10.setTop (mkF m 35 #[.val (.ref a1), .val (.long ac), .second, .val (.int ci), .val (.int ((fc kc) - (48 : Int32)))] [(.int ((fc kc) - (48 : Int32)))])) _
            refine XS.ifYes X10.here hx rfl (pc0 := 35) (pc' := 45) rfl (hb hby d10_35) rfl (XT.i0_lt_t hc35_12) (by decide) (by decide) ?_
            exact kt
          exact ⟨T10, _, ci, ac, .val (.int ((fc kc) - (48 : Int32))), X10, N10, hE10, Or.inl ⟨own_scn hc35_12, fun t kt => pre13 _ kt⟩⟩
        · skip
          have pre14 : ∀ t, Steps p.tables e below (T10.setTop (mkF m 42 #[.val (.ref a1), .val (.long ac), .second, .val (.int ci), .val (.int ((fc kc) - (48 : Int32)))] [(.int (9 : Int32)), (.int ((fc kc) - (48 : Int32)))])) t → Steps p.tables e below (TL.setTop (mkF m 15 #[.val (.ref a1), .val (.long ac), .second, .val (.int ci), s4] [])) t := by
            intro t kt
            refine pre11 _ ?_
            show Steps p.tables e below (T10.setTop (mkF m 35 #[.val (.ref a1), .val (.long ac), .second, .val (.int ci), .val (.int ((fc kc) - (48 : Int32)))] [(.int ((fc kc) - (48 : Int32)))])) _
            refine XS.ifNo X10.here hx rfl (hb hby d10_35) rfl (XT.i0_lt_f hc35_12) ?_
            show Steps p.tables e below (T10.setTop (mkF m 38 #[.val (.ref a1), .val (.long ac), .second, .val (.int ci), .val (.int ((fc kc) - (48 : Int32)))] [])) _
            refine XS.iload X10.here hx rfl (hb hby d10_38) rfl ?_
            show Steps p.tables e below (T10.setTop (mkF m 40 #[.val (.ref a1), .val (.long ac), .second, .val (.int ci), .val (.int ((fc kc) - (48 : Int32)))] [(.int ((fc kc) - (48 : Int32)))])) _
            refine XS.bipush X10.here hx rfl (hb hby d10_40) ?_
            exact kt
          by_cases hc42_15 : (9 : Int32) < ((fc kc) - (48 : Int32))
          · skip
            have pre16 : ∀ t, Steps p.tables e below (T10.setTop (mkF m 45 #[.val (.ref a1), .val (.long ac), .second, .val (.int ci), .val (.int ((fc kc) - (48 : Int32)))] [])) t → Steps p.tables e below (TL.setTop (mkF m 15 #[.val (.ref a1), .val (.long ac), .second, .val (.int ci), s4] [])) t := by
              intro t kt
              refine pre14 _ ?_
              show Steps p.tables e below (T10.setTop (mkF m 42 #[.val (.ref a1), .val (.long ac), .second, .val (.int ci), .val (.int ((fc kc) - (48 : Int32)))] [(.int (9 : Int32)), (.int ((fc kc) - (48 : Int32)))])) _
              refine XS.icmpNo X10.here hx rfl (hb hby d10_42) rfl (XT.ii_le_f hc42_15) ?_
              exact kt
            exact ⟨T10, _, ci, ac, .val (.int ((fc kc) - (48 : Int32))), X10, N10, hE10, Or.inl ⟨own_sc9 hc35_12 hc42_15, fun t kt => pre16 _ kt⟩⟩
          · skip
            have pre17 : ∀ t, Steps p.tables e below (T10.setTop (mkF m 62 #[.val (.ref a1), .val (.long ac), .second, .val (.int ci), .val (.int ((fc kc) - (48 : Int32)))] [(.int (XT.cmpL ac (((9223372036854775807 : Int64) - (((fc kc) - (48 : Int32)).toInt64)) / (10 : Int64))))])) t → Steps p.tables e below (TL.setTop (mkF m 15 #[.val (.ref a1), .val (.long ac), .second, .val (.int ci), s4] [])) t := by
              intro t kt
              refine pre14 _ ?_
              show Steps p.tables e below (T10.setTop (mkF m 42 #[.val (.ref a1), .val (.long ac), .second, .val (.int ci), .val (.int ((fc kc) - (48 : Int32)))] [(.int (9 : Int32)), (.int ((fc kc) - (48 : Int32)))])) _
              refine XS.icmpYes X10.here hx rfl (pc0 := 42) (pc' := 49) rfl (hb hby d10_42) rfl (XT.ii_le_t hc42_15) (by decide) (by decide) ?_
              show Steps p.tables e below (T10.setTop (mkF m 49 #[.val (.ref a1), .val (.long ac), .second, .val (.int ci), .val (.int ((fc kc) - (48 : Int32)))] [])) _
              refine XS.lloadN X10.here hx rfl (hb hby d10_49) rfl ?_
              show Steps p.tables e below (T10.setTop (mkF m 50 #[.val (.ref a1), .val (.long ac), .second, .val (.int ci), .val (.int ((fc kc) - (48 : Int32)))] [(.long ac)])) _
              refine Stand.ldc2J (g := (mkF m 50 #[.val (.ref a1), .val (.long ac), .second, .val (.int ci), .val (.int ((fc kc) - (48 : Int32)))] [(.long ac)])) X10 hx hown (mvT hZ (hw _ (List.mem_of_getElem? (i := 101) rfl))) rfl (hb hby d10_50) ?_
              show Steps p.tables e below (T10.setTop (mkF m 53 #[.val (.ref a1), .val (.long ac), .second, .val (.int ci), .val (.int ((fc kc) - (48 : Int32)))] [(.long (9223372036854775807 : Int64)), (.long ac)])) _
              refine XS.iload X10.here hx rfl (hb hby d10_53) rfl ?_
              show Steps p.tables e below (T10.setTop (mkF m 55 #[.val (.ref a1), .val (.long ac), .second, .val (.int ci), .val (.int ((fc kc) - (48 : Int32)))] [(.int ((fc kc) - (48 : Int32))), (.long (9223372036854775807 : Int64)), (.long ac)])) _
              refine XS.i2l X10.here hx rfl (hb hby d10_55) rfl ?_
              show Steps p.tables e below (T10.setTop (mkF m 56 #[.val (.ref a1), .val (.long ac), .second, .val (.int ci), .val (.int ((fc kc) - (48 : Int32)))] [(.long (((fc kc) - (48 : Int32)).toInt64)), (.long (9223372036854775807 : Int64)), (.long ac)])) _
              refine XS.lsub X10.here hx rfl (hb hby d10_56) rfl ?_
              show Steps p.tables e below (T10.setTop (mkF m 57 #[.val (.ref a1), .val (.long ac), .second, .val (.int ci), .val (.int ((fc kc) - (48 : Int32)))] [(.long ((9223372036854775807 : Int64) - (((fc kc) - (48 : Int32)).toInt64))), (.long ac)])) _
              refine Stand.ldc2J (g := (mkF m 57 #[.val (.ref a1), .val (.long ac), .second, .val (.int ci), .val (.int ((fc kc) - (48 : Int32)))] [(.long ((9223372036854775807 : Int64) - (((fc kc) - (48 : Int32)).toInt64))), (.long ac)])) X10 hx hown (mvT hZ (hw _ (List.mem_of_getElem? (i := 102) rfl))) rfl (hb hby d10_57) ?_
              show Steps p.tables e below (T10.setTop (mkF m 60 #[.val (.ref a1), .val (.long ac), .second, .val (.int ci), .val (.int ((fc kc) - (48 : Int32)))] [(.long (10 : Int64)), (.long ((9223372036854775807 : Int64) - (((fc kc) - (48 : Int32)).toInt64))), (.long ac)])) _
              refine XS.ldiv X10.here hx rfl (hb hby d10_60) rfl (by decide) ?_
              show Steps p.tables e below (T10.setTop (mkF m 61 #[.val (.ref a1), .val (.long ac), .second, .val (.int ci), .val (.int ((fc kc) - (48 : Int32)))] [(.long (((9223372036854775807 : Int64) - (((fc kc) - (48 : Int32)).toInt64)) / (10 : Int64))), (.long ac)])) _
              refine XT.lcmp X10.here hx rfl (hb hby d10_61) rfl ?_
              exact kt
            obtain ⟨nv, h_nv⟩ : ∃ z : Int64, z = (if (((9223372036854775807 : Int64) - (((fc kc) - (48 : Int32)).toInt64)) / (10 : Int64)) < ac then (9223372036854775807 : Int64) else ((ac * (10 : Int64)) + (((fc kc) - (48 : Int32)).toInt64))) := ⟨_, rfl⟩
            have pre19 : ∀ t, Steps p.tables e below (T10.setTop (mkF m 80 #[.val (.ref a1), .val (.long ac), .second, .val (.int ci), .val (.int ((fc kc) - (48 : Int32)))] [(.long nv)])) t → Steps p.tables e below (TL.setTop (mkF m 15 #[.val (.ref a1), .val (.long ac), .second, .val (.int ci), s4] [])) t := by
              intro t kt
              refine pre17 _ ?_
              by_cases hc62_18 : (((9223372036854775807 : Int64) - (((fc kc) - (48 : Int32)).toInt64)) / (10 : Int64)) < ac
              · skip
                have q_nv : nv = (9223372036854775807 : Int64) := by rw [h_nv, if_pos hc62_18]
                rw [q_nv] at kt
                show Steps p.tables e below (T10.setTop (mkF m 62 #[.val (.ref a1), .val (.long ac), .second, .val (.int ci), .val (.int ((fc kc) - (48 : Int32)))] [(.int (XT.cmpL ac (((9223372036854775807 : Int64) - (((fc kc) - (48 : Int32)).toInt64)) / (10 : Int64))))])) _
                refine XS.ifNo X10.here hx rfl (hb hby d10_62) rfl (XT.ll_le_f hc62_18) ?_
                show Steps p.tables e below (T10.setTop (mkF m 65 #[.val (.ref a1), .val (.long ac), .second, .val (.int ci), .val (.int ((fc kc) - (48 : Int32)))] [])) _
                refine Stand.ldc2J (g := (mkF m 65 #[.val (.ref a1), .val (.long ac), .second, .val (.int ci), .val (.int ((fc kc) - (48 : Int32)))] [])) X10 hx hown (mvT hZ (hw _ (List.mem_of_getElem? (i := 101) rfl))) rfl (hb hby d10_65) ?_
                show Steps p.tables e below (T10.setTop (mkF m 68 #[.val (.ref a1), .val (.long ac), .second, .val (.int ci), .val (.int ((fc kc) - (48 : Int32)))] [(.long (9223372036854775807 : Int64))])) _
                refine XS.goto X10.here hx rfl (pc0 := 68) (pc' := 80) rfl (hb hby d10_68) (by decide) (by decide) ?_
                exact kt
              · skip
                have q_nv : nv = ((ac * (10 : Int64)) + (((fc kc) - (48 : Int32)).toInt64)) := by rw [h_nv, if_neg hc62_18]
                rw [q_nv] at kt
                show Steps p.tables e below (T10.setTop (mkF m 62 #[.val (.ref a1), .val (.long ac), .second, .val (.int ci), .val (.int ((fc kc) - (48 : Int32)))] [(.int (XT.cmpL ac (((9223372036854775807 : Int64) - (((fc kc) - (48 : Int32)).toInt64)) / (10 : Int64))))])) _
                refine XS.ifYes X10.here hx rfl (pc0 := 62) (pc' := 71) rfl (hb hby d10_62) rfl (XT.ll_le_t hc62_18) (by decide) (by decide) ?_
                show Steps p.tables e below (T10.setTop (mkF m 71 #[.val (.ref a1), .val (.long ac), .second, .val (.int ci), .val (.int ((fc kc) - (48 : Int32)))] [])) _
                refine XS.lloadN X10.here hx rfl (hb hby d10_71) rfl ?_
                show Steps p.tables e below (T10.setTop (mkF m 72 #[.val (.ref a1), .val (.long ac), .second, .val (.int ci), .val (.int ((fc kc) - (48 : Int32)))] [(.long ac)])) _
                refine Stand.ldc2J (g := (mkF m 72 #[.val (.ref a1), .val (.long ac), .second, .val (.int ci), .val (.int ((fc kc) - (48 : Int32)))] [(.long ac)])) X10 hx hown (mvT hZ (hw _ (List.mem_of_getElem? (i := 102) rfl))) rfl (hb hby d10_72) ?_
                show Steps p.tables e below (T10.setTop (mkF m 75 #[.val (.ref a1), .val (.long ac), .second, .val (.int ci), .val (.int ((fc kc) - (48 : Int32)))] [(.long (10 : Int64)), (.long ac)])) _
                refine XS.lmul X10.here hx rfl (hb hby d10_75) rfl ?_
                show Steps p.tables e below (T10.setTop (mkF m 76 #[.val (.ref a1), .val (.long ac), .second, .val (.int ci), .val (.int ((fc kc) - (48 : Int32)))] [(.long (ac * (10 : Int64)))])) _
                refine XS.iload X10.here hx rfl (hb hby d10_76) rfl ?_
                show Steps p.tables e below (T10.setTop (mkF m 78 #[.val (.ref a1), .val (.long ac), .second, .val (.int ci), .val (.int ((fc kc) - (48 : Int32)))] [(.int ((fc kc) - (48 : Int32))), (.long (ac * (10 : Int64)))])) _
                refine XS.i2l X10.here hx rfl (hb hby d10_78) rfl ?_
                show Steps p.tables e below (T10.setTop (mkF m 79 #[.val (.ref a1), .val (.long ac), .second, .val (.int ci), .val (.int ((fc kc) - (48 : Int32)))] [(.long (((fc kc) - (48 : Int32)).toInt64)), (.long (ac * (10 : Int64)))])) _
                refine XS.ladd X10.here hx rfl (hb hby d10_79) rfl ?_
                exact kt
            have pre20 : ∀ t, Steps p.tables e below (T10.setTop (mkF m 15 #[.val (.ref a1), .val (.long nv), .second, .val (.int (ci + (1 : Int32))), .val (.int ((fc kc) - (48 : Int32)))] [])) t → Steps p.tables e below (TL.setTop (mkF m 15 #[.val (.ref a1), .val (.long ac), .second, .val (.int ci), s4] [])) t := by
              intro t kt
              refine pre19 _ ?_
              show Steps p.tables e below (T10.setTop (mkF m 80 #[.val (.ref a1), .val (.long ac), .second, .val (.int ci), .val (.int ((fc kc) - (48 : Int32)))] [(.long nv)])) _
              refine XS.lstoreN X10.here hx rfl (hb hby d10_80) rfl (l' := #[.val (.ref a1), .val (.long nv), .second, .val (.int ci), .val (.int ((fc kc) - (48 : Int32)))]) rfl ?_
              show Steps p.tables e below (T10.setTop (mkF m 81 #[.val (.ref a1), .val (.long nv), .second, .val (.int ci), .val (.int ((fc kc) - (48 : Int32)))] [])) _
              refine XS.iinc X10.here hx rfl (hb hby d10_81) rfl (l' := #[.val (.ref a1), .val (.long nv), .second, .val (.int (ci + (1 : Int32))), .val (.int ((fc kc) - (48 : Int32)))]) rfl ?_
              show Steps p.tables e below (T10.setTop (mkF m 84 #[.val (.ref a1), .val (.long nv), .second, .val (.int (ci + (1 : Int32))), .val (.int ((fc kc) - (48 : Int32)))] [])) _
              refine XS.goto X10.here hx rfl (pc0 := 84) (pc' := 15) rfl (hb hby d10_84) (by decide) (by decide) ?_
              exact kt
            obtain ⟨T', lc', ci', ac', s4', X', N', e', hor⟩ := ih T10 _ (ci + (1 : Int32)) nv (.val (.int ((fc kc) - (48 : Int32)))) (kc + 1) X10 N10 hE10 (One.val rfl) (own_up hci (by have := hfc.1; omega)) (by omega)
            rcases hor with ⟨hr, stL⟩ | ⟨hr, stL⟩
            · exact ⟨T', lc', ci', ac', s4', X', N', e', Or.inl ⟨own_scs hc35_12 hc42_15 h_nv hr, fun t kt => pre20 _ (stL t kt)⟩⟩
            · exact ⟨T', lc', ci', ac', s4', X', N', e', Or.inr ⟨own_scs hc35_12 hc42_15 h_nv hr, fun t kt => pre20 _ (stL t kt)⟩⟩
    obtain ⟨TF, lcF, ciF, acF, s4F, XF, NF', eF, hor⟩ := loop n T1 _ (0 : Int32) (0 : Int64) .unset 0 X1 N1 hE1 One.u rfl (by omega)
    have hn0 : ¬ n = 0 := own_hn0 hz hc4_3
    rcases hor with ⟨hsc, stF⟩ | ⟨hsc, stF⟩
    · skip
      have pre21 : ∀ t, Steps p.tables e below (TF.setTop (mkF m 45 #[.val (.ref a1), .val (.long acF), .second, .val (.int ciF), s4F] [])) t → Steps p.tables e below (s₁.setTop (entryFrame m #[(.ref a1)] 5)) t := fun t kt => pre4 _ (stF t kt)
      obtain ⟨_, _, ⟨T22, L22, k22, n22⟩, -, X22, ⟨Lc22, hQ22, l22, y22, z22⟩, st22⟩ := Jvm.LawKit.callS XF hx (y := (⟨"java/util/OptionalLong", "empty", "()Ljava/util/OptionalLong;"⟩ : MethodName)) hown (mvT hZ (hw _ (List.mem_of_getElem? (i := 131) rfl))) (mvT hZ (hw _ (List.mem_of_getElem? (i := 132) rfl))) (mvT hZ (hw _ (List.mem_of_getElem? (i := 105) rfl))) (mvT hZ (hw _ (List.mem_of_getElem? (i := 133) rfl))) (by decide) (backOf (W := 0) (rm24 l Z a0 hw [] em h0 n0 Z0 (hem.1.ext O_x.2)) hZ (hw _ (List.mem_of_getElem? (i := 133) rfl)) (hw _ (List.mem_of_getElem? (i := 105) rfl)) (by decide) (by decide)) (g := (mkF m 45 #[.val (.ref a1), .val (.long acF), .second, .val (.int ciF), s4F] [])) rfl (by rw [hml]; rfl) (argsL := []) (rest := []) (lenOf pd_13 rfl) rfl (by show 2 * 0 + _ ≤ _; exact Nat.le_of_eq rfl) (hb hby d10_45) (fun _ _ => ⟨rfl, eF, (by decide : 0 + 0 ≤ _), (by decide : 0 + 0 ≤ _)⟩)
      dsimp only [Pt.U, Pt.locs, Pt.cells, Pt.slots] at X22 l22 y22 z22 st22 hQ22
      subst l22 y22 z22
      obtain ⟨rfl, N22q, hE22⟩ := hQ22
      have N22 := Fr.app NF' N22q
      have pre23 : ∀ t, Steps p.tables e below (T22.setTop (mkF m 48 #[.val (.ref a1), .val (.long acF), .second, .val (.int ciF), s4F] [(.ref em)])) t → Steps p.tables e below (s₁.setTop (entryFrame m #[(.ref a1)] 5)) t := by
        intro t kt
        refine pre21 _ ?_
        show Steps p.tables e below (TF.setTop (mkF m 45 #[.val (.ref a1), .val (.long acF), .second, .val (.int ciF), s4F] [])) _
        refine st22 _ ?_
        exact kt
      obtain ⟨fs, hr, hrun, hended, hW, hsame⟩ := X22.leave (v := some (.ref em)) (fun h => by rw [Bd.returns] at h; cases h)
      refine ⟨_, _, pre23 _ ?_, hrun, hended, _, _, rfl, ?_, ⟨_, rfl⟩, hW, hsame.mono (by decide) (by decide)⟩
      · show Steps p.tables e below (T22.setTop (mkF m 48 #[.val (.ref a1), .val (.long acF), .second, .val (.int ciF), s4F] [(.ref em)])) _
        exact X22.areturnOut hx rfl Bd.returns rfl (hb hby d10_48) hr
      · show Q10 Z a1 b zn n fc cs fmv em h0 n0 _ T22.heap _
        rw [hE22]
        exact ⟨em, rfl, N22, (Keep.refl h0 []), (hem.2.1.ext O_x.2), (by rw [(own_res1 hn0 hsc)]; exact hem.2.2.1.ext O_x.2), (by rw [(own_res1 hn0 hsc)]; exact hem.2.2.2.ext O_x.2)⟩
    · skip
      have pre24 : ∀ t, Steps p.tables e below (TF.setTop (mkF m 87 #[.val (.ref a1), .val (.long acF), .second, .val (.int ciF), s4F] [])) t → Steps p.tables e below (s₁.setTop (entryFrame m #[(.ref a1)] 5)) t := fun t kt => pre4 _ (stF t kt)
      obtain ⟨_, _, ⟨T25, L25, k25, n25⟩, -, X25, ⟨Lc25, hQ25, l25, y25, z25⟩, st25⟩ := Jvm.LawKit.callS XF hx (y := (⟨"java/util/OptionalLong", "of", "(J)Ljava/util/OptionalLong;"⟩ : MethodName)) hown (mvT hZ (hw _ (List.mem_of_getElem? (i := 103) rfl))) (mvT hZ (hw _ (List.mem_of_getElem? (i := 104) rfl))) (mvT hZ (hw _ (List.mem_of_getElem? (i := 105) rfl))) (mvT hZ (hw _ (List.mem_of_getElem? (i := 106) rfl))) (by decide) (backOf (W := 0) (rm19 l Z a0 hw [] acF h0 n0 Z0) hZ (hw _ (List.mem_of_getElem? (i := 106) rfl)) (hw _ (List.mem_of_getElem? (i := 105) rfl)) (by decide) (by decide)) (g := (mkF m 88 #[.val (.ref a1), .val (.long acF), .second, .val (.int ciF), s4F] [(.long acF)])) rfl (by rw [hml]; rfl) (argsL := [(.long acF)]) (rest := []) (lenOf pd_14 rfl) rfl (by show 2 * 0 + _ ≤ _; exact Nat.le_of_eq rfl) (hb hby d10_88) (fun _ _ => ⟨rfl, eF, (by decide : 0 + 1 ≤ _), (by decide : 0 + 2 ≤ _)⟩)
      dsimp only [Pt.U, Pt.locs, Pt.cells, Pt.slots] at X25 l25 y25 z25 st25 hQ25
      subst l25 y25 z25
      obtain ⟨ol, rfl, N25q, K25, p25_E, p25_i, p25_v⟩ := hQ25
      have N25 := Fr.app NF' N25q
      have f26 := E_a1.keep K25
      have f27 := Fv.keep K25 nin0
      have f28 := Fc.keep K25 nin0
      have f29 := A_b.keep K25 nin0
      have f30 := O_x.keep K25 all0
      have Z31 := Nat.le_trans Z0 K25.1
      have K32 := (Keep.refl h0 []).trans K25 all0
      have pre33 : ∀ t, Steps p.tables e below (T25.setTop (mkF m 91 #[.val (.ref a1), .val (.long acF), .second, .val (.int ciF), s4F] [(.ref ol)])) t → Steps p.tables e below (s₁.setTop (entryFrame m #[(.ref a1)] 5)) t := by
        intro t kt
        refine pre24 _ ?_
        show Steps p.tables e below (TF.setTop (mkF m 87 #[.val (.ref a1), .val (.long acF), .second, .val (.int ciF), s4F] [])) _
        refine XS.lloadN XF.here hx rfl (hb hby d10_87) rfl ?_
        show Steps p.tables e below (TF.setTop (mkF m 88 #[.val (.ref a1), .val (.long acF), .second, .val (.int ciF), s4F] [(.long acF)])) _
        refine st25 _ ?_
        exact kt
      obtain ⟨fs, hr, hrun, hended, hW, hsame⟩ := X25.leave (v := some (.ref ol)) (fun h => by rw [Bd.returns] at h; cases h)
      refine ⟨_, _, pre33 _ ?_, hrun, hended, _, _, rfl, ?_, ⟨_, rfl⟩, hW, hsame.mono (by decide) (by decide)⟩
      · show Steps p.tables e below (T25.setTop (mkF m 91 #[.val (.ref a1), .val (.long acF), .second, .val (.int ciF), s4F] [(.ref ol)])) _
        exact X25.areturnOut hx rfl Bd.returns rfl (hb hby d10_91) hr
      · show Q10 Z a1 b zn n fc cs fmv em h0 n0 _ T25.heap _
        exact ⟨ol, rfl, N25, K32, p25_E, (by rw [(own_res1 hn0 hsc)]; exact p25_i), (by rw [(own_res1 hn0 hsc)]; exact p25_v)⟩
  · skip
    obtain ⟨_, _, ⟨T34, L34, k34, n34⟩, -, X34, ⟨Lc34, hQ34, l34, y34, z34⟩, st34⟩ := Jvm.LawKit.callS X1 hx (y := (⟨"java/util/OptionalLong", "empty", "()Ljava/util/OptionalLong;"⟩ : MethodName)) hown (mvT hZ (hw _ (List.mem_of_getElem? (i := 131) rfl))) (mvT hZ (hw _ (List.mem_of_getElem? (i := 132) rfl))) (mvT hZ (hw _ (List.mem_of_getElem? (i := 105) rfl))) (mvT hZ (hw _ (List.mem_of_getElem? (i := 133) rfl))) (by decide) (backOf (W := 0) (rm24 l Z a0 hw [] em h0 n0 Z0 (hem.1.ext O_x.2)) hZ (hw _ (List.mem_of_getElem? (i := 133) rfl)) (hw _ (List.mem_of_getElem? (i := 105) rfl)) (by decide) (by decide)) (g := (mkF m 7 #[.val (.ref a1), .unset, .unset, .unset, .unset] [])) rfl (by rw [hml]; rfl) (argsL := []) (rest := []) (lenOf pd_13 rfl) rfl (by show 2 * 0 + _ ≤ _; exact Nat.le_of_eq rfl) (hb hby d10_7) (fun _ _ => ⟨rfl, hE1, (by decide : 0 + 0 ≤ _), (by decide : 0 + 0 ≤ _)⟩)
    dsimp only [Pt.U, Pt.locs, Pt.cells, Pt.slots] at X34 l34 y34 z34 st34 hQ34
    subst l34 y34 z34
    obtain ⟨rfl, N34q, hE34⟩ := hQ34
    have N34 := Fr.app N1 N34q
    have pre35 : ∀ t, Steps p.tables e below (T34.setTop (mkF m 10 #[.val (.ref a1), .unset, .unset, .unset, .unset] [(.ref em)])) t → Steps p.tables e below (s₁.setTop (entryFrame m #[(.ref a1)] 5)) t := by
      intro t kt
      refine pre2 _ ?_
      show Steps p.tables e below (T1.setTop (mkF m 4 #[.val (.ref a1), .unset, .unset, .unset, .unset] [(.int (if zn = (0 : Int32) then (1 : Int32) else (0 : Int32)))])) _
      refine XS.ifNo X1.here hx rfl (hb hby d10_4) rfl (XT.i0_eq_f hc4_3) ?_
      show Steps p.tables e below (T1.setTop (mkF m 7 #[.val (.ref a1), .unset, .unset, .unset, .unset] [])) _
      refine st34 _ ?_
      exact kt
    obtain ⟨fs, hr, hrun, hended, hW, hsame⟩ := X34.leave (v := some (.ref em)) (fun h => by rw [Bd.returns] at h; cases h)
    refine ⟨_, _, pre35 _ ?_, hrun, hended, _, _, rfl, ?_, ⟨_, rfl⟩, hW, hsame.mono (by decide) (by decide)⟩
    · show Steps p.tables e below (T34.setTop (mkF m 10 #[.val (.ref a1), .unset, .unset, .unset, .unset] [(.ref em)])) _
      exact X34.areturnOut hx rfl Bd.returns rfl (hb hby d10_10) hr
    · show Q10 Z a1 b zn n fc cs fmv em h0 n0 _ T34.heap _
      rw [hE34]
      exact ⟨em, rfl, N34, (Keep.refl h0 []), (hem.2.1.ext O_x.2), (by rw [(own_res0 (own_hn1 hz hc4_3))]; exact hem.2.2.1.ext O_x.2), (by rw [(own_res0 (own_hn1 hz hc4_3))]; exact hem.2.2.2.ext O_x.2)⟩
theorem own_len (se ln : Int32) (h : ln = ((se &&& (31 : Int32)) % (21 : Int32))) : ∃ nn : Nat, ln.toInt = (nn : Int) ∧ nn ≤ 20 := by
  have h1 := c_and se 31 (by decide)
  have h2 := (c_irem (se &&& 31) 21 21 rfl).1 h1.1
  rw [← h] at h2
  exact ⟨ln.toInt.toNat, by omega, by omega⟩
theorem own_lt {i ln : Int32} {a nn : Nat} (hi : i.toInt = (a : Int)) (hln : ln.toInt = (nn : Int)) : i < ln ↔ a < nn := by rw [Int32.lt_iff_toInt_lt]; omega
theorem own_gt {i ln : Int32} {a nn : Nat} (hi : i.toInt = (a : Int)) (hln : ln.toInt = (nn : Int)) : ln < i ↔ nn < a := by rw [Int32.lt_iff_toInt_lt]; omega
theorem own_ub3 {P : Prop} [Decidable P] {ub ln : Int32} {nn : Nat} (hln : ln.toInt = (nn : Int)) (h_ub : ub = (if P then (0 : Int32) else (if ln < (3 : Int32) then (0 : Int32) else (1 : Int32)))) (h : ¬ ub = (0 : Int32)) : 3 ≤ nn := by
  by_cases q : P
  · rw [if_pos q] at h_ub; exact absurd h_ub h
  · rw [if_neg q] at h_ub
    by_cases q2 : ln < (3 : Int32)
    · rw [if_pos q2] at h_ub; exact absurd h_ub h
    · rw [own_gt (a := 3) rfl hln] at q2; omega
theorem own_sub2 {ln : Int32} {nn : Nat} (hln : ln.toInt = (nn : Int)) (hn : nn ≤ 20) (h : 2 ≤ nn) : (ln - (2 : Int32)).toInt = ((nn - 2 : Nat) : Int) := by
  have h1 := c_isub ln 2
  have h2 := rng32 (ln - 2)
  have l1 : (2 : Int32).toInt = 2 := rfl
  omega
theorem own_sub1 {ln : Int32} {nn : Nat} (hln : ln.toInt = (nn : Int)) (hn : nn ≤ 20) (h : 1 ≤ nn) : (ln - (1 : Int32)).toInt = ((nn - 1 : Nat) : Int) := by
  have h1 := c_isub ln 1
  have h2 := rng32 (ln - 1)
  have l1 : (1 : Int32).toInt = 1 := rfl
  omega
theorem own_nz {ln : Int32} {nn : Nat} (hln : ln.toInt = (nn : Int)) (hn : nn ≤ 20) (h : 3 ≤ nn) : (ln - (2 : Int32)) ≠ 0 := fun q => by
  have h1 := own_sub2 hln hn (by omega)
  rw [q] at h1
  have l1 : (0 : Int32).toInt = 0 := rfl
  omega
theorem own_qq {ub ln qq w : Int32} {nn : Nat} (hln : ln.toInt = (nn : Int)) (hn : nn ≤ 20) (h3 : ¬ ub = (0 : Int32) → 3 ≤ nn) (h_qq : qq = (if ub = (0 : Int32) then (-1 : Int32) else ((1 : Int32) + ((w &&& (1023 : Int32)) % (ln - (2 : Int32)))))) : (ub = (0 : Int32) → qq.toInt = -1) ∧ (¬ ub = (0 : Int32) → 1 ≤ qq.toInt ∧ qq.toInt ≤ (nn : Int) - 2) := by
  refine ⟨fun q => by rw [h_qq, if_pos q]; rfl, fun q => ?_⟩
  rw [if_neg q] at h_qq
  have h1 := c_and w 1023 (by decide)
  have h2 := own_sub2 hln hn (by have := h3 q; omega)
  have h4 := (c_iremV (w &&& 1023) (ln - 2)).1 h1.1 (by have := h3 q; omega)
  have h5 := c_iadd 1 ((w &&& 1023) % (ln - 2))
  rw [← h_qq] at h5
  have l1 : (1 : Int32).toInt = 1 := rfl
  have h6 := rng32 qq
  omega
def own_M (nn : Nat) (mm : Int64) : Prop := 0 ≤ mm.toInt ∧ (2 ≤ nn → mm.toInt < ((10 ^ (nn - 2) : Nat) : Int))
theorem own_M0 {ln : Int32} {nn : Nat} (hln : ln.toInt = (nn : Int)) (h : ln < (2 : Int32)) : own_M nn (0 : Int64) := by
  rw [own_gt (a := 2) rfl hln] at h
  exact ⟨by decide, fun q => by omega⟩
theorem own_s2 {ln : Int32} {nn : Nat} (hln : ln.toInt = (nn : Int)) (hn : nn ≤ 20) (h : ¬ ln < (2 : Int32)) : (ln - (2 : Int32)).toInt = ((nn - 2 : Nat) : Int) := by
  rw [own_gt (a := 2) rfl hln] at h
  exact own_sub2 hln hn (by omega)
theorem own_pp (k : Nat) : 0 < (10 ^ k : Nat) := Nat.pow_pos (by decide)
theorem own_M1 {ln : Int32} {nn : Nat} {va : Int64} (hln : ln.toInt = (nn : Int)) (hn : nn ≤ 20) (h : ¬ ln < (2 : Int32)) : own_M nn ((va &&& (9223372036854775807 : Int64)) - ((va &&& (9223372036854775807 : Int64)) / (own_p10 (nn - 2))) * (own_p10 (nn - 2))) := by
  rw [own_gt (a := 2) rfl hln] at h
  have h1 := c_maskL va 9223372036854775807 63 (by decide) (by decide)
  have h2 := (c_lrem (va &&& 9223372036854775807) (own_p10 (nn - 2)) _ (own_p10v (nn - 2) (by omega))).1 (by rw [h1]; exact Int.emod_nonneg _ (by decide))
  have h3 := own_pp (nn - 2)
  rw [own_M, h2]
  exact ⟨Int.emod_nonneg _ (by omega), fun _ => Int.emod_lt_of_pos _ (by omega)⟩
def own_F (ln ca cb cx qq : Int32) (mm : Int64) (nn i : Nat) : Int32 := (fn3 (Int32.ofNat i) ln ca cb cx qq mm (nn - 2 - i)).toUInt32.toUInt16.toUInt32.toInt32
def own_fill (F : Nat → Int32) (n : Nat) (f : Nat → Int32) (k : Nat) : Prop := ∀ i, i < k → i < n → f i = F i
theorem own_fill0 (F : Nat → Int32) (n : Nat) (f : Nat → Int32) : own_fill F n f 0 := fun i hi => absurd hi (Nat.not_lt_zero _)
theorem own_fillS {F : Nat → Int32} {n k : Nat} {f : Nat → Int32} (h : own_fill F n f k) : own_fill F n (owUp f k (F k)) (k + 1) := fun i hi hn => by
  by_cases q : i = k
  · subst q; rw [owUp_at]
  · rw [owUp_ne q]; exact h i (by omega) hn
theorem own_fillN {F : Nat → Int32} {n k : Nat} {f : Nat → Int32} {ln kz : Int32} (hln : ln.toInt = (n : Int)) (hk : kz.toInt = (k : Int)) (q : ¬ kz < ln) (h : own_fill F n f k) : own_fill F n f (k + 1) := fun i hi hn => by
  rw [own_lt hk hln] at q
  exact h i (by omega) hn
theorem own_kk {ln kz : Int32} {nn k : Nat} (hln : ln.toInt = (nn : Int)) (hn : nn ≤ 20) (hk : kz.toInt = (k : Int)) (q : kz < ln) : ¬ kz = (ln - (1 : Int32)) → ((ln - (2 : Int32)) - kz).toInt = ((nn - 2 - k : Nat) : Int) ∧ nn - 2 - k < 19 := fun h => by
  rw [own_lt hk hln] at q
  have h1 := own_sub1 hln hn (by omega)
  rw [← Int32.toInt_inj, h1, hk] at h
  have h2 := own_sub2 hln hn (by omega)
  have h3 := c_isub (ln - 2) kz
  have h4 := rng32 ((ln - 2) - kz)
  omega
theorem own_dr {r c : Int32} (h : c = (fn1 r)) : 0 ≤ c.toInt ∧ c.toInt < 256 := by
  have h1 := c_iushr r 1 1 (by decide) (by decide)
  have h1' : ((r.toInt % 4294967296) / ((2 ^ 1 : Nat) : Int)) = (r.toInt % 4294967296) / 2 := rfl
  rw [h1'] at h1
  obtain ⟨w, hw⟩ : ∃ w, w = ((r.toUInt32 >>> ((1 : Int32) &&& 31).toUInt32).toInt32) := ⟨_, rfl⟩
  rw [fn1, ← hw] at h
  rw [← hw] at h1
  have e : ∀ v : Int32, 0 ≤ v.toInt ∧ v.toInt < 256 → nar .char (v.toUInt32.toUInt16.toUInt32.toInt32) = v := fun v hv => by
    show (v.toUInt32.toUInt16.toUInt32.toInt32).toUInt32.toUInt16.toUInt32.toInt32 = v
    rw [own_nc (v := v) (by omega), own_nc (v := v) (by omega)]
  by_cases q : (r &&& (1 : Int32)) = (0 : Int32)
  · rw [if_pos q] at h
    have h2 := (c_irem w 10 10 rfl).1 (by omega)
    have h3 := c_iadd 48 (w % 10)
    have h4 := rng32 (48 + w % 10)
    have l1 : (48 : Int32).toInt = 48 := rfl
    rw [e _ (by omega)] at h
    rw [h]; omega
  · rw [if_neg q] at h
    have h2 := c_and w 255 (by decide)
    have l1 : (255 : Int32).toInt = 255 := rfl
    rw [e _ (by omega)] at h
    rw [h]; omega
/-- the sign at i, as a number -/
def own_dg (n : Nat) (ca cb cx qq M : Int) (i : Nat) : Int := if i + 1 = n then cx else if i = 0 then ca else if (i : Int) = qq then cb else 48 + M / ((10 ^ (n - 2 - i) : Nat) : Int) % 10
theorem own_Fv {ln ca cb cx qq : Int32} {mm : Int64} {nn : Nat} (hln : ln.toInt = (nn : Int)) (hn : nn ≤ 20) (hM : own_M nn mm) (ha : 0 ≤ ca.toInt ∧ ca.toInt < 256) (hbb : 0 ≤ cb.toInt ∧ cb.toInt < 256) (hx : 0 ≤ cx.toInt ∧ cx.toInt < 256) {i : Nat} (hi : i < nn) : (own_F ln ca cb cx qq mm nn i).toInt = own_dg nn ca.toInt cb.toInt cx.toInt qq.toInt mm.toInt i := by
  have hz : (Int32.ofNat i).toInt = (i : Int) := Int32.toInt_ofNat_of_lt (by omega)
  have e : ∀ v : Int32, 0 ≤ v.toInt ∧ v.toInt < 256 → (nar .char v).toUInt32.toUInt16.toUInt32.toInt32 = v := fun v hv => by
    show (v.toUInt32.toUInt16.toUInt32.toInt32).toUInt32.toUInt16.toUInt32.toInt32 = v
    rw [own_nc (v := v) (by omega), own_nc (v := v) (by omega)]
  have h1 := own_sub1 hln hn (by omega)
  unfold own_F fn3 own_dg
  by_cases q1 : i + 1 = nn
  · rw [if_pos (by apply Int32.toInt_inj.mp; omega), if_pos q1, e _ hx]
  · rw [if_neg (fun q => q1 (by have := congrArg Int32.toInt q; omega)), if_neg q1]
    by_cases q2 : i = 0
    · rw [if_pos (by apply Int32.toInt_inj.mp; rw [hz, q2]; rfl), if_pos q2, e _ ha]
    · rw [if_neg (fun q => q2 (by have := congrArg Int32.toInt q; have l : (0 : Int32).toInt = 0 := rfl; omega)), if_neg q2]
      by_cases q3 : (i : Int) = qq.toInt
      · rw [if_pos (by apply Int32.toInt_inj.mp; omega), if_pos q3, e _ hbb]
      · rw [if_neg (fun q => q3 (by have := congrArg Int32.toInt q; omega)), if_neg q3]
        have hp := own_p10v (nn - 2 - i) (by omega)
        have hpos := own_pp (nn - 2 - i)
        have hne : own_p10 (nn - 2 - i) ≠ -1 := fun q => by
          rw [q] at hp
          have l : (-1 : Int64).toInt = -1 := rfl
          omega
        have h2 := (c_ldiv mm (own_p10 (nn - 2 - i)) _ hp hne).1 hM.1
        have h3 : 0 ≤ (mm / own_p10 (nn - 2 - i)).toInt := by rw [h2]; exact Int.ediv_nonneg hM.1 (by omega)
        have h4 := (c_lrem (mm / own_p10 (nn - 2 - i)) 10 10 rfl).1 h3
        rw [h2] at h4
        obtain ⟨w, hw⟩ : ∃ w, w = ((mm / (own_p10 (nn - 2 - i))) - ((mm / (own_p10 (nn - 2 - i))) / (10 : Int64)) * (10 : Int64)) := ⟨_, rfl⟩
        rw [← hw] at h4 ⊢
        have h5 := c_l2i w
        have h6 := rng32 w.toInt32
        have h7 := c_iadd 48 w.toInt32
        have h8 := rng32 (48 + w.toInt32)
        have l1 : (48 : Int32).toInt = 48 := rfl
        have h9 : (48 + w.toInt32).toInt = 48 + w.toInt := by omega
        rw [own_nc (v := (48 + w.toInt32)) (by omega), e _ (by omega), h9, h4]
theorem own_dg256 {n : Nat} {ca cb cx qq M : Int} (hM : 0 ≤ M) (ha : 0 ≤ ca ∧ ca < 256) (hbb : 0 ≤ cb ∧ cb < 256) (hx : 0 ≤ cx ∧ cx < 256) (i : Nat) : 0 ≤ own_dg n ca cb cx qq M i ∧ own_dg n ca cb cx qq M i < 256 := by
  unfold own_dg
  split
  · exact hx
  · split
    · exact ha
    · split
      · exact hbb
      · omega
theorem own_hfc {ln ca cb cx qq : Int32} {mm : Int64} {nn : Nat} {fcc : Nat → Int32} (hln : ln.toInt = (nn : Int)) (hn : nn ≤ 20) (hM : own_M nn mm) (ha : 0 ≤ ca.toInt ∧ ca.toInt < 256) (hbb : 0 ≤ cb.toInt ∧ cb.toInt < 256) (hx : 0 ≤ cx.toInt ∧ cx.toInt < 256) (h : own_fill (own_F ln ca cb cx qq mm nn) nn fcc 20) : OC nn fcc ∧ ∀ i, i < nn → (fcc i).toInt = own_dg nn ca.toInt cb.toInt cx.toInt qq.toInt mm.toInt i := by
  have hv : ∀ i, i < nn → (fcc i).toInt = own_dg nn ca.toInt cb.toInt cx.toInt qq.toInt mm.toInt i := fun i hi => by rw [h i (by omega) hi, own_Fv hln hn hM ha hbb hx hi]
  exact ⟨⟨hn, fun i hi => by rw [hv i hi]; exact own_dg256 hM.1 ha hbb hx i⟩, hv⟩
/-- the number that the first i signs tell -/
def own_num (d : Nat → Int) : Nat → Int
  | 0 => 0
  | i + 1 => own_num d i * 10 + (d i - 48)
def own_sat (N : Int) (v : Int64) : Prop := 0 ≤ N ∧ (N ≤ 9223372036854775807 → v.toInt = N) ∧ (9223372036854775807 < N → v.toInt = 9223372036854775807)
theorem own_st {N : Int} {v : Int64} {d : Int32} (h : own_sat N v) (h1 : 0 ≤ d.toInt) (h2 : d.toInt ≤ 9) : own_sat (N * 10 + d.toInt) (own_step v d) := by
  obtain ⟨a, b, c⟩ := h
  unfold own_step
  have q1 := c_i2l d
  have q2 := c_lsub 9223372036854775807 d.toInt64
  have q3 := rng64 (9223372036854775807 - d.toInt64)
  have l1 : (9223372036854775807 : Int64).toInt = 9223372036854775807 := rfl
  have q4 := (c_ldiv (9223372036854775807 - d.toInt64) 10 10 rfl (by decide)).1 (by omega)
  have l2 : (10 : Int64).toInt = 10 := rfl
  have q5 := c_lmul v 10
  rw [l2] at q5
  have q6 := c_ladd (v * 10) d.toInt64
  have q7 := rng64 (v * 10)
  have q8 := rng64 (v * 10 + d.toInt64)
  have q9 := rng64 v
  by_cases q : ((9223372036854775807 - d.toInt64) / 10) < v
  · rw [if_pos q]
    rw [Int64.lt_iff_toInt_lt, q4] at q
    refine ⟨by omega, fun z => ?_, fun z => rfl⟩
    rw [l1]; omega
  · rw [if_neg q]
    rw [Int64.lt_iff_toInt_lt, q4] at q
    refine ⟨by omega, fun z => ?_, fun z => ?_⟩ <;> omega
theorem own_d48 {v : Int32} (h : 0 ≤ v.toInt ∧ v.toInt < 256) : (v - (48 : Int32)).toInt = v.toInt - 48 := by
  have h1 := c_isub v 48
  have h2 := rng32 (v - 48)
  have l1 : (48 : Int32).toInt = 48 := rfl
  omega
theorem own_ok {n : Nat} {fc : Nat → Int32} {g : Nat → Int} (hfc : OC n fc) (hg : ∀ i, i < n → (fc i).toInt = g i) (hd : ∀ i, i < n → 48 ≤ g i ∧ g i ≤ 57) : ∀ (d i : Nat) (acc : Int64), i + d = n → own_sat (own_num g i) acc → (own_scan fc d i acc).1 = 1 ∧ own_sat (own_num g n) (own_scan fc d i acc).2 := by
  intro d
  induction d with
  | zero => intro i acc hi hs; obtain rfl : i = n := (by omega); exact ⟨rfl, hs⟩
  | succ d ih =>
    intro i acc hi hs
    have h1 := own_d48 (hfc.2 i (by omega))
    have h2 := hg i (by omega)
    have h3 := hd i (by omega)
    have l1 : (0 : Int32).toInt = 0 := rfl
    have l2 : (9 : Int32).toInt = 9 := rfl
    rw [own_scan, if_neg (by rw [Int32.lt_iff_toInt_lt]; omega), if_neg (by rw [Int32.lt_iff_toInt_lt]; omega)]
    refine ih (i + 1) _ (by omega) ?_
    have h4 := own_st (d := fc i - 48) hs (by omega) (by omega)
    rw [h1, h2] at h4
    exact h4
theorem own_bad {n : Nat} {fc : Nat → Int32} {g : Nat → Int} (hfc : OC n fc) (hg : ∀ i, i < n → (fc i).toInt = g i) {j : Nat} (hj : j < n) (hd : ¬ (48 ≤ g j ∧ g j ≤ 57)) : ∀ (d i : Nat) (acc : Int64), i + d = n → i ≤ j → (own_scan fc d i acc).1 = 0 := by
  intro d
  induction d with
  | zero => intro i acc hi hs; omega
  | succ d ih =>
    intro i acc hi hs
    have h1 := own_d48 (hfc.2 i (by omega))
    have h2 := hg i (by omega)
    have l1 : (0 : Int32).toInt = 0 := rfl
    have l2 : (9 : Int32).toInt = 9 := rfl
    rw [own_scan]
    split
    · rfl
    · rename_i q1
      split
      · rfl
      · rename_i q2
        rw [Int32.lt_iff_toInt_lt] at q1 q2
        refine ih (i + 1) _ (by omega) ?_
        by_cases q : i = j
        · subst q; exact absurd ⟨by omega, by omega⟩ hd
        · omega
/-- two roads that differ at one place -/
theorem own_diff {d d' : Nat → Int} {q : Nat} (h : ∀ i, i ≠ q → d' i = d i) : (∀ n, n ≤ q → own_num d' n = own_num d n) ∧ ∀ k, own_num d' (q + 1 + k) = own_num d (q + 1 + k) + (d' q - d q) * ((10 ^ k : Nat) : Int) := by
  have h1 : ∀ n, n ≤ q → own_num d' n = own_num d n := by
    intro n
    induction n with
    | zero => intro _; rfl
    | succ n ih => intro hn; rw [own_num, own_num, ih (by omega), h n (by omega)]
  refine ⟨h1, fun k => ?_⟩
  induction k with
  | zero => rw [Nat.add_zero, own_num, own_num, h1 q (Nat.le_refl _)]; simp; omega
  | succ k ih =>
    rw [← Nat.add_assoc, own_num, own_num, ih, h (q + 1 + k) (by omega), Nat.pow_succ, Int.add_mul, Int.natCast_mul, ← Int.mul_assoc]
    have l : ((10 : Nat) : Int) = 10 := rfl
    rw [l]
    omega
theorem own_pS (k : Nat) : ((10 ^ (k + 1) : Nat) : Int) = ((10 ^ k : Nat) : Int) * 10 := by rw [Nat.pow_succ, Int.natCast_mul]; rfl
theorem own_dS (M : Int) (k : Nat) : M / ((10 ^ (k + 1) : Nat) : Int) = M / ((10 ^ k : Nat) : Int) / 10 := by rw [own_pS, Int.ediv_ediv_of_nonneg (by have := own_pp k; omega)]
theorem own_pl {n : Nat} {ca cb cx M : Int} (hM : 0 ≤ M) (hM2 : M < ((10 ^ (n - 2) : Nat) : Int)) (hn : 2 ≤ n) : ∀ i, i + 2 ≤ n → own_num (own_dg n ca cb cx (-1) M) (i + 1) = (ca - 48) * ((10 ^ i : Nat) : Int) + M / ((10 ^ (n - 2 - i) : Nat) : Int) := by
  intro i
  induction i with
  | zero =>
    intro _
    rw [own_num, own_num, own_dg, if_neg (by omega), if_pos rfl, Nat.sub_zero, Int.ediv_eq_zero_of_lt hM hM2]
    simp
  | succ i ih =>
    intro hi
    have e1 : n - 2 - i = (n - 2 - (i + 1)) + 1 := by omega
    rw [own_num, ih (by omega), own_dg, if_neg (by omega), if_neg (by omega), if_neg (by omega), e1, own_dS, own_pS, ← Int.mul_assoc]
    omega
theorem own_pn {n : Nat} {ca cb cx M : Int} (hM : 0 ≤ M) (hM2 : M < ((10 ^ (n - 2) : Nat) : Int)) (hn : 2 ≤ n) : own_num (own_dg n ca cb cx (-1) M) n = (ca - 48) * ((10 ^ (n - 1) : Nat) : Int) + M * 10 + (cx - 48) := by
  have h1 := own_pl (ca := ca) (cb := cb) (cx := cx) hM hM2 hn (n - 2) (by omega)
  have e1 : n = (n - 2 + 1) + 1 := by omega
  have e2 : own_num (own_dg n ca cb cx (-1) M) (n - 2 + 1 + 1) = own_num (own_dg n ca cb cx (-1) M) (n - 2 + 1) * 10 + (own_dg n ca cb cx (-1) M (n - 2 + 1) - 48) := rfl
  rw [← e1] at e2
  have e3 : n - 1 = n - 2 + 1 := by omega
  rw [e2, h1, own_dg, if_pos (by omega), e3, own_pS, ← Int.mul_assoc, Nat.sub_self]
  simp
  omega
/-- the middle digits' number -/
def own_mid (n : Nat) (qq M cb : Int) : Int := if qq = -1 then M else M + (cb - 48 - M / ((10 ^ (n - 2 - qq.toNat) : Nat) : Int) % 10) * ((10 ^ (n - 2 - qq.toNat) : Nat) : Int)
theorem own_tot {n : Nat} {ca cb cx qq M : Int} (hM : 0 ≤ M) (hM2 : M < ((10 ^ (n - 2) : Nat) : Int)) (hn : 2 ≤ n) (hq : qq = -1 ∨ (1 ≤ qq ∧ qq ≤ (n : Int) - 2)) : own_num (own_dg n ca cb cx qq M) n = (ca - 48) * ((10 ^ (n - 1) : Nat) : Int) + own_mid n qq M cb * 10 + (cx - 48) := by
  rw [own_mid]
  rcases hq with rfl | ⟨h1, h2⟩
  · rw [if_pos rfl]; exact own_pn hM hM2 hn
  · rw [if_neg (by omega)]
    obtain ⟨q, rfl⟩ : ∃ q : Nat, qq = (q : Int) := ⟨qq.toNat, by omega⟩
    have h3 : ∀ i, i ≠ q → own_dg n ca cb cx (q : Int) M i = own_dg n ca cb cx (-1) M i := fun i hi => by
      unfold own_dg
      split
      · rfl
      · split
        · rfl
        · rw [if_neg (by omega), if_neg (by omega)]
    have h4 := (own_diff h3).2 (n - 1 - q)
    have e1 : q + 1 + (n - 1 - q) = n := by omega
    have e2 : n - 1 - q = (n - 2 - q) + 1 := by omega
    have d1 : own_dg n ca cb cx (q : Int) M q = cb := by rw [own_dg, if_neg (by omega), if_neg (by omega), if_pos rfl]
    have d2 : own_dg n ca cb cx (-1) M q = 48 + M / ((10 ^ (n - 2 - q) : Nat) : Int) % 10 := by rw [own_dg, if_neg (by omega), if_neg (by omega), if_neg (by omega)]
    rw [e1, own_pn hM hM2 hn, d1, d2, e2, own_pS, ← Int.mul_assoc] at h4
    have e3 : cb - (48 + M / ((10 ^ (n - 2 - q) : Nat) : Int) % 10) = cb - 48 - M / ((10 ^ (n - 2 - q) : Nat) : Int) % 10 := by omega
    rw [e3] at h4
    rw [h4, Int.toNat_natCast]
    omega
theorem own_mb {x P : Int} (h1 : -9 ≤ x) (h2 : x ≤ 9) (hP : 0 ≤ P) : -(9 * P) ≤ x * P ∧ x * P ≤ 9 * P := by
  have a := Int.mul_le_mul_of_nonneg_right h2 hP
  have b := Int.mul_le_mul_of_nonneg_right h1 hP
  omega
theorem own_midb {n : Nat} {cb qq M : Int} (hM : 0 ≤ M) (hM2 : M < ((10 ^ (n - 2) : Nat) : Int)) (hn : 2 ≤ n) (hq : qq = -1 ∨ (1 ≤ qq ∧ qq ≤ (n : Int) - 2 ∧ 48 ≤ cb ∧ cb ≤ 57)) : 0 ≤ own_mid n qq M cb ∧ own_mid n qq M cb * 10 ≤ 19 * ((10 ^ (n - 2) : Nat) : Int) := by
  rw [own_mid]
  rcases hq with rfl | ⟨h1, h2, h3, h4⟩
  · rw [if_pos rfl]; omega
  · rw [if_neg (by omega)]
    obtain ⟨q, rfl⟩ : ∃ q : Nat, qq = (q : Int) := ⟨qq.toNat, by omega⟩
    rw [Int.toNat_natCast]
    have p1 := own_pp (n - 2 - q)
    have p2 := own_pS (n - 2 - q)
    have p3 : (10 ^ (n - 2 - q + 1) : Nat) ≤ (10 ^ (n - 2) : Nat) := Nat.pow_le_pow_right (by decide) (by omega)
    obtain ⟨P, hP⟩ : ∃ P : Int, P = ((10 ^ (n - 2 - q) : Nat) : Int) := ⟨_, rfl⟩
    rw [← hP] at p2 ⊢
    have m1 := own_mb (x := cb - 48 - M / P % 10) (P := P) (by omega) (by omega) (by omega)
    have m2 : 0 ≤ (cb - 48) * P := Int.mul_nonneg (by omega) (by omega)
    have m3 : M / P % 10 * P ≤ M / P * P := Int.mul_le_mul_of_nonneg_right (by have : 0 ≤ M / P := Int.ediv_nonneg hM (by omega); omega) (by omega)
    have m4 : M / P * P ≤ M := Int.ediv_mul_le M (by omega)
    have m5 : (cb - 48 - M / P % 10) * P = (cb - 48) * P - M / P % 10 * P := Int.sub_mul _ _ _
    omega
theorem own_bd (n : Nat) (hn : n ≤ 20) : ((10 ^ (n - 2) : Nat) : Int) ≤ 1000000000000000000 := by
  have h : (10 ^ (n - 2) : Nat) ≤ 10 ^ 18 := Nat.pow_le_pow_right (by decide) (by omega)
  have h2 : (10 ^ 18 : Nat) = 1000000000000000000 := by decide
  omega
theorem own_e {ln qq : Int32} {nn : Nat} (hln : ln.toInt = (nn : Int)) (hn : nn ≤ 20) (h1 : 1 ≤ qq.toInt) (h2 : qq.toInt ≤ (nn : Int) - 2) : ((ln - (2 : Int32)) - qq).toInt = ((nn - 2 - qq.toInt.toNat : Nat) : Int) ∧ nn - 2 - qq.toInt.toNat < 19 := by
  have h3 := own_sub2 hln hn (by omega)
  have h4 := c_isub (ln - 2) qq
  have h5 := rng32 ((ln - 2) - qq)
  omega
theorem own_md {cb qq : Int32} {mm md : Int64} {nn : Nat} (hn : nn ≤ 20) (hM : own_M nn mm) (h1 : 1 ≤ qq.toInt) (h2 : qq.toInt ≤ (nn : Int) - 2) (hbb : 48 ≤ cb.toInt ∧ cb.toInt ≤ 57)
    (h_md : md = (mm + ((((cb - (48 : Int32)).toInt64) - ((mm / (own_p10 (nn - 2 - qq.toInt.toNat))) - ((mm / (own_p10 (nn - 2 - qq.toInt.toNat))) / (10 : Int64)) * (10 : Int64))) * (own_p10 (nn - 2 - qq.toInt.toNat))))) : md.toInt = own_mid nn qq.toInt mm.toInt cb.toInt := by
  have hp := own_p10v (nn - 2 - qq.toInt.toNat) (by omega)
  rw [own_mid, if_neg (by omega)]
  have hpos := own_pp (nn - 2 - qq.toInt.toNat)
  have p3 : (10 ^ (nn - 2 - qq.toInt.toNat + 1) : Nat) ≤ (10 ^ (nn - 2) : Nat) := Nat.pow_le_pow_right (by decide) (by omega)
  have p4 := own_pS (nn - 2 - qq.toInt.toNat)
  have p5 := own_bd nn hn
  have p6 := hM.2 (by omega)
  have p7 := hM.1
  obtain ⟨P, hP⟩ : ∃ P : Int, P = ((10 ^ (nn - 2 - qq.toInt.toNat) : Nat) : Int) := ⟨_, rfl⟩
  obtain ⟨w, hw⟩ : ∃ w : Int64, w = own_p10 (nn - 2 - qq.toInt.toNat) := ⟨_, rfl⟩
  rw [← hP] at hp p4 ⊢
  rw [← hw] at hp h_md
  have hne : w ≠ -1 := fun q => by
    rw [q] at hp
    have l : (-1 : Int64).toInt = -1 := rfl
    omega
  have q2 := (c_ldiv mm w _ hp hne).1 hM.1
  have q3 : 0 ≤ mm.toInt / P := Int.ediv_nonneg hM.1 (by omega)
  have q4 := (c_lrem (mm / w) 10 10 rfl).1 (by rw [q2]; exact q3)
  rw [q2] at q4
  obtain ⟨o, ho⟩ : ∃ o : Int64, o = ((mm / w) - ((mm / w) / (10 : Int64)) * (10 : Int64)) := ⟨_, rfl⟩
  rw [← ho] at q4 h_md
  have q5 := own_d48 (v := cb) (by omega)
  have q6 := c_i2l (cb - 48)
  have q7 := c_lsub (cb - 48).toInt64 o
  have q8 := rng64 ((cb - 48).toInt64 - o)
  have q9 : ((cb - 48).toInt64 - o).toInt = cb.toInt - 48 - mm.toInt / P % 10 := by omega
  have m1 := own_mb (x := cb.toInt - 48 - mm.toInt / P % 10) (P := P) (by omega) (by omega) (by omega)
  have q10 := c_lmul ((cb - 48).toInt64 - o) w
  rw [q9, hp] at q10
  have q11 := rng64 (((cb - 48).toInt64 - o) * w)
  have q12 := c_ladd mm (((cb - 48).toInt64 - o) * w)
  rw [← h_md] at q12
  have q13 := rng64 md
  omega
def own_VD (ln ub ca cb cx vd : Int32) : Prop := vd = (if ln < (1 : Int32) then (0 : Int32) else if (fn21 cx) = (0 : Int32) then (0 : Int32) else if ln = (1 : Int32) then (if ub = (0 : Int32) then (1 : Int32) else if (fn21 cb) = (0 : Int32) then (0 : Int32) else (1 : Int32)) else if (fn21 ca) = (0 : Int32) then (0 : Int32) else if ub = (0 : Int32) then (1 : Int32) else if (fn21 cb) = (0 : Int32) then (0 : Int32) else (1 : Int32))
theorem own_is {c : Int32} : ¬ (fn21 c) = (0 : Int32) ↔ 48 ≤ c.toInt ∧ c.toInt ≤ 57 := by
  unfold fn21
  have l1 : (48 : Int32).toInt = 48 := rfl
  have l2 : (57 : Int32).toInt = 57 := rfl
  by_cases q1 : c < (48 : Int32)
  · rw [if_pos q1]; rw [Int32.lt_iff_toInt_lt] at q1
    exact ⟨fun q => absurd rfl q, fun q => by omega⟩
  · rw [if_neg q1]; rw [Int32.lt_iff_toInt_lt] at q1
    by_cases q2 : (57 : Int32) < c
    · rw [if_pos q2]; rw [Int32.lt_iff_toInt_lt] at q2
      exact ⟨fun q => absurd rfl q, fun q => by omega⟩
    · rw [if_neg q2]; rw [Int32.lt_iff_toInt_lt] at q2
      exact ⟨fun _ => by omega, fun _ => by decide⟩
theorem own_vd {ln ub ca cb cx vd : Int32} {nn : Nat} (hln : ln.toInt = (nn : Int)) (h3 : ¬ ub = (0 : Int32) → 3 ≤ nn) (h : own_VD ln ub ca cb cx vd) : ¬ vd = (0 : Int32) ↔ (1 ≤ nn ∧ (48 ≤ cx.toInt ∧ cx.toInt ≤ 57) ∧ (2 ≤ nn → (48 ≤ ca.toInt ∧ ca.toInt ≤ 57)) ∧ (¬ ub = (0 : Int32) → (48 ≤ cb.toInt ∧ cb.toInt ≤ 57))) := by
  unfold own_VD at h
  have e1 : ln = (1 : Int32) ↔ nn = 1 := by
    rw [← Int32.toInt_inj, hln]
    have l : (1 : Int32).toInt = 1 := rfl
    omega
  rw [← own_is, ← own_is, ← own_is]
  simp only [own_gt (a := 1) (i := (1 : Int32)) rfl hln, e1] at h
  subst h
  by_cases q1 : nn < 1
  · rw [if_pos q1]; exact ⟨fun q => absurd rfl q, fun q => by omega⟩
  · rw [if_neg q1]
    by_cases q2 : (fn21 cx) = (0 : Int32)
    · rw [if_pos q2]; exact ⟨fun q => absurd rfl q, fun q => absurd q2 q.2.1⟩
    · rw [if_neg q2]
      by_cases q3 : nn = 1
      · rw [if_pos q3]
        by_cases q4 : ub = (0 : Int32)
        · rw [if_pos q4]; exact ⟨fun _ => ⟨by omega, q2, fun z => by omega, fun z => absurd q4 z⟩, fun _ => by decide⟩
        · have := h3 q4; omega
      · rw [if_neg q3]
        by_cases q5 : (fn21 ca) = (0 : Int32)
        · rw [if_pos q5]; exact ⟨fun q => absurd rfl q, fun q => absurd q5 (q.2.2.1 (by omega))⟩
        · rw [if_neg q5]
          by_cases q4 : ub = (0 : Int32)
          · rw [if_pos q4]; exact ⟨fun _ => ⟨by omega, q2, fun z => q5, fun z => absurd q4 z⟩, fun _ => by decide⟩
          · rw [if_neg q4]
            by_cases q6 : (fn21 cb) = (0 : Int32)
            · rw [if_pos q6]; exact ⟨fun q => absurd rfl q, fun q => absurd q6 (q.2.2.2 q4)⟩
            · rw [if_neg q6]; exact ⟨fun _ => ⟨by omega, q2, fun z => q5, fun z => q6⟩, fun _ => by decide⟩
def own_Q (nn : Nat) (ub qq : Int32) : Prop := (¬ ub = (0 : Int32) → 3 ≤ nn) ∧ (ub = (0 : Int32) → qq.toInt = -1) ∧ (¬ ub = (0 : Int32) → 1 ≤ qq.toInt ∧ qq.toInt ≤ (nn : Int) - 2)
def own_O (nn : Nat) (ca cb cx qq : Int32) (mm : Int64) (fcc : Nat → Int32) : Prop := OC nn fcc ∧ ∀ i, i < nn → (fcc i).toInt = own_dg nn ca.toInt cb.toInt cx.toInt qq.toInt mm.toInt i
theorem own_gone {ln ub ca cb cx qq vd : Int32} {mm : Int64} {nn : Nat} {fcc : Nat → Int32} (hln : ln.toInt = (nn : Int)) (hQ : own_Q nn ub qq) (hO : own_O nn ca cb cx qq mm fcc) (hvd : own_VD ln ub ca cb cx vd) (hz : vd = (0 : Int32)) : (own_res fcc nn).1 = 0 := by
  have h := own_vd hln hQ.1 hvd
  rw [own_res]
  by_cases q0 : nn = 0
  · rw [if_pos q0]
  · rw [if_neg q0]
    by_cases q1 : 48 ≤ cx.toInt ∧ cx.toInt ≤ 57
    · by_cases q2 : ¬ ub = (0 : Int32) ∧ ¬ (48 ≤ cb.toInt ∧ cb.toInt ≤ 57)
      · have q3 := hQ.2.2 q2.1
        refine own_bad hO.1 hO.2 (j := qq.toInt.toNat) (by omega) ?_ nn 0 0 (by omega) (by omega)
        rw [own_dg, if_neg (by omega), if_neg (by omega), if_pos (by omega)]
        exact q2.2
      · by_cases q4 : 2 ≤ nn ∧ ¬ (48 ≤ ca.toInt ∧ ca.toInt ≤ 57)
        · refine own_bad hO.1 hO.2 (j := 0) (by omega) ?_ nn 0 0 (by omega) (by omega)
          rw [own_dg, if_neg (by omega), if_pos rfl]
          exact q4.2
        · refine absurd hz (h.mpr ⟨by omega, q1, fun z => ?_, fun z => ?_⟩)
          · exact Classical.byContradiction fun y => q4 ⟨z, y⟩
          · exact Classical.byContradiction fun y => q2 ⟨z, y⟩
    · refine own_bad hO.1 hO.2 (j := nn - 1) (by omega) ?_ nn 0 0 (by omega) (by omega)
      rw [own_dg, if_pos (by omega)]
      exact q1
def own_G (nn : Nat) (ub ca cb cx qq : Int32) (mm v : Int64) : Prop := own_sat (own_num (own_dg nn ca.toInt cb.toInt cx.toInt qq.toInt mm.toInt) nn) v ∧ (1 ≤ nn ∧ nn ≤ 20) ∧ own_M nn mm ∧ own_Q nn ub qq ∧ (48 ≤ cx.toInt ∧ cx.toInt ≤ 57) ∧ (2 ≤ nn → (48 ≤ ca.toInt ∧ ca.toInt ≤ 57)) ∧ (¬ ub = (0 : Int32) → (48 ≤ cb.toInt ∧ cb.toInt ≤ 57))
theorem own_good {ln ub ca cb cx qq vd : Int32} {mm : Int64} {nn : Nat} {fcc : Nat → Int32} (hln : ln.toInt = (nn : Int)) (hM : own_M nn mm) (hQ : own_Q nn ub qq) (hO : own_O nn ca cb cx qq mm fcc) (hvd : own_VD ln ub ca cb cx vd) (hz : ¬ vd = (0 : Int32)) : (own_res fcc nn).1 = 1 ∧ own_G nn ub ca cb cx qq mm (own_res fcc nn).2 := by
  obtain ⟨h1, h2, h3, h4⟩ := (own_vd hln hQ.1 hvd).mp hz
  have hr := own_ok hO.1 hO.2 (fun i hi => by
    unfold own_dg
    split
    · exact h2
    · split
      · exact h3 (by omega)
      · split
        · rename_i q
          by_cases z : ub = (0 : Int32)
          · have := hQ.2.1 z; omega
          · exact h4 z
        · omega) nn 0 0 (by omega) (show own_sat 0 0 from ⟨by decide, fun _ => rfl, fun z => absurd z (by decide)⟩)
  rw [own_res, if_neg (by omega)]
  exact ⟨hr.1, hr.2, ⟨h1, hO.1.1⟩, hM, hQ, h2, h3, h4⟩
theorem own_ladd {x y : Int64} {a : Int} (h : x.toInt + y.toInt = a) (h1 : -9223372036854775808 ≤ a) (h2 : a < 9223372036854775808) : (x + y).toInt = a := by
  have q := c_ladd x y
  have r := rng64 (x + y)
  omega
theorem own_lsub {x y : Int64} {a : Int} (h : x.toInt - y.toInt = a) (h1 : -9223372036854775808 ≤ a) (h2 : a < 9223372036854775808) : (x - y).toInt = a := by
  have q := c_lsub x y
  have r := rng64 (x - y)
  omega
theorem own_lmul {x y : Int64} {a : Int} (h : x.toInt * y.toInt = a) (h1 : -9223372036854775808 ≤ a) (h2 : a < 9223372036854775808) : (x * y).toInt = a := by
  have q := c_lmul x y
  have r := rng64 (x * y)
  rw [h] at q
  omega
section Leaf
variable {ln ub ca cb cx qq xd ad : Int32} {mm mid v wh wl : Int64} {nn : Nat}
theorem own_mid0 (G : own_G nn ub ca cb cx qq mm v) (h : ub = (0 : Int32)) : mm.toInt = own_mid nn qq.toInt mm.toInt cb.toInt := by
  obtain ⟨-, -, -, hQ, -⟩ := G
  rw [own_mid, if_pos (hQ.2.1 h)]
theorem own_e1 (G : own_G nn ub ca cb cx qq mm v) (hln : ln.toInt = (nn : Int)) (h : ¬ ub = (0 : Int32)) : ((ln - (2 : Int32)) - qq).toInt = ((nn - 2 - qq.toInt.toNat : Nat) : Int) ∧ nn - 2 - qq.toInt.toNat < 19 := by
  obtain ⟨-, hn, -, hQ, -⟩ := G
  have q := hQ.2.2 h
  exact own_e hln hn.2 q.1 q.2
theorem own_mid1 (G : own_G nn ub ca cb cx qq mm v) (h : ¬ ub = (0 : Int32)) (h_md : mid = (mm + ((((cb - (48 : Int32)).toInt64) - ((mm / (own_p10 (nn - 2 - qq.toInt.toNat))) - ((mm / (own_p10 (nn - 2 - qq.toInt.toNat))) / (10 : Int64)) * (10 : Int64))) * (own_p10 (nn - 2 - qq.toInt.toNat))))) : mid.toInt = own_mid nn qq.toInt mm.toInt cb.toInt := by
  obtain ⟨-, hn, hM, hQ, -, -, h4⟩ := G
  have q := hQ.2.2 h
  exact own_md hn.2 hM q.1 q.2 (h4 h) h_md
theorem own_l1 (G : own_G nn ub ca cb cx qq mm v) (hln : ln.toInt = (nn : Int)) (h : ln = (1 : Int32)) (h_xd : xd = (cx - (48 : Int32))) : v = (xd.toInt64) := by
  obtain ⟨hs, hn, hM, hQ, hx, -⟩ := G
  have e : nn = 1 := by
    rw [h] at hln
    have l : (1 : Int32).toInt = 1 := rfl
    omega
  subst e
  rw [own_num, own_num, own_dg, if_pos rfl] at hs
  obtain ⟨a, b, c⟩ := hs
  have q5 := own_d48 (v := cx) (by omega)
  have q6 := c_i2l xd
  rw [← h_xd] at q5
  apply Int64.toInt_inj.mp
  omega
theorem own_n2 (hln : ln.toInt = (nn : Int)) (G : own_G nn ub ca cb cx qq mm v) (h : ¬ ln = (1 : Int32)) : 2 ≤ nn := by
  obtain ⟨-, hn, -⟩ := G
  have l : (1 : Int32).toInt = 1 := rfl
  rw [← Int32.toInt_inj] at h
  omega
theorem own_q1 (G : own_G nn ub ca cb cx qq mm v) (hln : ln.toInt = (nn : Int)) (h19 : ¬ (19 : Int32) < ln) : (ln - (1 : Int32)).toInt = ((nn - 1 : Nat) : Int) ∧ nn - 1 < 19 := by
  obtain ⟨-, hn, -⟩ := G
  rw [own_lt (a := 19) rfl hln] at h19
  exact ⟨own_sub1 hln hn.2 hn.1, by omega⟩
/-- what the leaves share -/
theorem own_sh2 (G : own_G nn ub ca cb cx qq mm v) (h : 2 ≤ nn) (hm : mid.toInt = own_mid nn qq.toInt mm.toInt cb.toInt) (h_xd : xd = (cx - (48 : Int32))) (h_ad : ad = (ca - (48 : Int32))) : own_sat (ad.toInt * ((10 ^ (nn - 1) : Nat) : Int) + mid.toInt * 10 + xd.toInt) v ∧ 0 ≤ xd.toInt ∧ xd.toInt ≤ 9 ∧ 0 ≤ ad.toInt ∧ ad.toInt ≤ 9 ∧ 0 ≤ mid.toInt ∧ mid.toInt * 10 ≤ 19 * ((10 ^ (nn - 2) : Nat) : Int) := by
  obtain ⟨hs, hn, hM, hQ, hx, ha, h4⟩ := G
  have a := ha h
  have q1 := own_d48 (v := cx) (by omega)
  have q2 := own_d48 (v := ca) (by omega)
  rw [← h_xd] at q1
  rw [← h_ad] at q2
  have hq : qq.toInt = -1 ∨ (1 ≤ qq.toInt ∧ qq.toInt ≤ (nn : Int) - 2) := by
    by_cases z : ub = (0 : Int32)
    · exact Or.inl (hQ.2.1 z)
    · exact Or.inr (hQ.2.2 z)
  have hq2 : qq.toInt = -1 ∨ (1 ≤ qq.toInt ∧ qq.toInt ≤ (nn : Int) - 2 ∧ 48 ≤ cb.toInt ∧ cb.toInt ≤ 57) := by
    by_cases z : ub = (0 : Int32)
    · exact Or.inl (hQ.2.1 z)
    · exact Or.inr ⟨(hQ.2.2 z).1, (hQ.2.2 z).2, h4 z⟩
  rw [own_tot hM.1 (hM.2 h) h hq, ← hm, ← q1, ← q2] at hs
  have hb2 := own_midb hM.1 (hM.2 h) h hq2
  rw [← hm] at hb2
  exact ⟨hs, by omega, by omega, by omega, by omega, hb2.1, hb2.2⟩
theorem own_19 (G : own_G nn ub ca cb cx qq mm v) (hln : ln.toInt = (nn : Int)) (h1 : ¬ ln = (1 : Int32)) (hm : mid.toInt = own_mid nn qq.toInt mm.toInt cb.toInt) (h_xd : xd = (cx - (48 : Int32))) (h_ad : ad = (ca - (48 : Int32))) (h19 : ¬ (19 : Int32) < ln) (h_wh : wh = ((ad.toInt64) * (own_p10 (nn - 1)))) (h_wl : wl = ((mid * (10 : Int64)) + (xd.toInt64))) : (((9223372036854775807 : Int64) - wh) < wl → v = (9223372036854775807 : Int64)) ∧ (¬ ((9223372036854775807 : Int64) - wh) < wl → v = (wh + wl)) := by
  have h2 := own_n2 hln G h1
  obtain ⟨⟨s1, s2, s3⟩, x1, x2, a1, a2, m1, m2⟩ := own_sh2 G h2 hm h_xd h_ad
  rw [own_lt (a := 19) rfl hln] at h19
  have hp := own_p10v (nn - 1) (by omega)
  have p1 : (10 ^ (nn - 1) : Nat) ≤ 10 ^ 18 := Nat.pow_le_pow_right (by decide) (by omega)
  have p2 : (10 ^ 18 : Nat) = 1000000000000000000 := by decide
  have p3 : (10 ^ (nn - 2) : Nat) ≤ 10 ^ 17 := Nat.pow_le_pow_right (by decide) (by omega)
  have p4 : (10 ^ 17 : Nat) = 100000000000000000 := by decide
  have b1 := own_mb (x := ad.toInt) (P := ((10 ^ (nn - 1) : Nat) : Int)) (by omega) (by omega) (Int.natCast_nonneg _)
  have b2 : 0 ≤ ad.toInt * ((10 ^ (nn - 1) : Nat) : Int) := Int.mul_nonneg a1 (Int.natCast_nonneg _)
  obtain ⟨P, hP⟩ : ∃ P : Int, P = ad.toInt * ((10 ^ (nn - 1) : Nat) : Int) := ⟨_, rfl⟩
  rw [← hP] at s1 s2 s3 b1 b2
  have l1 : (10 : Int64).toInt = 10 := rfl
  have l2 : (9223372036854775807 : Int64).toInt = 9223372036854775807 := rfl
  have mB : mid.toInt ≤ 190000000000000000 := by omega
  have PB : P ≤ 9000000000000000000 := by omega
  clear p1 p2 p3 p4 b1 m2 hm h19 h2 hln
  have e1 : wh.toInt = P := by rw [h_wh]; exact own_lmul (by rw [c_i2l, hp, hP]) (by omega) (by omega)
  have e2 : (mid * 10).toInt = mid.toInt * 10 := own_lmul (by rw [l1]) (by omega) (by omega)
  have e3 : wl.toInt = mid.toInt * 10 + xd.toInt := by rw [h_wl]; exact own_ladd (by rw [e2, c_i2l]) (by omega) (by omega)
  have e4 : (9223372036854775807 - wh).toInt = 9223372036854775807 - P := own_lsub (by rw [l2, e1]) (by omega) (by omega)
  clear h_wh h_wl hp h_xd h_ad
  have e5 : ¬ 9223372036854775807 < P + (mid.toInt * 10 + xd.toInt) → (wh + wl).toInt = P + (mid.toInt * 10 + xd.toInt) := fun z => by
    have z1 : P + (mid.toInt * 10 + xd.toInt) < 9223372036854775808 := by clear e1 e2 e3 e4 l1 l2 s1 s2 s3; omega
    have z2 : -9223372036854775808 ≤ P + (mid.toInt * 10 + xd.toInt) := by clear e1 e2 e3 e4 l1 l2 s1 s2 s3; omega
    exact own_ladd (by rw [e1, e3]) z2 z1
  simp only [Int64.lt_iff_toInt_lt, e4, e3, ← Int64.toInt_inj, l2]
  clear l2 l1 e2 e1 e3 e4 hP
  refine ⟨fun q => ?_, fun q => ?_⟩
  · refine s3 ?_
    clear s1 s2 s3 e5
    omega
  · rw [e5 (by clear s1 s2 s3 e5; omega), s2 (by clear s1 s2 s3 e5; omega)]
    clear s1 s2 s3 e5
    omega
theorem own_20 (G : own_G nn ub ca cb cx qq mm v) (hln : ln.toInt = (nn : Int)) (h1 : ¬ ln = (1 : Int32)) (hm : mid.toInt = own_mid nn qq.toInt mm.toInt cb.toInt) (h_xd : xd = (cx - (48 : Int32))) (h_ad : ad = (ca - (48 : Int32))) (h19 : (19 : Int32) < ln) : ((0 : Int32) < ad ∨ (922337203685477580 : Int64) < mid ∨ (mid = (922337203685477580 : Int64) ∧ (7 : Int32) < xd) → v = (9223372036854775807 : Int64)) ∧ (¬ (0 : Int32) < ad → ¬ (922337203685477580 : Int64) < mid → (¬ mid = (922337203685477580 : Int64) ∨ ¬ (7 : Int32) < xd) → v = ((mid * (10 : Int64)) + (xd.toInt64))) := by
  have h2 := own_n2 hln G h1
  obtain ⟨⟨s1, s2, s3⟩, x1, x2, a1, a2, m1, m2⟩ := own_sh2 G h2 hm h_xd h_ad
  obtain ⟨-, hn, -⟩ := G
  rw [own_lt (a := 19) rfl hln] at h19
  obtain rfl : nn = 20 := by omega
  have p1 : (10 ^ (20 - 1) : Nat) = 10000000000000000000 := by decide
  have p2 : (10 ^ (20 - 2) : Nat) = 1000000000000000000 := by decide
  rw [p1] at s1 s2 s3
  rw [p2] at m2
  have c2 := c_i2l xd
  have c4 := c_lmul mid 10
  have l1 : (10 : Int64).toInt = 10 := rfl
  rw [l1] at c4
  have c5 := c_ladd (mid * 10) xd.toInt64
  have r2 := rng64 ((mid * 10) + xd.toInt64)
  have r3 := rng64 (mid * 10)
  have l2 : (9223372036854775807 : Int64).toInt = 9223372036854775807 := rfl
  have l3 : (922337203685477580 : Int64).toInt = 922337203685477580 := rfl
  have l4 : (0 : Int32).toInt = 0 := rfl
  have l5 : (7 : Int32).toInt = 7 := rfl
  simp only [Int64.lt_iff_toInt_lt, Int32.lt_iff_toInt_lt, ← Int64.toInt_inj, l2, l3, l4, l5]
  refine ⟨fun q => ?_, fun q1 q2 q3 => ?_⟩ <;> omega
end Leaf
theorem own_nb0 {z : Int32} (h : z = (0 : Int32)) : nar .boolean z = (0 : Int32) := by rw [h]; rfl
theorem own_nb1 {z : Int32} (h : z = (1 : Int32)) : ¬ nar .boolean z = (0 : Int32) := by rw [h]; decide
theorem own_z1 {z : Int32} (h : z = (1 : Int32)) : ¬ z = (0 : Int32) := by rw [h]; decide
theorem own_ordI {args : Array Value} {Z : State} {t : Term} {a : Addr} {k : Int32} {C n d : String} (ht : t.eval args Z none [] Z = some (.ref a)) (h : (Cond.eq (.field t C n d) (.int k)).value args Z none Z [] = some true) : Fld Z Z.heap a C n d (.int k) := Fld.start ((fld_at ht).symm.trans (eqv_i (Term.int_eval k) h))
theorem own_ordL {args : Array Value} {Z : State} {t : Term} {a : Addr} {k : Int64} {C n d : String} (ht : t.eval args Z none [] Z = some (.ref a)) (h : (Cond.eq (.field t C n d) (.long k)).value args Z none Z [] = some true) : Fld Z Z.heap a C n d (.long k) := Fld.start ((fld_at ht).symm.trans (eqv_l (show (Term.long k).eval args Z none [] Z = some (.long k) from rfl) h))
theorem own_sets {s : State} {args : Array Value} (hsets : ∀ w ∈ jdkStatics_1, w.before args s = true) : ∃ (cs : Int32) (fmv : Value) (em : Addr), OST s cs fmv ∧ OEM s em ∧ Jvm.Lit.compactW.before args s = true := by
  have w1 := Cond.before_iff.mp (hsets _ (List.mem_of_getElem? (i := 1) rfl))
  have w2 := hsets _ (List.mem_of_getElem? (i := 2) rfl)
  have w2' := Cond.before_iff.mp w2
  have w8 := Cond.before_iff.mp (hsets _ (List.mem_of_getElem? (i := 8) rfl))
  have w11 := Cond.before_iff.mp (hsets _ (List.mem_of_getElem? (i := 11) rfl))
  have w12 := Cond.before_iff.mp (hsets _ (List.mem_of_getElem? (i := 12) rfl))
  have w13 := Cond.before_iff.mp (hsets _ (List.mem_of_getElem? (i := 13) rfl))
  obtain ⟨cs, e1⟩ := is_v w1
  obtain ⟨fmv, e8, hf⟩ := isR_v w8
  obtain ⟨em, e11⟩ := exa_v w11
  have hcs : ¬ cs = (0 : Int32) := by
    intro q
    have e0 : (Term.int (0 : Int32)).eval args s none [] s = some (.int 0) := Term.int_eval 0
    simp [Cond.value, e1, e0, q] at w2'
  exact ⟨cs, fmv, em, ⟨Sta.start e1 (Or.inl (hsets _ (List.mem_of_getElem? (i := 0) rfl))), hcs, Sta.start e8 (Or.inl (hsets _ (List.mem_of_getElem? (i := 7) rfl))), hf⟩, ⟨Sta.start e11 (Or.inl (hsets _ (List.mem_of_getElem? (i := 10) rfl))), Exa.start e11 w11, own_ordI e11 w12, own_ordL e11 w13⟩, w2⟩

theorem pn_0 : plainName "com/example/relent/relent/WholeNumbersUnsignedPinLaw" = true := by first | (simp [plainName, overriddenIn]; done) | decide +kernel
theorem ef_0 (m : MethodId) (x0 : Int64) (x1 : Int32) (x2 : Int32) (x3 : Int32) (x4 : Int32) : entryFrame m #[(.long x0), (.int x1), (.int x2), (.int x3), (.int x4)] maxLocals = mkF m 0 #[.val (.long x0), .second, .val (.int x1), .val (.int x2), .val (.int x3), .val (.int x4), .unset, .unset, .unset, .unset, .unset, .unset, .unset, .unset, .unset, .unset, .unset, .unset, .unset, .unset, .unset, .unset, .unset, .unset, .unset, .unset, .unset] [] := by first | (simp [entryFrame, mkF, argsToLocals, Value.category, maxLocals]; done) | rfl
theorem pd_15 : parseMethodDescriptor "(IICCCIJ)C" = some ⟨[.int, .int, .char, .char, .char, .int, .long], some .char⟩ := by decide +kernel
theorem pd_16 : parseMethodDescriptor "([C)V" = some ⟨[(.array .char)], none⟩ := by decide +kernel
theorem pd_17 : parseMethodDescriptor "(Ljava/lang/String;)Ljava/util/OptionalLong;" = some ⟨[(.object "java/lang/String")], some (.object "java/util/OptionalLong")⟩ := by decide +kernel
theorem pd_18 : parseMethodDescriptor "(C)Z" = some ⟨[.char], some .boolean⟩ := by decide +kernel
theorem pd_19 : parseMethodDescriptor "()J" = some ⟨[], some .long⟩ := by decide +kernel
def Q0 (Z : State) (va : Int64) (ra : Int32) (rb : Int32) (rx : Int32) (se : Int32) (cs : Int32) (fmv : Value) (em : Addr) (h0 : Heap) (n0 : Nat) (v : Option Value) (h : Heap) (L : List Loc) : Prop := v = some (.int 1) ∧ Fr n0 L
set_option maxRecDepth 65536 in
set_option maxHeartbeats 40000000 in
theorem rm0 (l : Launch) (Z : State) (a0 : Array Value) (hw : ∀ d ∈ tables_1, d.before a0 Z = true) (ws : List Jvm.Cond) (va : Int64) (ra : Int32) (rb : Int32) (rx : Int32) (se : Int32) (cs : Int32) (fmv : Value) (em : Addr) (h0 : Heap) (n0 : Nat) (Z0 : n0 ≤ h0.size) (O0 : Old Z n0 h0) (hst : OST Z cs fmv) (hem : OEM Z em) :
    MetFree l x (head1 (Jvm.Cond.code x code maxLocals ret :: ws) room_1) (fun a U => a = #[(.long va), (.int ra), (.int rb), (.int rx), (.int se)] ∧ Z.Warmed39 U.vm ∧ U.heap = h0 ∧ CHv Z EL1 U.vm h0) (fun _ _ _ _ _ => True) (fun _ U o U' => ∃ v L, o = .returned v ∧ Q0 Z va ra rb rx se cs fmv em h0 n0 v U'.heap L ∧ CHr Z EL1 U.vm U.heap U'.vm U'.heap ∧ ReturnedEndW U o U' L room_1.cells room_1.slots) := by
  refine MetFree.of_bodySF (plainFor_of_name pn_0) hisR ?_
  intro p e s m args below meth c s₁ Bd hml0 hP hK
  obtain ⟨rfl, hZ, hh, CH0⟩ := hP
  have hx := Bd.exec
  have hby := Bd.bytes
  have hml : c.maxLocals = 27 := hml0
  have hown : s.vm.findClass "com/example/relent/relent/WholeNumbersUnsignedPinLaw" = some m.cls := findClass_of_methodNamed Bd.named
  have hnm := (name_of_methodNamed Bd.named Bd.method).1
  have X0 : Stand p l e room_1 (s.setVm s.vm) m #[(.long va), (.int ra), (.int rb), (.int rx), (.int se)] below meth c s₁ [] 0 0 := Stand.of_body Bd
  have e0 : s₁.heap = h0 := by rw [← hh, Bd.state]; rfl
  have N0 := Fr.nil n0
  have pre0 : ∀ t, Steps p.tables e below (s₁.setTop (mkF m 0 #[.val (.long va), .second, .val (.int ra), .val (.int rb), .val (.int rx), .val (.int se), .unset, .unset, .unset, .unset, .unset, .unset, .unset, .unset, .unset, .unset, .unset, .unset, .unset, .unset, .unset, .unset, .unset, .unset, .unset, .unset, .unset] [])) t → Steps p.tables e below (s₁.setTop (entryFrame m #[(.long va), (.int ra), (.int rb), (.int rx), (.int se)] maxLocals)) t := fun t k => castTop (ef_0 m va ra rb rx se) k
  have hS : s.Since s.vm 0 := (State.WarmedH.refl s).since 0
  have hk : 0 ≤ h0.size := Nat.zero_le _
  have hEL : EW Z a0 EL1 := own_EW hw
  have hwS := own_wS hw
  have pre1 : ∀ t, Steps p.tables e below (s₁.setTop (mkF m 8 #[.val (.long va), .second, .val (.int ra), .val (.int rb), .val (.int rx), .val (.int se), .unset, .unset, .unset, .unset, .unset, .unset, .unset, .unset, .unset, .unset, .unset, .unset, .unset, .unset, .unset, .unset, .unset, .unset, .unset, .unset, .unset] [(.int ((se &&& (31 : Int32)) % (21 : Int32)))])) t → Steps p.tables e below (s₁.setTop (entryFrame m #[(.long va), (.int ra), (.int rb), (.int rx), (.int se)] maxLocals)) t := by
    intro t kt
    refine pre0 _ ?_
    refine XS.iload X0.here hx rfl (hb hby at_0) rfl ?_
    refine XS.bipush X0.here hx rfl (hb hby at_2) ?_
    refine XS.iand X0.here hx rfl (hb hby at_4) rfl ?_
    show Steps p.tables e below (s₁.setTop (mkF m 5 #[.val (.long va), .second, .val (.int ra), .val (.int rb), .val (.int rx), .val (.int se), .unset, .unset, .unset, .unset, .unset, .unset, .unset, .unset, .unset, .unset, .unset, .unset, .unset, .unset, .unset, .unset, .unset, .unset, .unset, .unset, .unset] [(.int (se &&& (31 : Int32)))])) _
    refine XS.bipush X0.here hx rfl (hb hby at_5) ?_
    show Steps p.tables e below (s₁.setTop (mkF m 7 #[.val (.long va), .second, .val (.int ra), .val (.int rb), .val (.int rx), .val (.int se), .unset, .unset, .unset, .unset, .unset, .unset, .unset, .unset, .unset, .unset, .unset, .unset, .unset, .unset, .unset, .unset, .unset, .unset, .unset, .unset, .unset] [(.int (21 : Int32)), (.int (se &&& (31 : Int32)))])) _
    refine iremM (g := (mkF m 7 #[.val (.long va), .second, .val (.int ra), .val (.int rb), .val (.int rx), .val (.int se), .unset, .unset, .unset, .unset, .unset, .unset, .unset, .unset, .unset, .unset, .unset, .unset, .unset, .unset, .unset, .unset, .unset, .unset, .unset, .unset, .unset] [(.int (21 : Int32)), (.int (se &&& (31 : Int32)))])) X0 hx rfl (hb hby at_7) rfl (by decide) ?_
    exact kt
  obtain ⟨ln, h_ln⟩ : ∃ z : Int32, z = ((se &&& (31 : Int32)) % (21 : Int32)) := ⟨_, rfl⟩
  have pre2 : ∀ t, Steps p.tables e below (s₁.setTop (mkF m 8 #[.val (.long va), .second, .val (.int ra), .val (.int rb), .val (.int rx), .val (.int se), .unset, .unset, .unset, .unset, .unset, .unset, .unset, .unset, .unset, .unset, .unset, .unset, .unset, .unset, .unset, .unset, .unset, .unset, .unset, .unset, .unset] [(.int ln)])) t → Steps p.tables e below (s₁.setTop (entryFrame m #[(.long va), (.int ra), (.int rb), (.int rx), (.int se)] maxLocals)) t := by
    intro t kt
    rw [h_ln] at kt
    exact pre1 _ kt
  obtain ⟨nn, hln, hn20⟩ := own_len se ln h_ln
  have pre3 : ∀ t, Steps p.tables e below (s₁.setTop (mkF m 16 #[.val (.long va), .second, .val (.int ra), .val (.int rb), .val (.int rx), .val (.int se), .val (.int ln), .unset, .unset, .unset, .unset, .unset, .unset, .unset, .unset, .unset, .unset, .unset, .unset, .unset, .unset, .unset, .unset, .unset, .unset, .unset, .unset] [(.int (((se.toUInt32 >>> ((5 : Int32) &&& 31).toUInt32).toInt32) &&& (1 : Int32)))])) t → Steps p.tables e below (s₁.setTop (entryFrame m #[(.long va), (.int ra), (.int rb), (.int rx), (.int se)] maxLocals)) t := by
    intro t kt
    refine pre2 _ ?_
    refine XS.istore X0.here hx rfl (hb hby at_8) rfl (l' := #[.val (.long va), .second, .val (.int ra), .val (.int rb), .val (.int rx), .val (.int se), .val (.int ln), .unset, .unset, .unset, .unset, .unset, .unset, .unset, .unset, .unset, .unset, .unset, .unset, .unset, .unset, .unset, .unset, .unset, .unset, .unset, .unset]) rfl ?_
    refine XS.iload X0.here hx rfl (hb hby at_10) rfl ?_
    refine XS.iconst X0.here hx rfl (hb hby at_12) ?_
    show Steps p.tables e below (s₁.setTop (mkF m 13 #[.val (.long va), .second, .val (.int ra), .val (.int rb), .val (.int rx), .val (.int se), .val (.int ln), .unset, .unset, .unset, .unset, .unset, .unset, .unset, .unset, .unset, .unset, .unset, .unset, .unset, .unset, .unset, .unset, .unset, .unset, .unset, .unset] [(.int (5 : Int32)), (.int se)])) _
    refine XS.iushr X0.here hx rfl (hb hby at_13) rfl ?_
    refine XS.iconst X0.here hx rfl (hb hby at_14) ?_
    refine XS.iand X0.here hx rfl (hb hby at_15) rfl ?_
    exact kt
  obtain ⟨ub, h_ub⟩ : ∃ z : Int32, z = (if (((se.toUInt32 >>> ((5 : Int32) &&& 31).toUInt32).toInt32) &&& (1 : Int32)) = (0 : Int32) then (0 : Int32) else (if ln < (3 : Int32) then (0 : Int32) else (1 : Int32))) := ⟨_, rfl⟩
  have pre6 : ∀ t, Steps p.tables e below (s₁.setTop (mkF m 30 #[.val (.long va), .second, .val (.int ra), .val (.int rb), .val (.int rx), .val (.int se), .val (.int ln), .unset, .unset, .unset, .unset, .unset, .unset, .unset, .unset, .unset, .unset, .unset, .unset, .unset, .unset, .unset, .unset, .unset, .unset, .unset, .unset] [(.int ub)])) t → Steps p.tables e below (s₁.setTop (entryFrame m #[(.long va), (.int ra), (.int rb), (.int rx), (.int se)] maxLocals)) t := by
    intro t kt
    refine pre3 _ ?_
    by_cases hc16_4 : (((se.toUInt32 >>> ((5 : Int32) &&& 31).toUInt32).toInt32) &&& (1 : Int32)) = (0 : Int32)
    · skip
      have q_ub : ub = (0 : Int32) := by rw [h_ub, if_pos hc16_4]
      rw [q_ub] at kt
      show Steps p.tables e below (s₁.setTop (mkF m 16 #[.val (.long va), .second, .val (.int ra), .val (.int rb), .val (.int rx), .val (.int se), .val (.int ln), .unset, .unset, .unset, .unset, .unset, .unset, .unset, .unset, .unset, .unset, .unset, .unset, .unset, .unset, .unset, .unset, .unset, .unset, .unset, .unset] [(.int (((se.toUInt32 >>> ((5 : Int32) &&& 31).toUInt32).toInt32) &&& (1 : Int32)))])) _
      refine XS.ifYes X0.here hx rfl (pc0 := 16) (pc' := 29) rfl (hb hby at_16) rfl (XT.i0_eq_t hc16_4) (by decide) (by decide) ?_
      refine XS.iconst X0.here hx rfl (hb hby at_29) ?_
      exact kt
    · skip
      show Steps p.tables e below (s₁.setTop (mkF m 16 #[.val (.long va), .second, .val (.int ra), .val (.int rb), .val (.int rx), .val (.int se), .val (.int ln), .unset, .unset, .unset, .unset, .unset, .unset, .unset, .unset, .unset, .unset, .unset, .unset, .unset, .unset, .unset, .unset, .unset, .unset, .unset, .unset] [(.int (((se.toUInt32 >>> ((5 : Int32) &&& 31).toUInt32).toInt32) &&& (1 : Int32)))])) _
      refine XS.ifNo X0.here hx rfl (hb hby at_16) rfl (XT.i0_eq_f hc16_4) ?_
      refine XS.iload X0.here hx rfl (hb hby at_19) rfl ?_
      show Steps p.tables e below (s₁.setTop (mkF m 21 #[.val (.long va), .second, .val (.int ra), .val (.int rb), .val (.int rx), .val (.int se), .val (.int ln), .unset, .unset, .unset, .unset, .unset, .unset, .unset, .unset, .unset, .unset, .unset, .unset, .unset, .unset, .unset, .unset, .unset, .unset, .unset, .unset] [(.int ln)])) _
      refine XS.iconst X0.here hx rfl (hb hby at_21) ?_
      by_cases hc22_5 : ln < (3 : Int32)
      · skip
        have q_ub : ub = (0 : Int32) := by rw [h_ub, if_neg hc16_4, if_pos hc22_5]
        rw [q_ub] at kt
        show Steps p.tables e below (s₁.setTop (mkF m 22 #[.val (.long va), .second, .val (.int ra), .val (.int rb), .val (.int rx), .val (.int se), .val (.int ln), .unset, .unset, .unset, .unset, .unset, .unset, .unset, .unset, .unset, .unset, .unset, .unset, .unset, .unset, .unset, .unset, .unset, .unset, .unset, .unset] [(.int (3 : Int32)), (.int ln)])) _
        refine XS.icmpYes X0.here hx rfl (pc0 := 22) (pc' := 29) rfl (hb hby at_22) rfl (XT.ii_lt_t hc22_5) (by decide) (by decide) ?_
        refine XS.iconst X0.here hx rfl (hb hby at_29) ?_
        exact kt
      · skip
        have q_ub : ub = (1 : Int32) := by rw [h_ub, if_neg hc16_4, if_neg hc22_5]
        rw [q_ub] at kt
        show Steps p.tables e below (s₁.setTop (mkF m 22 #[.val (.long va), .second, .val (.int ra), .val (.int rb), .val (.int rx), .val (.int se), .val (.int ln), .unset, .unset, .unset, .unset, .unset, .unset, .unset, .unset, .unset, .unset, .unset, .unset, .unset, .unset, .unset, .unset, .unset, .unset, .unset, .unset] [(.int (3 : Int32)), (.int ln)])) _
        refine XS.icmpNo X0.here hx rfl (hb hby at_22) rfl (XT.ii_lt_f hc22_5) ?_
        refine XS.iconst X0.here hx rfl (hb hby at_25) ?_
        refine XS.goto X0.here hx rfl (pc0 := 26) (pc' := 30) rfl (hb hby at_26) (by decide) (by decide) ?_
        exact kt
  have pre7 : ∀ t, Steps p.tables e below (s₁.setTop (mkF m 34 #[.val (.long va), .second, .val (.int ra), .val (.int rb), .val (.int rx), .val (.int se), .val (.int ln), .val (.int ub), .unset, .unset, .unset, .unset, .unset, .unset, .unset, .unset, .unset, .unset, .unset, .unset, .unset, .unset, .unset, .unset, .unset, .unset, .unset] [(.int ub)])) t → Steps p.tables e below (s₁.setTop (entryFrame m #[(.long va), (.int ra), (.int rb), (.int rx), (.int se)] maxLocals)) t := by
    intro t kt
    refine pre6 _ ?_
    refine XS.istore X0.here hx rfl (hb hby at_30) rfl (l' := #[.val (.long va), .second, .val (.int ra), .val (.int rb), .val (.int rx), .val (.int se), .val (.int ln), .val (.int ub), .unset, .unset, .unset, .unset, .unset, .unset, .unset, .unset, .unset, .unset, .unset, .unset, .unset, .unset, .unset, .unset, .unset, .unset, .unset]) rfl ?_
    refine XS.iload X0.here hx rfl (hb hby at_32) rfl ?_
    exact kt
  obtain ⟨qq, h_qq⟩ : ∃ z : Int32, z = (if ub = (0 : Int32) then (-1 : Int32) else ((1 : Int32) + ((((se.toUInt32 >>> ((6 : Int32) &&& 31).toUInt32).toInt32) &&& (1023 : Int32)) % (ln - (2 : Int32))))) := ⟨_, rfl⟩
  have pre9 : ∀ t, Steps p.tables e below (s₁.setTop (mkF m 57 #[.val (.long va), .second, .val (.int ra), .val (.int rb), .val (.int rx), .val (.int se), .val (.int ln), .val (.int ub), .unset, .unset, .unset, .unset, .unset, .unset, .unset, .unset, .unset, .unset, .unset, .unset, .unset, .unset, .unset, .unset, .unset, .unset, .unset] [(.int qq)])) t → Steps p.tables e below (s₁.setTop (entryFrame m #[(.long va), (.int ra), (.int rb), (.int rx), (.int se)] maxLocals)) t := by
    intro t kt
    refine pre7 _ ?_
    by_cases hc34_8 : ub = (0 : Int32)
    · skip
      have q_qq : qq = (-1 : Int32) := by rw [h_qq, if_pos hc34_8]
      rw [q_qq] at kt
      show Steps p.tables e below (s₁.setTop (mkF m 34 #[.val (.long va), .second, .val (.int ra), .val (.int rb), .val (.int rx), .val (.int se), .val (.int ln), .val (.int ub), .unset, .unset, .unset, .unset, .unset, .unset, .unset, .unset, .unset, .unset, .unset, .unset, .unset, .unset, .unset, .unset, .unset, .unset, .unset] [(.int ub)])) _
      refine XS.ifYes X0.here hx rfl (pc0 := 34) (pc' := 56) rfl (hb hby at_34) rfl (XT.i0_eq_t hc34_8) (by decide) (by decide) ?_
      refine XS.iconst X0.here hx rfl (hb hby at_56) ?_
      exact kt
    · skip
      have q_qq : qq = ((1 : Int32) + ((((se.toUInt32 >>> ((6 : Int32) &&& 31).toUInt32).toInt32) &&& (1023 : Int32)) % (ln - (2 : Int32)))) := by rw [h_qq, if_neg hc34_8]
      rw [q_qq] at kt
      show Steps p.tables e below (s₁.setTop (mkF m 34 #[.val (.long va), .second, .val (.int ra), .val (.int rb), .val (.int rx), .val (.int se), .val (.int ln), .val (.int ub), .unset, .unset, .unset, .unset, .unset, .unset, .unset, .unset, .unset, .unset, .unset, .unset, .unset, .unset, .unset, .unset, .unset, .unset, .unset] [(.int ub)])) _
      refine XS.ifNo X0.here hx rfl (hb hby at_34) rfl (XT.i0_eq_f hc34_8) ?_
      refine XS.iconst X0.here hx rfl (hb hby at_37) ?_
      show Steps p.tables e below (s₁.setTop (mkF m 38 #[.val (.long va), .second, .val (.int ra), .val (.int rb), .val (.int rx), .val (.int se), .val (.int ln), .val (.int ub), .unset, .unset, .unset, .unset, .unset, .unset, .unset, .unset, .unset, .unset, .unset, .unset, .unset, .unset, .unset, .unset, .unset, .unset, .unset] [(.int (1 : Int32))])) _
      refine XS.iload X0.here hx rfl (hb hby at_38) rfl ?_
      refine XS.bipush X0.here hx rfl (hb hby at_40) ?_
      refine XS.iushr X0.here hx rfl (hb hby at_42) rfl ?_
      refine XS.sipush X0.here hx rfl (hb hby at_43) ?_
      show Steps p.tables e below (s₁.setTop (mkF m 46 #[.val (.long va), .second, .val (.int ra), .val (.int rb), .val (.int rx), .val (.int se), .val (.int ln), .val (.int ub), .unset, .unset, .unset, .unset, .unset, .unset, .unset, .unset, .unset, .unset, .unset, .unset, .unset, .unset, .unset, .unset, .unset, .unset, .unset] [(.int (1023 : Int32)), (.int ((se.toUInt32 >>> ((6 : Int32) &&& 31).toUInt32).toInt32)), (.int (1 : Int32))])) _
      refine XS.iand X0.here hx rfl (hb hby at_46) rfl ?_
      refine XS.iload X0.here hx rfl (hb hby at_47) rfl ?_
      refine XS.iconst X0.here hx rfl (hb hby at_49) ?_
      refine XS.isub X0.here hx rfl (hb hby at_50) rfl ?_
      show Steps p.tables e below (s₁.setTop (mkF m 51 #[.val (.long va), .second, .val (.int ra), .val (.int rb), .val (.int rx), .val (.int se), .val (.int ln), .val (.int ub), .unset, .unset, .unset, .unset, .unset, .unset, .unset, .unset, .unset, .unset, .unset, .unset, .unset, .unset, .unset, .unset, .unset, .unset, .unset] [(.int (ln - (2 : Int32))), (.int (((se.toUInt32 >>> ((6 : Int32) &&& 31).toUInt32).toInt32) &&& (1023 : Int32))), (.int (1 : Int32))])) _
      refine iremM (g := (mkF m 51 #[.val (.long va), .second, .val (.int ra), .val (.int rb), .val (.int rx), .val (.int se), .val (.int ln), .val (.int ub), .unset, .unset, .unset, .unset, .unset, .unset, .unset, .unset, .unset, .unset, .unset, .unset, .unset, .unset, .unset, .unset, .unset, .unset, .unset] [(.int (ln - (2 : Int32))), (.int (((se.toUInt32 >>> ((6 : Int32) &&& 31).toUInt32).toInt32) &&& (1023 : Int32))), (.int (1 : Int32))])) X0 hx rfl (hb hby at_51) rfl (own_nz hln hn20 (own_ub3 hln h_ub hc34_8)) ?_
      refine XS.iadd X0.here hx rfl (hb hby at_52) rfl ?_
      refine XS.goto X0.here hx rfl (pc0 := 53) (pc' := 57) rfl (hb hby at_53) (by decide) (by decide) ?_
      exact kt
  have pre10 : ∀ t, Steps p.tables e below (s₁.setTop (mkF m 59 #[.val (.long va), .second, .val (.int ra), .val (.int rb), .val (.int rx), .val (.int se), .val (.int ln), .val (.int ub), .val (.int qq), .unset, .unset, .unset, .unset, .unset, .unset, .unset, .unset, .unset, .unset, .unset, .unset, .unset, .unset, .unset, .unset, .unset, .unset] [])) t → Steps p.tables e below (s₁.setTop (entryFrame m #[(.long va), (.int ra), (.int rb), (.int rx), (.int se)] maxLocals)) t := by
    intro t kt
    refine pre9 _ ?_
    refine XS.istore X0.here hx rfl (hb hby at_57) rfl (l' := #[.val (.long va), .second, .val (.int ra), .val (.int rb), .val (.int rx), .val (.int se), .val (.int ln), .val (.int ub), .val (.int qq), .unset, .unset, .unset, .unset, .unset, .unset, .unset, .unset, .unset, .unset, .unset, .unset, .unset, .unset, .unset, .unset, .unset, .unset]) rfl ?_
    exact kt
  have hub := fun h => own_ub3 hln h_ub h
  have hQ : own_Q nn ub qq := ⟨hub, own_qq hln hn20 hub h_qq⟩
  obtain ⟨_, _, ⟨T11, L11, k11, n11⟩, -, X11, ⟨Lc11, hQ11, l11, y11, z11⟩, st11⟩ := Jvm.LawKit.callS X0 hx (y := (⟨"com/example/relent/relent/WholeNumbersUnsignedPinLaw", "draw", "(I)C"⟩ : MethodName)) hown (mvT hZ (hw _ (List.mem_of_getElem? (i := 0) rfl))) (mvT hZ (hw _ (List.mem_of_getElem? (i := 1) rfl))) (mvT hZ (hw _ (List.mem_of_getElem? (i := 2) rfl))) (mvT hZ (hw _ (List.mem_of_getElem? (i := 3) rfl))) (by decide) (backOf (W := 0) (rm1 l Z a0 hw [] ra h0 n0 Z0) hZ (hw _ (List.mem_of_getElem? (i := 3) rfl)) (hw _ (List.mem_of_getElem? (i := 2) rfl)) (by decide) (by decide)) (g := (mkF m 60 #[.val (.long va), .second, .val (.int ra), .val (.int rb), .val (.int rx), .val (.int se), .val (.int ln), .val (.int ub), .val (.int qq), .unset, .unset, .unset, .unset, .unset, .unset, .unset, .unset, .unset, .unset, .unset, .unset, .unset, .unset, .unset, .unset, .unset, .unset] [(.int ra)])) rfl (by rw [hml]; rfl) (argsL := [(.int ra)]) (rest := []) (lenOf pd_12 rfl) rfl (by show 2 * 0 + _ ≤ _; exact Nat.le_of_eq rfl) (hb hby at_60) (fun _ _ => ⟨rfl, e0, (by decide : 0 + 0 ≤ _), (by decide : 0 + 0 ≤ _)⟩)
  dsimp only [Pt.U, Pt.locs, Pt.cells, Pt.slots] at X11 l11 y11 z11 st11 hQ11
  subst l11 y11 z11
  obtain ⟨rfl, N11q, hE11⟩ := hQ11
  have N11 := Fr.app N0 N11q
  have pre12 : ∀ t, Steps p.tables e below (T11.setTop (mkF m 63 #[.val (.long va), .second, .val (.int ra), .val (.int rb), .val (.int rx), .val (.int se), .val (.int ln), .val (.int ub), .val (.int qq), .unset, .unset, .unset, .unset, .unset, .unset, .unset, .unset, .unset, .unset, .unset, .unset, .unset, .unset, .unset, .unset, .unset, .unset] [(.int (fn1 ra))])) t → Steps p.tables e below (s₁.setTop (entryFrame m #[(.long va), (.int ra), (.int rb), (.int rx), (.int se)] maxLocals)) t := by
    intro t kt
    refine pre10 _ ?_
    refine XS.iloadN X0.here hx rfl (hb hby at_59) rfl ?_
    show Steps p.tables e below (s₁.setTop (mkF m 60 #[.val (.long va), .second, .val (.int ra), .val (.int rb), .val (.int rx), .val (.int se), .val (.int ln), .val (.int ub), .val (.int qq), .unset, .unset, .unset, .unset, .unset, .unset, .unset, .unset, .unset, .unset, .unset, .unset, .unset, .unset, .unset, .unset, .unset, .unset] [(.int ra)])) _
    refine st11 _ ?_
    exact kt
  obtain ⟨ca, h_ca⟩ : ∃ z : Int32, z = (fn1 ra) := ⟨_, rfl⟩
  have pre13 : ∀ t, Steps p.tables e below (T11.setTop (mkF m 63 #[.val (.long va), .second, .val (.int ra), .val (.int rb), .val (.int rx), .val (.int se), .val (.int ln), .val (.int ub), .val (.int qq), .unset, .unset, .unset, .unset, .unset, .unset, .unset, .unset, .unset, .unset, .unset, .unset, .unset, .unset, .unset, .unset, .unset, .unset] [(.int ca)])) t → Steps p.tables e below (s₁.setTop (entryFrame m #[(.long va), (.int ra), (.int rb), (.int rx), (.int se)] maxLocals)) t := by
    intro t kt
    rw [h_ca] at kt
    exact pre12 _ kt
  obtain ⟨_, _, ⟨T14, L14, k14, n14⟩, -, X14, ⟨Lc14, hQ14, l14, y14, z14⟩, st14⟩ := Jvm.LawKit.callS X11 hx (y := (⟨"com/example/relent/relent/WholeNumbersUnsignedPinLaw", "draw", "(I)C"⟩ : MethodName)) hown (mvT hZ (hw _ (List.mem_of_getElem? (i := 0) rfl))) (mvT hZ (hw _ (List.mem_of_getElem? (i := 1) rfl))) (mvT hZ (hw _ (List.mem_of_getElem? (i := 2) rfl))) (mvT hZ (hw _ (List.mem_of_getElem? (i := 3) rfl))) (by decide) (backOf (W := 0) (rm1 l Z a0 hw [] rb h0 n0 Z0) hZ (hw _ (List.mem_of_getElem? (i := 3) rfl)) (hw _ (List.mem_of_getElem? (i := 2) rfl)) (by decide) (by decide)) (g := (mkF m 66 #[.val (.long va), .second, .val (.int ra), .val (.int rb), .val (.int rx), .val (.int se), .val (.int ln), .val (.int ub), .val (.int qq), .val (.int ca), .unset, .unset, .unset, .unset, .unset, .unset, .unset, .unset, .unset, .unset, .unset, .unset, .unset, .unset, .unset, .unset, .unset] [(.int rb)])) rfl (by rw [hml]; rfl) (argsL := [(.int rb)]) (rest := []) (lenOf pd_12 rfl) rfl (by show 2 * 0 + _ ≤ _; exact Nat.le_of_eq rfl) (hb hby at_66) (fun _ _ => ⟨rfl, hE11, (by decide : 0 + 0 ≤ _), (by decide : 0 + 0 ≤ _)⟩)
  dsimp only [Pt.U, Pt.locs, Pt.cells, Pt.slots] at X14 l14 y14 z14 st14 hQ14
  subst l14 y14 z14
  obtain ⟨rfl, N14q, hE14⟩ := hQ14
  have N14 := Fr.app N11 N14q
  have pre15 : ∀ t, Steps p.tables e below (T14.setTop (mkF m 69 #[.val (.long va), .second, .val (.int ra), .val (.int rb), .val (.int rx), .val (.int se), .val (.int ln), .val (.int ub), .val (.int qq), .val (.int ca), .unset, .unset, .unset, .unset, .unset, .unset, .unset, .unset, .unset, .unset, .unset, .unset, .unset, .unset, .unset, .unset, .unset] [(.int (fn1 rb))])) t → Steps p.tables e below (s₁.setTop (entryFrame m #[(.long va), (.int ra), (.int rb), (.int rx), (.int se)] maxLocals)) t := by
    intro t kt
    refine pre13 _ ?_
    refine XS.istore X11.here hx rfl (hb hby at_63) rfl (l' := #[.val (.long va), .second, .val (.int ra), .val (.int rb), .val (.int rx), .val (.int se), .val (.int ln), .val (.int ub), .val (.int qq), .val (.int ca), .unset, .unset, .unset, .unset, .unset, .unset, .unset, .unset, .unset, .unset, .unset, .unset, .unset, .unset, .unset, .unset, .unset]) rfl ?_
    refine XS.iloadN X11.here hx rfl (hb hby at_65) rfl ?_
    show Steps p.tables e below (T11.setTop (mkF m 66 #[.val (.long va), .second, .val (.int ra), .val (.int rb), .val (.int rx), .val (.int se), .val (.int ln), .val (.int ub), .val (.int qq), .val (.int ca), .unset, .unset, .unset, .unset, .unset, .unset, .unset, .unset, .unset, .unset, .unset, .unset, .unset, .unset, .unset, .unset, .unset] [(.int rb)])) _
    refine st14 _ ?_
    exact kt
  obtain ⟨cb, h_cb⟩ : ∃ z : Int32, z = (fn1 rb) := ⟨_, rfl⟩
  have pre16 : ∀ t, Steps p.tables e below (T14.setTop (mkF m 69 #[.val (.long va), .second, .val (.int ra), .val (.int rb), .val (.int rx), .val (.int se), .val (.int ln), .val (.int ub), .val (.int qq), .val (.int ca), .unset, .unset, .unset, .unset, .unset, .unset, .unset, .unset, .unset, .unset, .unset, .unset, .unset, .unset, .unset, .unset, .unset] [(.int cb)])) t → Steps p.tables e below (s₁.setTop (entryFrame m #[(.long va), (.int ra), (.int rb), (.int rx), (.int se)] maxLocals)) t := by
    intro t kt
    rw [h_cb] at kt
    exact pre15 _ kt
  obtain ⟨_, _, ⟨T17, L17, k17, n17⟩, -, X17, ⟨Lc17, hQ17, l17, y17, z17⟩, st17⟩ := Jvm.LawKit.callS X14 hx (y := (⟨"com/example/relent/relent/WholeNumbersUnsignedPinLaw", "draw", "(I)C"⟩ : MethodName)) hown (mvT hZ (hw _ (List.mem_of_getElem? (i := 0) rfl))) (mvT hZ (hw _ (List.mem_of_getElem? (i := 1) rfl))) (mvT hZ (hw _ (List.mem_of_getElem? (i := 2) rfl))) (mvT hZ (hw _ (List.mem_of_getElem? (i := 3) rfl))) (by decide) (backOf (W := 0) (rm1 l Z a0 hw [] rx h0 n0 Z0) hZ (hw _ (List.mem_of_getElem? (i := 3) rfl)) (hw _ (List.mem_of_getElem? (i := 2) rfl)) (by decide) (by decide)) (g := (mkF m 73 #[.val (.long va), .second, .val (.int ra), .val (.int rb), .val (.int rx), .val (.int se), .val (.int ln), .val (.int ub), .val (.int qq), .val (.int ca), .val (.int cb), .unset, .unset, .unset, .unset, .unset, .unset, .unset, .unset, .unset, .unset, .unset, .unset, .unset, .unset, .unset, .unset] [(.int rx)])) rfl (by rw [hml]; rfl) (argsL := [(.int rx)]) (rest := []) (lenOf pd_12 rfl) rfl (by show 2 * 0 + _ ≤ _; exact Nat.le_of_eq rfl) (hb hby at_73) (fun _ _ => ⟨rfl, hE14, (by decide : 0 + 0 ≤ _), (by decide : 0 + 0 ≤ _)⟩)
  dsimp only [Pt.U, Pt.locs, Pt.cells, Pt.slots] at X17 l17 y17 z17 st17 hQ17
  subst l17 y17 z17
  obtain ⟨rfl, N17q, hE17⟩ := hQ17
  have N17 := Fr.app N14 N17q
  have pre18 : ∀ t, Steps p.tables e below (T17.setTop (mkF m 76 #[.val (.long va), .second, .val (.int ra), .val (.int rb), .val (.int rx), .val (.int se), .val (.int ln), .val (.int ub), .val (.int qq), .val (.int ca), .val (.int cb), .unset, .unset, .unset, .unset, .unset, .unset, .unset, .unset, .unset, .unset, .unset, .unset, .unset, .unset, .unset, .unset] [(.int (fn1 rx))])) t → Steps p.tables e below (s₁.setTop (entryFrame m #[(.long va), (.int ra), (.int rb), (.int rx), (.int se)] maxLocals)) t := by
    intro t kt
    refine pre16 _ ?_
    refine XS.istore X14.here hx rfl (hb hby at_69) rfl (l' := #[.val (.long va), .second, .val (.int ra), .val (.int rb), .val (.int rx), .val (.int se), .val (.int ln), .val (.int ub), .val (.int qq), .val (.int ca), .val (.int cb), .unset, .unset, .unset, .unset, .unset, .unset, .unset, .unset, .unset, .unset, .unset, .unset, .unset, .unset, .unset, .unset]) rfl ?_
    refine XS.iload X14.here hx rfl (hb hby at_71) rfl ?_
    show Steps p.tables e below (T14.setTop (mkF m 73 #[.val (.long va), .second, .val (.int ra), .val (.int rb), .val (.int rx), .val (.int se), .val (.int ln), .val (.int ub), .val (.int qq), .val (.int ca), .val (.int cb), .unset, .unset, .unset, .unset, .unset, .unset, .unset, .unset, .unset, .unset, .unset, .unset, .unset, .unset, .unset, .unset] [(.int rx)])) _
    refine st17 _ ?_
    exact kt
  obtain ⟨cx, h_cx⟩ : ∃ z : Int32, z = (fn1 rx) := ⟨_, rfl⟩
  have pre19 : ∀ t, Steps p.tables e below (T17.setTop (mkF m 76 #[.val (.long va), .second, .val (.int ra), .val (.int rb), .val (.int rx), .val (.int se), .val (.int ln), .val (.int ub), .val (.int qq), .val (.int ca), .val (.int cb), .unset, .unset, .unset, .unset, .unset, .unset, .unset, .unset, .unset, .unset, .unset, .unset, .unset, .unset, .unset, .unset] [(.int cx)])) t → Steps p.tables e below (s₁.setTop (entryFrame m #[(.long va), (.int ra), (.int rb), (.int rx), (.int se)] maxLocals)) t := by
    intro t kt
    rw [h_cx] at kt
    exact pre18 _ kt
  have pre20 : ∀ t, Steps p.tables e below (T17.setTop (mkF m 81 #[.val (.long va), .second, .val (.int ra), .val (.int rb), .val (.int rx), .val (.int se), .val (.int ln), .val (.int ub), .val (.int qq), .val (.int ca), .val (.int cb), .val (.int cx), .unset, .unset, .unset, .unset, .unset, .unset, .unset, .unset, .unset, .unset, .unset, .unset, .unset, .unset, .unset] [(.int (2 : Int32)), (.int ln)])) t → Steps p.tables e below (s₁.setTop (entryFrame m #[(.long va), (.int ra), (.int rb), (.int rx), (.int se)] maxLocals)) t := by
    intro t kt
    refine pre19 _ ?_
    refine XS.istore X17.here hx rfl (hb hby at_76) rfl (l' := #[.val (.long va), .second, .val (.int ra), .val (.int rb), .val (.int rx), .val (.int se), .val (.int ln), .val (.int ub), .val (.int qq), .val (.int ca), .val (.int cb), .val (.int cx), .unset, .unset, .unset, .unset, .unset, .unset, .unset, .unset, .unset, .unset, .unset, .unset, .unset, .unset, .unset]) rfl ?_
    refine XS.iload X17.here hx rfl (hb hby at_78) rfl ?_
    refine XS.iconst X17.here hx rfl (hb hby at_80) ?_
    exact kt
  obtain ⟨T21, L21, mm, X21, N21, Z21, K21, KK21, hf21_0, hp21_0, pre21⟩ : ∃ (T21 : State) (L21 : List Loc) (mm : Int64), Stand p l e room_1 (s.setVm s.vm) m #[(.long va), (.int ra), (.int rb), (.int rx), (.int se)] below meth c T21 L21 1 19 ∧ Fr n0 L21 ∧ n0 ≤ T21.heap.size ∧ Keep h0 T21.heap [] ∧ Keep h0 T21.heap [] ∧ Old Z n0 T21.heap ∧ own_M nn mm ∧ ∀ t, Steps p.tables e below (T21.setTop (mkF m 101 #[.val (.long va), .second, .val (.int ra), .val (.int rb), .val (.int rx), .val (.int se), .val (.int ln), .val (.int ub), .val (.int qq), .val (.int ca), .val (.int cb), .val (.int cx), .unset, .unset, .unset, .unset, .unset, .unset, .unset, .unset, .unset, .unset, .unset, .unset, .unset, .unset, .unset] [(.long mm)])) t → Steps p.tables e below (s₁.setTop (entryFrame m #[(.long va), (.int ra), (.int rb), (.int rx), (.int se)] maxLocals)) t := by
    by_cases hc81_22 : ln < (2 : Int32)
    · skip
      have pre23 : ∀ t, Steps p.tables e below (T17.setTop (mkF m 101 #[.val (.long va), .second, .val (.int ra), .val (.int rb), .val (.int rx), .val (.int se), .val (.int ln), .val (.int ub), .val (.int qq), .val (.int ca), .val (.int cb), .val (.int cx), .unset, .unset, .unset, .unset, .unset, .unset, .unset, .unset, .unset, .unset, .unset, .unset, .unset, .unset, .unset] [(.long (0 : Int64))])) t → Steps p.tables e below (s₁.setTop (entryFrame m #[(.long va), (.int ra), (.int rb), (.int rx), (.int se)] maxLocals)) t := by
        intro t kt
        refine pre20 _ ?_
        show Steps p.tables e below (T17.setTop (mkF m 81 #[.val (.long va), .second, .val (.int ra), .val (.int rb), .val (.int rx), .val (.int se), .val (.int ln), .val (.int ub), .val (.int qq), .val (.int ca), .val (.int cb), .val (.int cx), .unset, .unset, .unset, .unset, .unset, .unset, .unset, .unset, .unset, .unset, .unset, .unset, .unset, .unset, .unset] [(.int (2 : Int32)), (.int ln)])) _
        refine XS.icmpYes X17.here hx rfl (pc0 := 81) (pc' := 100) rfl (hb hby at_81) rfl (XT.ii_lt_t hc81_22) (by decide) (by decide) ?_
        refine XS.lconst X17.here hx rfl (hb hby at_100) ?_
        exact kt
      have eJ : T17.heap = h0 := hE17
      exact ⟨T17, _, (0 : Int64), X17.mono (by decide) (by decide), N17, (by rw [eJ]; exact Z0), (by rw [eJ]; exact (Keep.refl h0 [])), (by rw [eJ]; exact (Keep.refl h0 [])), (by rw [eJ]; exact O0), (own_M0 hln hc81_22), fun t kt => pre23 _ kt⟩
    · skip
      obtain ⟨_, _, ⟨T24, L24, k24, n24⟩, -, X24, ⟨Lc24, hQ24, l24, y24, z24⟩, st24⟩ := Jvm.LawKit.callS X17 hx (y := (⟨"com/example/relent/relent/WholeNumbersUnsignedPinLaw", "pow10", "(I)J"⟩ : MethodName)) hown (mvT hZ (hw _ (List.mem_of_getElem? (i := 5) rfl))) (mvT hZ (hw _ (List.mem_of_getElem? (i := 6) rfl))) (mvT hZ (hw _ (List.mem_of_getElem? (i := 2) rfl))) (mvT hZ (hw _ (List.mem_of_getElem? (i := 7) rfl))) (by decide) (backOf (W := 2) (rm2 l Z a0 hw [] (ln - (2 : Int32)) (nn - 2) h0 n0 Z0 (own_s2 hln hn20 hc81_22) (by omega)) hZ (hw _ (List.mem_of_getElem? (i := 7) rfl)) (hw _ (List.mem_of_getElem? (i := 2) rfl)) (by decide) (by decide)) (g := (mkF m 93 #[.val (.long va), .second, .val (.int ra), .val (.int rb), .val (.int rx), .val (.int se), .val (.int ln), .val (.int ub), .val (.int qq), .val (.int ca), .val (.int cb), .val (.int cx), .unset, .unset, .unset, .unset, .unset, .unset, .unset, .unset, .unset, .unset, .unset, .unset, .unset, .unset, .unset] [(.int (ln - (2 : Int32))), (.long (va &&& (9223372036854775807 : Int64)))])) rfl (by rw [hml]; rfl) (argsL := [(.int (ln - (2 : Int32)))]) (rest := [(.long (va &&& (9223372036854775807 : Int64)))]) (lenOf pd_0 rfl) rfl (by show 2 * 0 + _ ≤ _; exact Nat.le_of_eq rfl) (hb hby at_93) (fun _ _ => ⟨rfl, hE17, (by decide : 0 + 1 ≤ _), (by decide : 0 + 19 ≤ _)⟩)
      dsimp only [Pt.U, Pt.locs, Pt.cells, Pt.slots] at X24 l24 y24 z24 st24 hQ24
      subst l24 y24 z24
      obtain ⟨rfl, N24q, K24⟩ := hQ24
      have N24 := Fr.app N17 N24q
      have f25 := O0.keep K24 all0
      have Z26 := Nat.le_trans Z0 K24.1
      have K27 := (Keep.refl h0 []).trans K24 all0
      have pre28 : ∀ t, Steps p.tables e below (T24.setTop (mkF m 101 #[.val (.long va), .second, .val (.int ra), .val (.int rb), .val (.int rx), .val (.int se), .val (.int ln), .val (.int ub), .val (.int qq), .val (.int ca), .val (.int cb), .val (.int cx), .unset, .unset, .unset, .unset, .unset, .unset, .unset, .unset, .unset, .unset, .unset, .unset, .unset, .unset, .unset] [(.long ((va &&& (9223372036854775807 : Int64)) - ((va &&& (9223372036854775807 : Int64)) / (own_p10 (nn - 2))) * (own_p10 (nn - 2))))])) t → Steps p.tables e below (s₁.setTop (entryFrame m #[(.long va), (.int ra), (.int rb), (.int rx), (.int se)] maxLocals)) t := by
        intro t kt
        refine pre20 _ ?_
        show Steps p.tables e below (T17.setTop (mkF m 81 #[.val (.long va), .second, .val (.int ra), .val (.int rb), .val (.int rx), .val (.int se), .val (.int ln), .val (.int ub), .val (.int qq), .val (.int ca), .val (.int cb), .val (.int cx), .unset, .unset, .unset, .unset, .unset, .unset, .unset, .unset, .unset, .unset, .unset, .unset, .unset, .unset, .unset] [(.int (2 : Int32)), (.int ln)])) _
        refine XS.icmpNo X17.here hx rfl (hb hby at_81) rfl (XT.ii_lt_f hc81_22) ?_
        refine XS.lloadN X17.here hx rfl (hb hby at_84) rfl ?_
        refine Stand.ldc2J (g := (mkF m 85 #[.val (.long va), .second, .val (.int ra), .val (.int rb), .val (.int rx), .val (.int se), .val (.int ln), .val (.int ub), .val (.int qq), .val (.int ca), .val (.int cb), .val (.int cx), .unset, .unset, .unset, .unset, .unset, .unset, .unset, .unset, .unset, .unset, .unset, .unset, .unset, .unset, .unset] [(.long va)])) X17 hx hown (mvT hZ (hw _ (List.mem_of_getElem? (i := 4) rfl))) rfl (hb hby at_85) ?_
        refine XS.land X17.here hx rfl (hb hby at_88) rfl ?_
        show Steps p.tables e below (T17.setTop (mkF m 89 #[.val (.long va), .second, .val (.int ra), .val (.int rb), .val (.int rx), .val (.int se), .val (.int ln), .val (.int ub), .val (.int qq), .val (.int ca), .val (.int cb), .val (.int cx), .unset, .unset, .unset, .unset, .unset, .unset, .unset, .unset, .unset, .unset, .unset, .unset, .unset, .unset, .unset] [(.long (va &&& (9223372036854775807 : Int64)))])) _
        refine XS.iload X17.here hx rfl (hb hby at_89) rfl ?_
        refine XS.iconst X17.here hx rfl (hb hby at_91) ?_
        refine XS.isub X17.here hx rfl (hb hby at_92) rfl ?_
        show Steps p.tables e below (T17.setTop (mkF m 93 #[.val (.long va), .second, .val (.int ra), .val (.int rb), .val (.int rx), .val (.int se), .val (.int ln), .val (.int ub), .val (.int qq), .val (.int ca), .val (.int cb), .val (.int cx), .unset, .unset, .unset, .unset, .unset, .unset, .unset, .unset, .unset, .unset, .unset, .unset, .unset, .unset, .unset] [(.int (ln - (2 : Int32))), (.long (va &&& (9223372036854775807 : Int64)))])) _
        refine st24 _ ?_
        show Steps p.tables e below (T24.setTop (mkF m 96 #[.val (.long va), .second, .val (.int ra), .val (.int rb), .val (.int rx), .val (.int se), .val (.int ln), .val (.int ub), .val (.int qq), .val (.int ca), .val (.int cb), .val (.int cx), .unset, .unset, .unset, .unset, .unset, .unset, .unset, .unset, .unset, .unset, .unset, .unset, .unset, .unset, .unset] [(.long (own_p10 (nn - 2))), (.long (va &&& (9223372036854775807 : Int64)))])) _
        refine XS.lrem X24.here hx rfl (hb hby at_96) rfl (own_p10nz (by omega)) ?_
        refine XS.goto X24.here hx rfl (pc0 := 97) (pc' := 101) rfl (hb hby at_97) (by decide) (by decide) ?_
        exact kt
      have eJ : T24.heap = T24.heap := rfl
      exact ⟨T24, _, ((va &&& (9223372036854775807 : Int64)) - ((va &&& (9223372036854775807 : Int64)) / (own_p10 (nn - 2))) * (own_p10 (nn - 2))), X24.mono (by decide) (by decide), N24, (by rw [eJ]; exact Z26), (by rw [eJ]; exact K27), (by rw [eJ]; exact K27), (by rw [eJ]; exact f25), (own_M1 hln hn20 hc81_22), fun t kt => pre28 _ kt⟩
  have hM := hp21_0
  obtain ⟨T29, gh29, k29, X29, hE29, E29, A29, st29⟩ := newP X21 hx hZ (hw _ (List.mem_of_getElem? (i := 27) rfl)) rfl (g := (mkF m 105 #[.val (.long va), .second, .val (.int ra), .val (.int rb), .val (.int rx), .val (.int se), .val (.int ln), .val (.int ub), .val (.int qq), .val (.int ca), .val (.int cb), .val (.int cx), .val (.long mm), .second, .unset, .unset, .unset, .unset, .unset, .unset, .unset, .unset, .unset, .unset, .unset, .unset, .unset] [(.int ln)])) rfl (hb hby at_105) rfl (own_nn hln) (cap := 20) (own_cap hln hn20) (by decide) (by decide) (by decide)
  obtain ⟨ac, g29⟩ : ∃ z, z = T21.heap.size := ⟨_, rfl⟩
  rw [← g29] at A29 st29
  have g_ac : n0 ≤ ac := Nat.le_trans Z21 (Nat.le_of_eq g29.symm)
  have sz_ac : h0.size ≤ ac := Nat.le_trans K21.1 (Nat.le_of_eq g29.symm)
  have f30 := hf21_0.ext E29
  have Z31 := Nat.le_trans Z21 E29.1
  have K32 := K21.ext E29
  have K33 := KK21.ext E29
  have V29 : owAI Z gh29 ac .char nn (fun _ => 0) := owAI.new A29 hln rfl
  have hl0 := own_fill0 (own_F ln ca cb cx qq mm nn) nn (fun _ => 0)
  have pre34 : ∀ t, Steps p.tables e below (T29.setTop (mkF m 111 #[.val (.long va), .second, .val (.int ra), .val (.int rb), .val (.int rx), .val (.int se), .val (.int ln), .val (.int ub), .val (.int qq), .val (.int ca), .val (.int cb), .val (.int cx), .val (.long mm), .second, .val (.ref ac), .unset, .unset, .unset, .unset, .unset, .unset, .unset, .unset, .unset, .unset, .unset, .unset] [(.int ln)])) t → Steps p.tables e below (s₁.setTop (entryFrame m #[(.long va), (.int ra), (.int rb), (.int rx), (.int se)] maxLocals)) t := by
    intro t kt
    refine pre21 _ ?_
    show Steps p.tables e below (T21.setTop (mkF m 101 #[.val (.long va), .second, .val (.int ra), .val (.int rb), .val (.int rx), .val (.int se), .val (.int ln), .val (.int ub), .val (.int qq), .val (.int ca), .val (.int cb), .val (.int cx), .unset, .unset, .unset, .unset, .unset, .unset, .unset, .unset, .unset, .unset, .unset, .unset, .unset, .unset, .unset] [(.long mm)])) _
    refine XS.lstore X21.here hx rfl (hb hby at_101) rfl (l' := #[.val (.long va), .second, .val (.int ra), .val (.int rb), .val (.int rx), .val (.int se), .val (.int ln), .val (.int ub), .val (.int qq), .val (.int ca), .val (.int cb), .val (.int cx), .val (.long mm), .second, .unset, .unset, .unset, .unset, .unset, .unset, .unset, .unset, .unset, .unset, .unset, .unset, .unset]) rfl ?_
    refine XS.iload X21.here hx rfl (hb hby at_103) rfl ?_
    show Steps p.tables e below (T21.setTop (mkF m 105 #[.val (.long va), .second, .val (.int ra), .val (.int rb), .val (.int rx), .val (.int se), .val (.int ln), .val (.int ub), .val (.int qq), .val (.int ca), .val (.int cb), .val (.int cx), .val (.long mm), .second, .unset, .unset, .unset, .unset, .unset, .unset, .unset, .unset, .unset, .unset, .unset, .unset, .unset] [(.int ln)])) _
    refine st29 _ ?_
    refine XS.astore X29.here hx rfl (hb hby at_107) rfl rfl (l' := #[.val (.long va), .second, .val (.int ra), .val (.int rb), .val (.int rx), .val (.int se), .val (.int ln), .val (.int ub), .val (.int qq), .val (.int ca), .val (.int cb), .val (.int cx), .val (.long mm), .second, .val (.ref ac), .unset, .unset, .unset, .unset, .unset, .unset, .unset, .unset, .unset, .unset, .unset, .unset]) rfl ?_
    refine XS.iload X29.here hx rfl (hb hby at_109) rfl ?_
    exact kt
  obtain ⟨T35, L35, fk1, X35, N35, Z35, K35, KK35, hf35_0, hf35_1, hp35_0, pre35⟩ : ∃ (T35 : State) (L35 : List Loc) (fk1 : Nat → Int32), Stand p l e room_1 (s.setVm s.vm) m #[(.long va), (.int ra), (.int rb), (.int rx), (.int se)] below meth c T35 L35 3 58 ∧ Fr n0 L35 ∧ n0 ≤ T35.heap.size ∧ Keep h0 T35.heap [] ∧ Keep h0 T35.heap [] ∧ Old Z n0 T35.heap ∧ owAI Z T35.heap ac .char nn fk1 ∧ own_fill (own_F ln ca cb cx qq mm nn) nn fk1 1 ∧ ∀ t, Steps p.tables e below (T35.setTop (mkF m 134 #[.val (.long va), .second, .val (.int ra), .val (.int rb), .val (.int rx), .val (.int se), .val (.int ln), .val (.int ub), .val (.int qq), .val (.int ca), .val (.int cb), .val (.int cx), .val (.long mm), .second, .val (.ref ac), .unset, .unset, .unset, .unset, .unset, .unset, .unset, .unset, .unset, .unset, .unset, .unset] [])) t → Steps p.tables e below (s₁.setTop (entryFrame m #[(.long va), (.int ra), (.int rb), (.int rx), (.int se)] maxLocals)) t := by
    by_cases hc111_36 : (0 : Int32) < ln
    · skip
      obtain ⟨_, _, ⟨T37, L37, k37, n37⟩, -, X37, ⟨Lc37, hQ37, l37, y37, z37⟩, st37⟩ := Jvm.LawKit.callS X29 hx (y := (⟨"com/example/relent/relent/WholeNumbersUnsignedPinLaw", "at", "(IICCCIJ)C"⟩ : MethodName)) hown (mvT hZ (hw _ (List.mem_of_getElem? (i := 28) rfl))) (mvT hZ (hw _ (List.mem_of_getElem? (i := 29) rfl))) (mvT hZ (hw _ (List.mem_of_getElem? (i := 2) rfl))) (mvT hZ (hw _ (List.mem_of_getElem? (i := 30) rfl))) (by decide) (backOf (W := 2) (rm3 l Z a0 hw [] (0 : Int32) ln ca cb cx qq mm (nn - 2 - 0) gh29 n0 Z31 (own_kk hln hn20 (kz := (0 : Int32)) (k := 0) rfl hc111_36)) hZ (hw _ (List.mem_of_getElem? (i := 30) rfl)) (hw _ (List.mem_of_getElem? (i := 2) rfl)) (by decide) (by decide)) (g := (mkF m 130 #[.val (.long va), .second, .val (.int ra), .val (.int rb), .val (.int rx), .val (.int se), .val (.int ln), .val (.int ub), .val (.int qq), .val (.int ca), .val (.int cb), .val (.int cx), .val (.long mm), .second, .val (.ref ac), .unset, .unset, .unset, .unset, .unset, .unset, .unset, .unset, .unset, .unset, .unset, .unset] [(.long mm), (.int qq), (.int cx), (.int cb), (.int ca), (.int ln), (.int (0 : Int32)), (.int (0 : Int32)), (.ref ac)])) rfl (by rw [hml]; rfl) (argsL := [(.int (0 : Int32)), (.int ln), (.int ca), (.int cb), (.int cx), (.int qq), (.long mm)]) (rest := [(.int (0 : Int32)), (.ref ac)]) (lenOf pd_15 rfl) rfl (by show 2 * 0 + _ ≤ _; exact Nat.le_of_eq rfl) (hb hby at_130) (fun _ _ => ⟨rfl, hE29, (by decide : 2 + 1 ≤ _), (by decide : 39 + 19 ≤ _)⟩)
      dsimp only [Pt.U, Pt.locs, Pt.cells, Pt.slots] at X37 l37 y37 z37 st37 hQ37
      subst l37 y37 z37
      obtain ⟨rfl, N37q, K37⟩ := hQ37
      have N37 := Fr.app N21 N37q
      have f38 := f30.keep K37 all0
      have f39 := V29.keep K37 nin0
      have Z40 := Nat.le_trans Z31 K37.1
      have K41 := K32.trans K37 all0
      have K42 := K33.trans K37 all0
      obtain ⟨T43, gh43, X43, hE43, W43, V43, st43⟩ := owStC X37 hx hZ rfl f39 (k := 0) (j := (0 : Int32)) rfl ((own_lt (i := (0 : Int32)) (a := 0) rfl hln).mp hc111_36) (g := (mkF m 133 #[.val (.long va), .second, .val (.int ra), .val (.int rb), .val (.int rx), .val (.int se), .val (.int ln), .val (.int ub), .val (.int qq), .val (.int ca), .val (.int cb), .val (.int cx), .val (.long mm), .second, .val (.ref ac), .unset, .unset, .unset, .unset, .unset, .unset, .unset, .unset, .unset, .unset, .unset, .unset] [(.int (fn3 (0 : Int32) ln ca cb cx qq mm (nn - 2 - 0))), (.int (0 : Int32)), (.ref ac)])) rfl rfl (hb hby at_133)
      have f44 := f38.wr W43 g_ac
      have Z46 := Nat.le_trans Z40 (Keep.of_wr W43).1
      have N47 := Fr.snoc X43 N37 g_ac
      have K48 := K41.wr W43 (Or.inr sz_ac)
      have K49 := K42.wr W43 (Or.inr sz_ac)
      have pre50 : ∀ t, Steps p.tables e below (T43.setTop (mkF m 134 #[.val (.long va), .second, .val (.int ra), .val (.int rb), .val (.int rx), .val (.int se), .val (.int ln), .val (.int ub), .val (.int qq), .val (.int ca), .val (.int cb), .val (.int cx), .val (.long mm), .second, .val (.ref ac), .unset, .unset, .unset, .unset, .unset, .unset, .unset, .unset, .unset, .unset, .unset, .unset] [])) t → Steps p.tables e below (s₁.setTop (entryFrame m #[(.long va), (.int ra), (.int rb), (.int rx), (.int se)] maxLocals)) t := by
        intro t kt
        refine pre34 _ ?_
        show Steps p.tables e below (T29.setTop (mkF m 111 #[.val (.long va), .second, .val (.int ra), .val (.int rb), .val (.int rx), .val (.int se), .val (.int ln), .val (.int ub), .val (.int qq), .val (.int ca), .val (.int cb), .val (.int cx), .val (.long mm), .second, .val (.ref ac), .unset, .unset, .unset, .unset, .unset, .unset, .unset, .unset, .unset, .unset, .unset, .unset] [(.int ln)])) _
        refine XS.ifNo X29.here hx rfl (hb hby at_111) rfl (XT.i0_le_f hc111_36) ?_
        refine XS.aload X29.here hx rfl (hb hby at_114) rfl rfl ?_
        refine XS.iconst X29.here hx rfl (hb hby at_116) ?_
        refine XS.iconst X29.here hx rfl (hb hby at_117) ?_
        show Steps p.tables e below (T29.setTop (mkF m 118 #[.val (.long va), .second, .val (.int ra), .val (.int rb), .val (.int rx), .val (.int se), .val (.int ln), .val (.int ub), .val (.int qq), .val (.int ca), .val (.int cb), .val (.int cx), .val (.long mm), .second, .val (.ref ac), .unset, .unset, .unset, .unset, .unset, .unset, .unset, .unset, .unset, .unset, .unset, .unset] [(.int (0 : Int32)), (.int (0 : Int32)), (.ref ac)])) _
        refine XS.iload X29.here hx rfl (hb hby at_118) rfl ?_
        refine XS.iload X29.here hx rfl (hb hby at_120) rfl ?_
        refine XS.iload X29.here hx rfl (hb hby at_122) rfl ?_
        refine XS.iload X29.here hx rfl (hb hby at_124) rfl ?_
        show Steps p.tables e below (T29.setTop (mkF m 126 #[.val (.long va), .second, .val (.int ra), .val (.int rb), .val (.int rx), .val (.int se), .val (.int ln), .val (.int ub), .val (.int qq), .val (.int ca), .val (.int cb), .val (.int cx), .val (.long mm), .second, .val (.ref ac), .unset, .unset, .unset, .unset, .unset, .unset, .unset, .unset, .unset, .unset, .unset, .unset] [(.int cx), (.int cb), (.int ca), (.int ln), (.int (0 : Int32)), (.int (0 : Int32)), (.ref ac)])) _
        refine XS.iload X29.here hx rfl (hb hby at_126) rfl ?_
        refine XS.lload X29.here hx rfl (hb hby at_128) rfl ?_
        show Steps p.tables e below (T29.setTop (mkF m 130 #[.val (.long va), .second, .val (.int ra), .val (.int rb), .val (.int rx), .val (.int se), .val (.int ln), .val (.int ub), .val (.int qq), .val (.int ca), .val (.int cb), .val (.int cx), .val (.long mm), .second, .val (.ref ac), .unset, .unset, .unset, .unset, .unset, .unset, .unset, .unset, .unset, .unset, .unset, .unset] [(.long mm), (.int qq), (.int cx), (.int cb), (.int ca), (.int ln), (.int (0 : Int32)), (.int (0 : Int32)), (.ref ac)])) _
        refine st37 _ ?_
        show Steps p.tables e below (T37.setTop (mkF m 133 #[.val (.long va), .second, .val (.int ra), .val (.int rb), .val (.int rx), .val (.int se), .val (.int ln), .val (.int ub), .val (.int qq), .val (.int ca), .val (.int cb), .val (.int cx), .val (.long mm), .second, .val (.ref ac), .unset, .unset, .unset, .unset, .unset, .unset, .unset, .unset, .unset, .unset, .unset, .unset] [(.int (fn3 (0 : Int32) ln ca cb cx qq mm (nn - 2 - 0))), (.int (0 : Int32)), (.ref ac)])) _
        refine st43 _ ?_
        exact kt
      have eJ : T43.heap = gh43 := hE43
      exact ⟨T43, _, (owUp (fun _ => 0) 0 ((fn3 (0 : Int32) ln ca cb cx qq mm (nn - 2 - 0)).toUInt32.toUInt16.toUInt32.toInt32)), X43.mono (by decide) (by decide), N47, (by rw [eJ]; exact Z46), (by rw [eJ]; exact K48), (by rw [eJ]; exact K49), (by rw [eJ]; exact f44), (by rw [eJ]; exact V43), (own_fillS (k := 0) hl0), fun t kt => pre50 _ kt⟩
    · skip
      have pre51 : ∀ t, Steps p.tables e below (T29.setTop (mkF m 134 #[.val (.long va), .second, .val (.int ra), .val (.int rb), .val (.int rx), .val (.int se), .val (.int ln), .val (.int ub), .val (.int qq), .val (.int ca), .val (.int cb), .val (.int cx), .val (.long mm), .second, .val (.ref ac), .unset, .unset, .unset, .unset, .unset, .unset, .unset, .unset, .unset, .unset, .unset, .unset] [])) t → Steps p.tables e below (s₁.setTop (entryFrame m #[(.long va), (.int ra), (.int rb), (.int rx), (.int se)] maxLocals)) t := by
        intro t kt
        refine pre34 _ ?_
        show Steps p.tables e below (T29.setTop (mkF m 111 #[.val (.long va), .second, .val (.int ra), .val (.int rb), .val (.int rx), .val (.int se), .val (.int ln), .val (.int ub), .val (.int qq), .val (.int ca), .val (.int cb), .val (.int cx), .val (.long mm), .second, .val (.ref ac), .unset, .unset, .unset, .unset, .unset, .unset, .unset, .unset, .unset, .unset, .unset, .unset] [(.int ln)])) _
        refine XS.ifYes X29.here hx rfl (pc0 := 111) (pc' := 134) rfl (hb hby at_111) rfl (XT.i0_le_t hc111_36) (by decide) (by decide) ?_
        exact kt
      have eJ : T29.heap = gh29 := hE29
      exact ⟨T29, _, (fun _ => 0), X29.mono (by decide) (by decide), N21, (by rw [eJ]; exact Z31), (by rw [eJ]; exact K32), (by rw [eJ]; exact K33), (by rw [eJ]; exact f30), (by rw [eJ]; exact V29), (own_fillN hln (kz := (0 : Int32)) (k := 0) rfl hc111_36 hl0), fun t kt => pre51 _ kt⟩
  have hl1 := hp35_0
  have pre52 : ∀ t, Steps p.tables e below (T35.setTop (mkF m 137 #[.val (.long va), .second, .val (.int ra), .val (.int rb), .val (.int rx), .val (.int se), .val (.int ln), .val (.int ub), .val (.int qq), .val (.int ca), .val (.int cb), .val (.int cx), .val (.long mm), .second, .val (.ref ac), .unset, .unset, .unset, .unset, .unset, .unset, .unset, .unset, .unset, .unset, .unset, .unset] [(.int (1 : Int32)), (.int ln)])) t → Steps p.tables e below (s₁.setTop (entryFrame m #[(.long va), (.int ra), (.int rb), (.int rx), (.int se)] maxLocals)) t := by
    intro t kt
    refine pre35 _ ?_
    refine XS.iload X35.here hx rfl (hb hby at_134) rfl ?_
    show Steps p.tables e below (T35.setTop (mkF m 136 #[.val (.long va), .second, .val (.int ra), .val (.int rb), .val (.int rx), .val (.int se), .val (.int ln), .val (.int ub), .val (.int qq), .val (.int ca), .val (.int cb), .val (.int cx), .val (.long mm), .second, .val (.ref ac), .unset, .unset, .unset, .unset, .unset, .unset, .unset, .unset, .unset, .unset, .unset, .unset] [(.int ln)])) _
    refine XS.iconst X35.here hx rfl (hb hby at_136) ?_
    exact kt
  obtain ⟨T53, L53, fk2, X53, N53, Z53, K53, KK53, hf53_0, hf53_1, hp53_0, pre53⟩ : ∃ (T53 : State) (L53 : List Loc) (fk2 : Nat → Int32), Stand p l e room_1 (s.setVm s.vm) m #[(.long va), (.int ra), (.int rb), (.int rx), (.int se)] below meth c T53 L53 4 77 ∧ Fr n0 L53 ∧ n0 ≤ T53.heap.size ∧ Keep h0 T53.heap [] ∧ Keep h0 T53.heap [] ∧ Old Z n0 T53.heap ∧ owAI Z T53.heap ac .char nn fk2 ∧ own_fill (own_F ln ca cb cx qq mm nn) nn fk2 2 ∧ ∀ t, Steps p.tables e below (T53.setTop (mkF m 160 #[.val (.long va), .second, .val (.int ra), .val (.int rb), .val (.int rx), .val (.int se), .val (.int ln), .val (.int ub), .val (.int qq), .val (.int ca), .val (.int cb), .val (.int cx), .val (.long mm), .second, .val (.ref ac), .unset, .unset, .unset, .unset, .unset, .unset, .unset, .unset, .unset, .unset, .unset, .unset] [])) t → Steps p.tables e below (s₁.setTop (entryFrame m #[(.long va), (.int ra), (.int rb), (.int rx), (.int se)] maxLocals)) t := by
    by_cases hc137_54 : (1 : Int32) < ln
    · skip
      obtain ⟨_, _, ⟨T55, L55, k55, n55⟩, -, X55, ⟨Lc55, hQ55, l55, y55, z55⟩, st55⟩ := Jvm.LawKit.callS X35 hx (y := (⟨"com/example/relent/relent/WholeNumbersUnsignedPinLaw", "at", "(IICCCIJ)C"⟩ : MethodName)) hown (mvT hZ (hw _ (List.mem_of_getElem? (i := 28) rfl))) (mvT hZ (hw _ (List.mem_of_getElem? (i := 29) rfl))) (mvT hZ (hw _ (List.mem_of_getElem? (i := 2) rfl))) (mvT hZ (hw _ (List.mem_of_getElem? (i := 30) rfl))) (by decide) (backOf (W := 2) (rm3 l Z a0 hw [] (1 : Int32) ln ca cb cx qq mm (nn - 2 - 1) T35.heap n0 Z35 (own_kk hln hn20 (kz := (1 : Int32)) (k := 1) rfl hc137_54)) hZ (hw _ (List.mem_of_getElem? (i := 30) rfl)) (hw _ (List.mem_of_getElem? (i := 2) rfl)) (by decide) (by decide)) (g := (mkF m 156 #[.val (.long va), .second, .val (.int ra), .val (.int rb), .val (.int rx), .val (.int se), .val (.int ln), .val (.int ub), .val (.int qq), .val (.int ca), .val (.int cb), .val (.int cx), .val (.long mm), .second, .val (.ref ac), .unset, .unset, .unset, .unset, .unset, .unset, .unset, .unset, .unset, .unset, .unset, .unset] [(.long mm), (.int qq), (.int cx), (.int cb), (.int ca), (.int ln), (.int (1 : Int32)), (.int (1 : Int32)), (.ref ac)])) rfl (by rw [hml]; rfl) (argsL := [(.int (1 : Int32)), (.int ln), (.int ca), (.int cb), (.int cx), (.int qq), (.long mm)]) (rest := [(.int (1 : Int32)), (.ref ac)]) (lenOf pd_15 rfl) rfl (by show 2 * 0 + _ ≤ _; exact Nat.le_of_eq rfl) (hb hby at_156) (fun _ _ => ⟨rfl, rfl, (by decide : 3 + 1 ≤ _), (by decide : 58 + 19 ≤ _)⟩)
      dsimp only [Pt.U, Pt.locs, Pt.cells, Pt.slots] at X55 l55 y55 z55 st55 hQ55
      subst l55 y55 z55
      obtain ⟨rfl, N55q, K55⟩ := hQ55
      have N55 := Fr.app N35 N55q
      have f56 := hf35_0.keep K55 all0
      have f57 := hf35_1.keep K55 nin0
      have Z58 := Nat.le_trans Z35 K55.1
      have K59 := K35.trans K55 all0
      have K60 := KK35.trans K55 all0
      obtain ⟨T61, gh61, X61, hE61, W61, V61, st61⟩ := owStC X55 hx hZ rfl f57 (k := 1) (j := (1 : Int32)) rfl ((own_lt (i := (1 : Int32)) (a := 1) rfl hln).mp hc137_54) (g := (mkF m 159 #[.val (.long va), .second, .val (.int ra), .val (.int rb), .val (.int rx), .val (.int se), .val (.int ln), .val (.int ub), .val (.int qq), .val (.int ca), .val (.int cb), .val (.int cx), .val (.long mm), .second, .val (.ref ac), .unset, .unset, .unset, .unset, .unset, .unset, .unset, .unset, .unset, .unset, .unset, .unset] [(.int (fn3 (1 : Int32) ln ca cb cx qq mm (nn - 2 - 1))), (.int (1 : Int32)), (.ref ac)])) rfl rfl (hb hby at_159)
      have f62 := f56.wr W61 g_ac
      have Z64 := Nat.le_trans Z58 (Keep.of_wr W61).1
      have N65 := Fr.snoc X61 N55 g_ac
      have K66 := K59.wr W61 (Or.inr sz_ac)
      have K67 := K60.wr W61 (Or.inr sz_ac)
      have pre68 : ∀ t, Steps p.tables e below (T61.setTop (mkF m 160 #[.val (.long va), .second, .val (.int ra), .val (.int rb), .val (.int rx), .val (.int se), .val (.int ln), .val (.int ub), .val (.int qq), .val (.int ca), .val (.int cb), .val (.int cx), .val (.long mm), .second, .val (.ref ac), .unset, .unset, .unset, .unset, .unset, .unset, .unset, .unset, .unset, .unset, .unset, .unset] [])) t → Steps p.tables e below (s₁.setTop (entryFrame m #[(.long va), (.int ra), (.int rb), (.int rx), (.int se)] maxLocals)) t := by
        intro t kt
        refine pre52 _ ?_
        show Steps p.tables e below (T35.setTop (mkF m 137 #[.val (.long va), .second, .val (.int ra), .val (.int rb), .val (.int rx), .val (.int se), .val (.int ln), .val (.int ub), .val (.int qq), .val (.int ca), .val (.int cb), .val (.int cx), .val (.long mm), .second, .val (.ref ac), .unset, .unset, .unset, .unset, .unset, .unset, .unset, .unset, .unset, .unset, .unset, .unset] [(.int (1 : Int32)), (.int ln)])) _
        refine XS.icmpNo X35.here hx rfl (hb hby at_137) rfl (XT.ii_le_f hc137_54) ?_
        refine XS.aload X35.here hx rfl (hb hby at_140) rfl rfl ?_
        refine XS.iconst X35.here hx rfl (hb hby at_142) ?_
        refine XS.iconst X35.here hx rfl (hb hby at_143) ?_
        show Steps p.tables e below (T35.setTop (mkF m 144 #[.val (.long va), .second, .val (.int ra), .val (.int rb), .val (.int rx), .val (.int se), .val (.int ln), .val (.int ub), .val (.int qq), .val (.int ca), .val (.int cb), .val (.int cx), .val (.long mm), .second, .val (.ref ac), .unset, .unset, .unset, .unset, .unset, .unset, .unset, .unset, .unset, .unset, .unset, .unset] [(.int (1 : Int32)), (.int (1 : Int32)), (.ref ac)])) _
        refine XS.iload X35.here hx rfl (hb hby at_144) rfl ?_
        refine XS.iload X35.here hx rfl (hb hby at_146) rfl ?_
        refine XS.iload X35.here hx rfl (hb hby at_148) rfl ?_
        refine XS.iload X35.here hx rfl (hb hby at_150) rfl ?_
        show Steps p.tables e below (T35.setTop (mkF m 152 #[.val (.long va), .second, .val (.int ra), .val (.int rb), .val (.int rx), .val (.int se), .val (.int ln), .val (.int ub), .val (.int qq), .val (.int ca), .val (.int cb), .val (.int cx), .val (.long mm), .second, .val (.ref ac), .unset, .unset, .unset, .unset, .unset, .unset, .unset, .unset, .unset, .unset, .unset, .unset] [(.int cx), (.int cb), (.int ca), (.int ln), (.int (1 : Int32)), (.int (1 : Int32)), (.ref ac)])) _
        refine XS.iload X35.here hx rfl (hb hby at_152) rfl ?_
        refine XS.lload X35.here hx rfl (hb hby at_154) rfl ?_
        show Steps p.tables e below (T35.setTop (mkF m 156 #[.val (.long va), .second, .val (.int ra), .val (.int rb), .val (.int rx), .val (.int se), .val (.int ln), .val (.int ub), .val (.int qq), .val (.int ca), .val (.int cb), .val (.int cx), .val (.long mm), .second, .val (.ref ac), .unset, .unset, .unset, .unset, .unset, .unset, .unset, .unset, .unset, .unset, .unset, .unset] [(.long mm), (.int qq), (.int cx), (.int cb), (.int ca), (.int ln), (.int (1 : Int32)), (.int (1 : Int32)), (.ref ac)])) _
        refine st55 _ ?_
        show Steps p.tables e below (T55.setTop (mkF m 159 #[.val (.long va), .second, .val (.int ra), .val (.int rb), .val (.int rx), .val (.int se), .val (.int ln), .val (.int ub), .val (.int qq), .val (.int ca), .val (.int cb), .val (.int cx), .val (.long mm), .second, .val (.ref ac), .unset, .unset, .unset, .unset, .unset, .unset, .unset, .unset, .unset, .unset, .unset, .unset] [(.int (fn3 (1 : Int32) ln ca cb cx qq mm (nn - 2 - 1))), (.int (1 : Int32)), (.ref ac)])) _
        refine st61 _ ?_
        exact kt
      have eJ : T61.heap = gh61 := hE61
      exact ⟨T61, _, (owUp fk1 1 ((fn3 (1 : Int32) ln ca cb cx qq mm (nn - 2 - 1)).toUInt32.toUInt16.toUInt32.toInt32)), X61.mono (by decide) (by decide), N65, (by rw [eJ]; exact Z64), (by rw [eJ]; exact K66), (by rw [eJ]; exact K67), (by rw [eJ]; exact f62), (by rw [eJ]; exact V61), (own_fillS (k := 1) hl1), fun t kt => pre68 _ kt⟩
    · skip
      have pre69 : ∀ t, Steps p.tables e below (T35.setTop (mkF m 160 #[.val (.long va), .second, .val (.int ra), .val (.int rb), .val (.int rx), .val (.int se), .val (.int ln), .val (.int ub), .val (.int qq), .val (.int ca), .val (.int cb), .val (.int cx), .val (.long mm), .second, .val (.ref ac), .unset, .unset, .unset, .unset, .unset, .unset, .unset, .unset, .unset, .unset, .unset, .unset] [])) t → Steps p.tables e below (s₁.setTop (entryFrame m #[(.long va), (.int ra), (.int rb), (.int rx), (.int se)] maxLocals)) t := by
        intro t kt
        refine pre52 _ ?_
        show Steps p.tables e below (T35.setTop (mkF m 137 #[.val (.long va), .second, .val (.int ra), .val (.int rb), .val (.int rx), .val (.int se), .val (.int ln), .val (.int ub), .val (.int qq), .val (.int ca), .val (.int cb), .val (.int cx), .val (.long mm), .second, .val (.ref ac), .unset, .unset, .unset, .unset, .unset, .unset, .unset, .unset, .unset, .unset, .unset, .unset] [(.int (1 : Int32)), (.int ln)])) _
        refine XS.icmpYes X35.here hx rfl (pc0 := 137) (pc' := 160) rfl (hb hby at_137) rfl (XT.ii_le_t hc137_54) (by decide) (by decide) ?_
        exact kt
      have eJ : T35.heap = T35.heap := rfl
      exact ⟨T35, _, fk1, X35.mono (by decide) (by decide), N35, (by rw [eJ]; exact Z35), (by rw [eJ]; exact K35), (by rw [eJ]; exact KK35), (by rw [eJ]; exact hf35_0), (by rw [eJ]; exact hf35_1), (own_fillN hln (kz := (1 : Int32)) (k := 1) rfl hc137_54 hl1), fun t kt => pre69 _ kt⟩
  have hl2 := hp53_0
  have pre70 : ∀ t, Steps p.tables e below (T53.setTop (mkF m 163 #[.val (.long va), .second, .val (.int ra), .val (.int rb), .val (.int rx), .val (.int se), .val (.int ln), .val (.int ub), .val (.int qq), .val (.int ca), .val (.int cb), .val (.int cx), .val (.long mm), .second, .val (.ref ac), .unset, .unset, .unset, .unset, .unset, .unset, .unset, .unset, .unset, .unset, .unset, .unset] [(.int (2 : Int32)), (.int ln)])) t → Steps p.tables e below (s₁.setTop (entryFrame m #[(.long va), (.int ra), (.int rb), (.int rx), (.int se)] maxLocals)) t := by
    intro t kt
    refine pre53 _ ?_
    refine XS.iload X53.here hx rfl (hb hby at_160) rfl ?_
    refine XS.iconst X53.here hx rfl (hb hby at_162) ?_
    exact kt
  obtain ⟨T71, L71, fk3, X71, N71, Z71, K71, KK71, hf71_0, hf71_1, hp71_0, pre71⟩ : ∃ (T71 : State) (L71 : List Loc) (fk3 : Nat → Int32), Stand p l e room_1 (s.setVm s.vm) m #[(.long va), (.int ra), (.int rb), (.int rx), (.int se)] below meth c T71 L71 5 96 ∧ Fr n0 L71 ∧ n0 ≤ T71.heap.size ∧ Keep h0 T71.heap [] ∧ Keep h0 T71.heap [] ∧ Old Z n0 T71.heap ∧ owAI Z T71.heap ac .char nn fk3 ∧ own_fill (own_F ln ca cb cx qq mm nn) nn fk3 3 ∧ ∀ t, Steps p.tables e below (T71.setTop (mkF m 186 #[.val (.long va), .second, .val (.int ra), .val (.int rb), .val (.int rx), .val (.int se), .val (.int ln), .val (.int ub), .val (.int qq), .val (.int ca), .val (.int cb), .val (.int cx), .val (.long mm), .second, .val (.ref ac), .unset, .unset, .unset, .unset, .unset, .unset, .unset, .unset, .unset, .unset, .unset, .unset] [])) t → Steps p.tables e below (s₁.setTop (entryFrame m #[(.long va), (.int ra), (.int rb), (.int rx), (.int se)] maxLocals)) t := by
    by_cases hc163_72 : (2 : Int32) < ln
    · skip
      obtain ⟨_, _, ⟨T73, L73, k73, n73⟩, -, X73, ⟨Lc73, hQ73, l73, y73, z73⟩, st73⟩ := Jvm.LawKit.callS X53 hx (y := (⟨"com/example/relent/relent/WholeNumbersUnsignedPinLaw", "at", "(IICCCIJ)C"⟩ : MethodName)) hown (mvT hZ (hw _ (List.mem_of_getElem? (i := 28) rfl))) (mvT hZ (hw _ (List.mem_of_getElem? (i := 29) rfl))) (mvT hZ (hw _ (List.mem_of_getElem? (i := 2) rfl))) (mvT hZ (hw _ (List.mem_of_getElem? (i := 30) rfl))) (by decide) (backOf (W := 2) (rm3 l Z a0 hw [] (2 : Int32) ln ca cb cx qq mm (nn - 2 - 2) T53.heap n0 Z53 (own_kk hln hn20 (kz := (2 : Int32)) (k := 2) rfl hc163_72)) hZ (hw _ (List.mem_of_getElem? (i := 30) rfl)) (hw _ (List.mem_of_getElem? (i := 2) rfl)) (by decide) (by decide)) (g := (mkF m 182 #[.val (.long va), .second, .val (.int ra), .val (.int rb), .val (.int rx), .val (.int se), .val (.int ln), .val (.int ub), .val (.int qq), .val (.int ca), .val (.int cb), .val (.int cx), .val (.long mm), .second, .val (.ref ac), .unset, .unset, .unset, .unset, .unset, .unset, .unset, .unset, .unset, .unset, .unset, .unset] [(.long mm), (.int qq), (.int cx), (.int cb), (.int ca), (.int ln), (.int (2 : Int32)), (.int (2 : Int32)), (.ref ac)])) rfl (by rw [hml]; rfl) (argsL := [(.int (2 : Int32)), (.int ln), (.int ca), (.int cb), (.int cx), (.int qq), (.long mm)]) (rest := [(.int (2 : Int32)), (.ref ac)]) (lenOf pd_15 rfl) rfl (by show 2 * 0 + _ ≤ _; exact Nat.le_of_eq rfl) (hb hby at_182) (fun _ _ => ⟨rfl, rfl, (by decide : 4 + 1 ≤ _), (by decide : 77 + 19 ≤ _)⟩)
      dsimp only [Pt.U, Pt.locs, Pt.cells, Pt.slots] at X73 l73 y73 z73 st73 hQ73
      subst l73 y73 z73
      obtain ⟨rfl, N73q, K73⟩ := hQ73
      have N73 := Fr.app N53 N73q
      have f74 := hf53_0.keep K73 all0
      have f75 := hf53_1.keep K73 nin0
      have Z76 := Nat.le_trans Z53 K73.1
      have K77 := K53.trans K73 all0
      have K78 := KK53.trans K73 all0
      obtain ⟨T79, gh79, X79, hE79, W79, V79, st79⟩ := owStC X73 hx hZ rfl f75 (k := 2) (j := (2 : Int32)) rfl ((own_lt (i := (2 : Int32)) (a := 2) rfl hln).mp hc163_72) (g := (mkF m 185 #[.val (.long va), .second, .val (.int ra), .val (.int rb), .val (.int rx), .val (.int se), .val (.int ln), .val (.int ub), .val (.int qq), .val (.int ca), .val (.int cb), .val (.int cx), .val (.long mm), .second, .val (.ref ac), .unset, .unset, .unset, .unset, .unset, .unset, .unset, .unset, .unset, .unset, .unset, .unset] [(.int (fn3 (2 : Int32) ln ca cb cx qq mm (nn - 2 - 2))), (.int (2 : Int32)), (.ref ac)])) rfl rfl (hb hby at_185)
      have f80 := f74.wr W79 g_ac
      have Z82 := Nat.le_trans Z76 (Keep.of_wr W79).1
      have N83 := Fr.snoc X79 N73 g_ac
      have K84 := K77.wr W79 (Or.inr sz_ac)
      have K85 := K78.wr W79 (Or.inr sz_ac)
      have pre86 : ∀ t, Steps p.tables e below (T79.setTop (mkF m 186 #[.val (.long va), .second, .val (.int ra), .val (.int rb), .val (.int rx), .val (.int se), .val (.int ln), .val (.int ub), .val (.int qq), .val (.int ca), .val (.int cb), .val (.int cx), .val (.long mm), .second, .val (.ref ac), .unset, .unset, .unset, .unset, .unset, .unset, .unset, .unset, .unset, .unset, .unset, .unset] [])) t → Steps p.tables e below (s₁.setTop (entryFrame m #[(.long va), (.int ra), (.int rb), (.int rx), (.int se)] maxLocals)) t := by
        intro t kt
        refine pre70 _ ?_
        show Steps p.tables e below (T53.setTop (mkF m 163 #[.val (.long va), .second, .val (.int ra), .val (.int rb), .val (.int rx), .val (.int se), .val (.int ln), .val (.int ub), .val (.int qq), .val (.int ca), .val (.int cb), .val (.int cx), .val (.long mm), .second, .val (.ref ac), .unset, .unset, .unset, .unset, .unset, .unset, .unset, .unset, .unset, .unset, .unset, .unset] [(.int (2 : Int32)), (.int ln)])) _
        refine XS.icmpNo X53.here hx rfl (hb hby at_163) rfl (XT.ii_le_f hc163_72) ?_
        refine XS.aload X53.here hx rfl (hb hby at_166) rfl rfl ?_
        refine XS.iconst X53.here hx rfl (hb hby at_168) ?_
        refine XS.iconst X53.here hx rfl (hb hby at_169) ?_
        show Steps p.tables e below (T53.setTop (mkF m 170 #[.val (.long va), .second, .val (.int ra), .val (.int rb), .val (.int rx), .val (.int se), .val (.int ln), .val (.int ub), .val (.int qq), .val (.int ca), .val (.int cb), .val (.int cx), .val (.long mm), .second, .val (.ref ac), .unset, .unset, .unset, .unset, .unset, .unset, .unset, .unset, .unset, .unset, .unset, .unset] [(.int (2 : Int32)), (.int (2 : Int32)), (.ref ac)])) _
        refine XS.iload X53.here hx rfl (hb hby at_170) rfl ?_
        refine XS.iload X53.here hx rfl (hb hby at_172) rfl ?_
        refine XS.iload X53.here hx rfl (hb hby at_174) rfl ?_
        refine XS.iload X53.here hx rfl (hb hby at_176) rfl ?_
        show Steps p.tables e below (T53.setTop (mkF m 178 #[.val (.long va), .second, .val (.int ra), .val (.int rb), .val (.int rx), .val (.int se), .val (.int ln), .val (.int ub), .val (.int qq), .val (.int ca), .val (.int cb), .val (.int cx), .val (.long mm), .second, .val (.ref ac), .unset, .unset, .unset, .unset, .unset, .unset, .unset, .unset, .unset, .unset, .unset, .unset] [(.int cx), (.int cb), (.int ca), (.int ln), (.int (2 : Int32)), (.int (2 : Int32)), (.ref ac)])) _
        refine XS.iload X53.here hx rfl (hb hby at_178) rfl ?_
        refine XS.lload X53.here hx rfl (hb hby at_180) rfl ?_
        show Steps p.tables e below (T53.setTop (mkF m 182 #[.val (.long va), .second, .val (.int ra), .val (.int rb), .val (.int rx), .val (.int se), .val (.int ln), .val (.int ub), .val (.int qq), .val (.int ca), .val (.int cb), .val (.int cx), .val (.long mm), .second, .val (.ref ac), .unset, .unset, .unset, .unset, .unset, .unset, .unset, .unset, .unset, .unset, .unset, .unset] [(.long mm), (.int qq), (.int cx), (.int cb), (.int ca), (.int ln), (.int (2 : Int32)), (.int (2 : Int32)), (.ref ac)])) _
        refine st73 _ ?_
        show Steps p.tables e below (T73.setTop (mkF m 185 #[.val (.long va), .second, .val (.int ra), .val (.int rb), .val (.int rx), .val (.int se), .val (.int ln), .val (.int ub), .val (.int qq), .val (.int ca), .val (.int cb), .val (.int cx), .val (.long mm), .second, .val (.ref ac), .unset, .unset, .unset, .unset, .unset, .unset, .unset, .unset, .unset, .unset, .unset, .unset] [(.int (fn3 (2 : Int32) ln ca cb cx qq mm (nn - 2 - 2))), (.int (2 : Int32)), (.ref ac)])) _
        refine st79 _ ?_
        exact kt
      have eJ : T79.heap = gh79 := hE79
      exact ⟨T79, _, (owUp fk2 2 ((fn3 (2 : Int32) ln ca cb cx qq mm (nn - 2 - 2)).toUInt32.toUInt16.toUInt32.toInt32)), X79.mono (by decide) (by decide), N83, (by rw [eJ]; exact Z82), (by rw [eJ]; exact K84), (by rw [eJ]; exact K85), (by rw [eJ]; exact f80), (by rw [eJ]; exact V79), (own_fillS (k := 2) hl2), fun t kt => pre86 _ kt⟩
    · skip
      have pre87 : ∀ t, Steps p.tables e below (T53.setTop (mkF m 186 #[.val (.long va), .second, .val (.int ra), .val (.int rb), .val (.int rx), .val (.int se), .val (.int ln), .val (.int ub), .val (.int qq), .val (.int ca), .val (.int cb), .val (.int cx), .val (.long mm), .second, .val (.ref ac), .unset, .unset, .unset, .unset, .unset, .unset, .unset, .unset, .unset, .unset, .unset, .unset] [])) t → Steps p.tables e below (s₁.setTop (entryFrame m #[(.long va), (.int ra), (.int rb), (.int rx), (.int se)] maxLocals)) t := by
        intro t kt
        refine pre70 _ ?_
        show Steps p.tables e below (T53.setTop (mkF m 163 #[.val (.long va), .second, .val (.int ra), .val (.int rb), .val (.int rx), .val (.int se), .val (.int ln), .val (.int ub), .val (.int qq), .val (.int ca), .val (.int cb), .val (.int cx), .val (.long mm), .second, .val (.ref ac), .unset, .unset, .unset, .unset, .unset, .unset, .unset, .unset, .unset, .unset, .unset, .unset] [(.int (2 : Int32)), (.int ln)])) _
        refine XS.icmpYes X53.here hx rfl (pc0 := 163) (pc' := 186) rfl (hb hby at_163) rfl (XT.ii_le_t hc163_72) (by decide) (by decide) ?_
        exact kt
      have eJ : T53.heap = T53.heap := rfl
      exact ⟨T53, _, fk2, X53.mono (by decide) (by decide), N53, (by rw [eJ]; exact Z53), (by rw [eJ]; exact K53), (by rw [eJ]; exact KK53), (by rw [eJ]; exact hf53_0), (by rw [eJ]; exact hf53_1), (own_fillN hln (kz := (2 : Int32)) (k := 2) rfl hc163_72 hl2), fun t kt => pre87 _ kt⟩
  have hl3 := hp71_0
  have pre88 : ∀ t, Steps p.tables e below (T71.setTop (mkF m 189 #[.val (.long va), .second, .val (.int ra), .val (.int rb), .val (.int rx), .val (.int se), .val (.int ln), .val (.int ub), .val (.int qq), .val (.int ca), .val (.int cb), .val (.int cx), .val (.long mm), .second, .val (.ref ac), .unset, .unset, .unset, .unset, .unset, .unset, .unset, .unset, .unset, .unset, .unset, .unset] [(.int (3 : Int32)), (.int ln)])) t → Steps p.tables e below (s₁.setTop (entryFrame m #[(.long va), (.int ra), (.int rb), (.int rx), (.int se)] maxLocals)) t := by
    intro t kt
    refine pre71 _ ?_
    refine XS.iload X71.here hx rfl (hb hby at_186) rfl ?_
    show Steps p.tables e below (T71.setTop (mkF m 188 #[.val (.long va), .second, .val (.int ra), .val (.int rb), .val (.int rx), .val (.int se), .val (.int ln), .val (.int ub), .val (.int qq), .val (.int ca), .val (.int cb), .val (.int cx), .val (.long mm), .second, .val (.ref ac), .unset, .unset, .unset, .unset, .unset, .unset, .unset, .unset, .unset, .unset, .unset, .unset] [(.int ln)])) _
    refine XS.iconst X71.here hx rfl (hb hby at_188) ?_
    exact kt
  obtain ⟨T89, L89, fk4, X89, N89, Z89, K89, KK89, hf89_0, hf89_1, hp89_0, pre89⟩ : ∃ (T89 : State) (L89 : List Loc) (fk4 : Nat → Int32), Stand p l e room_1 (s.setVm s.vm) m #[(.long va), (.int ra), (.int rb), (.int rx), (.int se)] below meth c T89 L89 6 115 ∧ Fr n0 L89 ∧ n0 ≤ T89.heap.size ∧ Keep h0 T89.heap [] ∧ Keep h0 T89.heap [] ∧ Old Z n0 T89.heap ∧ owAI Z T89.heap ac .char nn fk4 ∧ own_fill (own_F ln ca cb cx qq mm nn) nn fk4 4 ∧ ∀ t, Steps p.tables e below (T89.setTop (mkF m 212 #[.val (.long va), .second, .val (.int ra), .val (.int rb), .val (.int rx), .val (.int se), .val (.int ln), .val (.int ub), .val (.int qq), .val (.int ca), .val (.int cb), .val (.int cx), .val (.long mm), .second, .val (.ref ac), .unset, .unset, .unset, .unset, .unset, .unset, .unset, .unset, .unset, .unset, .unset, .unset] [])) t → Steps p.tables e below (s₁.setTop (entryFrame m #[(.long va), (.int ra), (.int rb), (.int rx), (.int se)] maxLocals)) t := by
    by_cases hc189_90 : (3 : Int32) < ln
    · skip
      obtain ⟨_, _, ⟨T91, L91, k91, n91⟩, -, X91, ⟨Lc91, hQ91, l91, y91, z91⟩, st91⟩ := Jvm.LawKit.callS X71 hx (y := (⟨"com/example/relent/relent/WholeNumbersUnsignedPinLaw", "at", "(IICCCIJ)C"⟩ : MethodName)) hown (mvT hZ (hw _ (List.mem_of_getElem? (i := 28) rfl))) (mvT hZ (hw _ (List.mem_of_getElem? (i := 29) rfl))) (mvT hZ (hw _ (List.mem_of_getElem? (i := 2) rfl))) (mvT hZ (hw _ (List.mem_of_getElem? (i := 30) rfl))) (by decide) (backOf (W := 2) (rm3 l Z a0 hw [] (3 : Int32) ln ca cb cx qq mm (nn - 2 - 3) T71.heap n0 Z71 (own_kk hln hn20 (kz := (3 : Int32)) (k := 3) rfl hc189_90)) hZ (hw _ (List.mem_of_getElem? (i := 30) rfl)) (hw _ (List.mem_of_getElem? (i := 2) rfl)) (by decide) (by decide)) (g := (mkF m 208 #[.val (.long va), .second, .val (.int ra), .val (.int rb), .val (.int rx), .val (.int se), .val (.int ln), .val (.int ub), .val (.int qq), .val (.int ca), .val (.int cb), .val (.int cx), .val (.long mm), .second, .val (.ref ac), .unset, .unset, .unset, .unset, .unset, .unset, .unset, .unset, .unset, .unset, .unset, .unset] [(.long mm), (.int qq), (.int cx), (.int cb), (.int ca), (.int ln), (.int (3 : Int32)), (.int (3 : Int32)), (.ref ac)])) rfl (by rw [hml]; rfl) (argsL := [(.int (3 : Int32)), (.int ln), (.int ca), (.int cb), (.int cx), (.int qq), (.long mm)]) (rest := [(.int (3 : Int32)), (.ref ac)]) (lenOf pd_15 rfl) rfl (by show 2 * 0 + _ ≤ _; exact Nat.le_of_eq rfl) (hb hby at_208) (fun _ _ => ⟨rfl, rfl, (by decide : 5 + 1 ≤ _), (by decide : 96 + 19 ≤ _)⟩)
      dsimp only [Pt.U, Pt.locs, Pt.cells, Pt.slots] at X91 l91 y91 z91 st91 hQ91
      subst l91 y91 z91
      obtain ⟨rfl, N91q, K91⟩ := hQ91
      have N91 := Fr.app N71 N91q
      have f92 := hf71_0.keep K91 all0
      have f93 := hf71_1.keep K91 nin0
      have Z94 := Nat.le_trans Z71 K91.1
      have K95 := K71.trans K91 all0
      have K96 := KK71.trans K91 all0
      obtain ⟨T97, gh97, X97, hE97, W97, V97, st97⟩ := owStC X91 hx hZ rfl f93 (k := 3) (j := (3 : Int32)) rfl ((own_lt (i := (3 : Int32)) (a := 3) rfl hln).mp hc189_90) (g := (mkF m 211 #[.val (.long va), .second, .val (.int ra), .val (.int rb), .val (.int rx), .val (.int se), .val (.int ln), .val (.int ub), .val (.int qq), .val (.int ca), .val (.int cb), .val (.int cx), .val (.long mm), .second, .val (.ref ac), .unset, .unset, .unset, .unset, .unset, .unset, .unset, .unset, .unset, .unset, .unset, .unset] [(.int (fn3 (3 : Int32) ln ca cb cx qq mm (nn - 2 - 3))), (.int (3 : Int32)), (.ref ac)])) rfl rfl (hb hby at_211)
      have f98 := f92.wr W97 g_ac
      have Z100 := Nat.le_trans Z94 (Keep.of_wr W97).1
      have N101 := Fr.snoc X97 N91 g_ac
      have K102 := K95.wr W97 (Or.inr sz_ac)
      have K103 := K96.wr W97 (Or.inr sz_ac)
      have pre104 : ∀ t, Steps p.tables e below (T97.setTop (mkF m 212 #[.val (.long va), .second, .val (.int ra), .val (.int rb), .val (.int rx), .val (.int se), .val (.int ln), .val (.int ub), .val (.int qq), .val (.int ca), .val (.int cb), .val (.int cx), .val (.long mm), .second, .val (.ref ac), .unset, .unset, .unset, .unset, .unset, .unset, .unset, .unset, .unset, .unset, .unset, .unset] [])) t → Steps p.tables e below (s₁.setTop (entryFrame m #[(.long va), (.int ra), (.int rb), (.int rx), (.int se)] maxLocals)) t := by
        intro t kt
        refine pre88 _ ?_
        show Steps p.tables e below (T71.setTop (mkF m 189 #[.val (.long va), .second, .val (.int ra), .val (.int rb), .val (.int rx), .val (.int se), .val (.int ln), .val (.int ub), .val (.int qq), .val (.int ca), .val (.int cb), .val (.int cx), .val (.long mm), .second, .val (.ref ac), .unset, .unset, .unset, .unset, .unset, .unset, .unset, .unset, .unset, .unset, .unset, .unset] [(.int (3 : Int32)), (.int ln)])) _
        refine XS.icmpNo X71.here hx rfl (hb hby at_189) rfl (XT.ii_le_f hc189_90) ?_
        refine XS.aload X71.here hx rfl (hb hby at_192) rfl rfl ?_
        refine XS.iconst X71.here hx rfl (hb hby at_194) ?_
        refine XS.iconst X71.here hx rfl (hb hby at_195) ?_
        show Steps p.tables e below (T71.setTop (mkF m 196 #[.val (.long va), .second, .val (.int ra), .val (.int rb), .val (.int rx), .val (.int se), .val (.int ln), .val (.int ub), .val (.int qq), .val (.int ca), .val (.int cb), .val (.int cx), .val (.long mm), .second, .val (.ref ac), .unset, .unset, .unset, .unset, .unset, .unset, .unset, .unset, .unset, .unset, .unset, .unset] [(.int (3 : Int32)), (.int (3 : Int32)), (.ref ac)])) _
        refine XS.iload X71.here hx rfl (hb hby at_196) rfl ?_
        refine XS.iload X71.here hx rfl (hb hby at_198) rfl ?_
        refine XS.iload X71.here hx rfl (hb hby at_200) rfl ?_
        refine XS.iload X71.here hx rfl (hb hby at_202) rfl ?_
        show Steps p.tables e below (T71.setTop (mkF m 204 #[.val (.long va), .second, .val (.int ra), .val (.int rb), .val (.int rx), .val (.int se), .val (.int ln), .val (.int ub), .val (.int qq), .val (.int ca), .val (.int cb), .val (.int cx), .val (.long mm), .second, .val (.ref ac), .unset, .unset, .unset, .unset, .unset, .unset, .unset, .unset, .unset, .unset, .unset, .unset] [(.int cx), (.int cb), (.int ca), (.int ln), (.int (3 : Int32)), (.int (3 : Int32)), (.ref ac)])) _
        refine XS.iload X71.here hx rfl (hb hby at_204) rfl ?_
        refine XS.lload X71.here hx rfl (hb hby at_206) rfl ?_
        show Steps p.tables e below (T71.setTop (mkF m 208 #[.val (.long va), .second, .val (.int ra), .val (.int rb), .val (.int rx), .val (.int se), .val (.int ln), .val (.int ub), .val (.int qq), .val (.int ca), .val (.int cb), .val (.int cx), .val (.long mm), .second, .val (.ref ac), .unset, .unset, .unset, .unset, .unset, .unset, .unset, .unset, .unset, .unset, .unset, .unset] [(.long mm), (.int qq), (.int cx), (.int cb), (.int ca), (.int ln), (.int (3 : Int32)), (.int (3 : Int32)), (.ref ac)])) _
        refine st91 _ ?_
        show Steps p.tables e below (T91.setTop (mkF m 211 #[.val (.long va), .second, .val (.int ra), .val (.int rb), .val (.int rx), .val (.int se), .val (.int ln), .val (.int ub), .val (.int qq), .val (.int ca), .val (.int cb), .val (.int cx), .val (.long mm), .second, .val (.ref ac), .unset, .unset, .unset, .unset, .unset, .unset, .unset, .unset, .unset, .unset, .unset, .unset] [(.int (fn3 (3 : Int32) ln ca cb cx qq mm (nn - 2 - 3))), (.int (3 : Int32)), (.ref ac)])) _
        refine st97 _ ?_
        exact kt
      have eJ : T97.heap = gh97 := hE97
      exact ⟨T97, _, (owUp fk3 3 ((fn3 (3 : Int32) ln ca cb cx qq mm (nn - 2 - 3)).toUInt32.toUInt16.toUInt32.toInt32)), X97.mono (by decide) (by decide), N101, (by rw [eJ]; exact Z100), (by rw [eJ]; exact K102), (by rw [eJ]; exact K103), (by rw [eJ]; exact f98), (by rw [eJ]; exact V97), (own_fillS (k := 3) hl3), fun t kt => pre104 _ kt⟩
    · skip
      have pre105 : ∀ t, Steps p.tables e below (T71.setTop (mkF m 212 #[.val (.long va), .second, .val (.int ra), .val (.int rb), .val (.int rx), .val (.int se), .val (.int ln), .val (.int ub), .val (.int qq), .val (.int ca), .val (.int cb), .val (.int cx), .val (.long mm), .second, .val (.ref ac), .unset, .unset, .unset, .unset, .unset, .unset, .unset, .unset, .unset, .unset, .unset, .unset] [])) t → Steps p.tables e below (s₁.setTop (entryFrame m #[(.long va), (.int ra), (.int rb), (.int rx), (.int se)] maxLocals)) t := by
        intro t kt
        refine pre88 _ ?_
        show Steps p.tables e below (T71.setTop (mkF m 189 #[.val (.long va), .second, .val (.int ra), .val (.int rb), .val (.int rx), .val (.int se), .val (.int ln), .val (.int ub), .val (.int qq), .val (.int ca), .val (.int cb), .val (.int cx), .val (.long mm), .second, .val (.ref ac), .unset, .unset, .unset, .unset, .unset, .unset, .unset, .unset, .unset, .unset, .unset, .unset] [(.int (3 : Int32)), (.int ln)])) _
        refine XS.icmpYes X71.here hx rfl (pc0 := 189) (pc' := 212) rfl (hb hby at_189) rfl (XT.ii_le_t hc189_90) (by decide) (by decide) ?_
        exact kt
      have eJ : T71.heap = T71.heap := rfl
      exact ⟨T71, _, fk3, X71.mono (by decide) (by decide), N71, (by rw [eJ]; exact Z71), (by rw [eJ]; exact K71), (by rw [eJ]; exact KK71), (by rw [eJ]; exact hf71_0), (by rw [eJ]; exact hf71_1), (own_fillN hln (kz := (3 : Int32)) (k := 3) rfl hc189_90 hl3), fun t kt => pre105 _ kt⟩
  have hl4 := hp89_0
  have pre106 : ∀ t, Steps p.tables e below (T89.setTop (mkF m 215 #[.val (.long va), .second, .val (.int ra), .val (.int rb), .val (.int rx), .val (.int se), .val (.int ln), .val (.int ub), .val (.int qq), .val (.int ca), .val (.int cb), .val (.int cx), .val (.long mm), .second, .val (.ref ac), .unset, .unset, .unset, .unset, .unset, .unset, .unset, .unset, .unset, .unset, .unset, .unset] [(.int (4 : Int32)), (.int ln)])) t → Steps p.tables e below (s₁.setTop (entryFrame m #[(.long va), (.int ra), (.int rb), (.int rx), (.int se)] maxLocals)) t := by
    intro t kt
    refine pre89 _ ?_
    refine XS.iload X89.here hx rfl (hb hby at_212) rfl ?_
    refine XS.iconst X89.here hx rfl (hb hby at_214) ?_
    exact kt
  obtain ⟨T107, L107, fk5, X107, N107, Z107, K107, KK107, hf107_0, hf107_1, hp107_0, pre107⟩ : ∃ (T107 : State) (L107 : List Loc) (fk5 : Nat → Int32), Stand p l e room_1 (s.setVm s.vm) m #[(.long va), (.int ra), (.int rb), (.int rx), (.int se)] below meth c T107 L107 7 134 ∧ Fr n0 L107 ∧ n0 ≤ T107.heap.size ∧ Keep h0 T107.heap [] ∧ Keep h0 T107.heap [] ∧ Old Z n0 T107.heap ∧ owAI Z T107.heap ac .char nn fk5 ∧ own_fill (own_F ln ca cb cx qq mm nn) nn fk5 5 ∧ ∀ t, Steps p.tables e below (T107.setTop (mkF m 238 #[.val (.long va), .second, .val (.int ra), .val (.int rb), .val (.int rx), .val (.int se), .val (.int ln), .val (.int ub), .val (.int qq), .val (.int ca), .val (.int cb), .val (.int cx), .val (.long mm), .second, .val (.ref ac), .unset, .unset, .unset, .unset, .unset, .unset, .unset, .unset, .unset, .unset, .unset, .unset] [])) t → Steps p.tables e below (s₁.setTop (entryFrame m #[(.long va), (.int ra), (.int rb), (.int rx), (.int se)] maxLocals)) t := by
    by_cases hc215_108 : (4 : Int32) < ln
    · skip
      obtain ⟨_, _, ⟨T109, L109, k109, n109⟩, -, X109, ⟨Lc109, hQ109, l109, y109, z109⟩, st109⟩ := Jvm.LawKit.callS X89 hx (y := (⟨"com/example/relent/relent/WholeNumbersUnsignedPinLaw", "at", "(IICCCIJ)C"⟩ : MethodName)) hown (mvT hZ (hw _ (List.mem_of_getElem? (i := 28) rfl))) (mvT hZ (hw _ (List.mem_of_getElem? (i := 29) rfl))) (mvT hZ (hw _ (List.mem_of_getElem? (i := 2) rfl))) (mvT hZ (hw _ (List.mem_of_getElem? (i := 30) rfl))) (by decide) (backOf (W := 2) (rm3 l Z a0 hw [] (4 : Int32) ln ca cb cx qq mm (nn - 2 - 4) T89.heap n0 Z89 (own_kk hln hn20 (kz := (4 : Int32)) (k := 4) rfl hc215_108)) hZ (hw _ (List.mem_of_getElem? (i := 30) rfl)) (hw _ (List.mem_of_getElem? (i := 2) rfl)) (by decide) (by decide)) (g := (mkF m 234 #[.val (.long va), .second, .val (.int ra), .val (.int rb), .val (.int rx), .val (.int se), .val (.int ln), .val (.int ub), .val (.int qq), .val (.int ca), .val (.int cb), .val (.int cx), .val (.long mm), .second, .val (.ref ac), .unset, .unset, .unset, .unset, .unset, .unset, .unset, .unset, .unset, .unset, .unset, .unset] [(.long mm), (.int qq), (.int cx), (.int cb), (.int ca), (.int ln), (.int (4 : Int32)), (.int (4 : Int32)), (.ref ac)])) rfl (by rw [hml]; rfl) (argsL := [(.int (4 : Int32)), (.int ln), (.int ca), (.int cb), (.int cx), (.int qq), (.long mm)]) (rest := [(.int (4 : Int32)), (.ref ac)]) (lenOf pd_15 rfl) rfl (by show 2 * 0 + _ ≤ _; exact Nat.le_of_eq rfl) (hb hby at_234) (fun _ _ => ⟨rfl, rfl, (by decide : 6 + 1 ≤ _), (by decide : 115 + 19 ≤ _)⟩)
      dsimp only [Pt.U, Pt.locs, Pt.cells, Pt.slots] at X109 l109 y109 z109 st109 hQ109
      subst l109 y109 z109
      obtain ⟨rfl, N109q, K109⟩ := hQ109
      have N109 := Fr.app N89 N109q
      have f110 := hf89_0.keep K109 all0
      have f111 := hf89_1.keep K109 nin0
      have Z112 := Nat.le_trans Z89 K109.1
      have K113 := K89.trans K109 all0
      have K114 := KK89.trans K109 all0
      obtain ⟨T115, gh115, X115, hE115, W115, V115, st115⟩ := owStC X109 hx hZ rfl f111 (k := 4) (j := (4 : Int32)) rfl ((own_lt (i := (4 : Int32)) (a := 4) rfl hln).mp hc215_108) (g := (mkF m 237 #[.val (.long va), .second, .val (.int ra), .val (.int rb), .val (.int rx), .val (.int se), .val (.int ln), .val (.int ub), .val (.int qq), .val (.int ca), .val (.int cb), .val (.int cx), .val (.long mm), .second, .val (.ref ac), .unset, .unset, .unset, .unset, .unset, .unset, .unset, .unset, .unset, .unset, .unset, .unset] [(.int (fn3 (4 : Int32) ln ca cb cx qq mm (nn - 2 - 4))), (.int (4 : Int32)), (.ref ac)])) rfl rfl (hb hby at_237)
      have f116 := f110.wr W115 g_ac
      have Z118 := Nat.le_trans Z112 (Keep.of_wr W115).1
      have N119 := Fr.snoc X115 N109 g_ac
      have K120 := K113.wr W115 (Or.inr sz_ac)
      have K121 := K114.wr W115 (Or.inr sz_ac)
      have pre122 : ∀ t, Steps p.tables e below (T115.setTop (mkF m 238 #[.val (.long va), .second, .val (.int ra), .val (.int rb), .val (.int rx), .val (.int se), .val (.int ln), .val (.int ub), .val (.int qq), .val (.int ca), .val (.int cb), .val (.int cx), .val (.long mm), .second, .val (.ref ac), .unset, .unset, .unset, .unset, .unset, .unset, .unset, .unset, .unset, .unset, .unset, .unset] [])) t → Steps p.tables e below (s₁.setTop (entryFrame m #[(.long va), (.int ra), (.int rb), (.int rx), (.int se)] maxLocals)) t := by
        intro t kt
        refine pre106 _ ?_
        show Steps p.tables e below (T89.setTop (mkF m 215 #[.val (.long va), .second, .val (.int ra), .val (.int rb), .val (.int rx), .val (.int se), .val (.int ln), .val (.int ub), .val (.int qq), .val (.int ca), .val (.int cb), .val (.int cx), .val (.long mm), .second, .val (.ref ac), .unset, .unset, .unset, .unset, .unset, .unset, .unset, .unset, .unset, .unset, .unset, .unset] [(.int (4 : Int32)), (.int ln)])) _
        refine XS.icmpNo X89.here hx rfl (hb hby at_215) rfl (XT.ii_le_f hc215_108) ?_
        refine XS.aload X89.here hx rfl (hb hby at_218) rfl rfl ?_
        refine XS.iconst X89.here hx rfl (hb hby at_220) ?_
        refine XS.iconst X89.here hx rfl (hb hby at_221) ?_
        show Steps p.tables e below (T89.setTop (mkF m 222 #[.val (.long va), .second, .val (.int ra), .val (.int rb), .val (.int rx), .val (.int se), .val (.int ln), .val (.int ub), .val (.int qq), .val (.int ca), .val (.int cb), .val (.int cx), .val (.long mm), .second, .val (.ref ac), .unset, .unset, .unset, .unset, .unset, .unset, .unset, .unset, .unset, .unset, .unset, .unset] [(.int (4 : Int32)), (.int (4 : Int32)), (.ref ac)])) _
        refine XS.iload X89.here hx rfl (hb hby at_222) rfl ?_
        refine XS.iload X89.here hx rfl (hb hby at_224) rfl ?_
        refine XS.iload X89.here hx rfl (hb hby at_226) rfl ?_
        refine XS.iload X89.here hx rfl (hb hby at_228) rfl ?_
        show Steps p.tables e below (T89.setTop (mkF m 230 #[.val (.long va), .second, .val (.int ra), .val (.int rb), .val (.int rx), .val (.int se), .val (.int ln), .val (.int ub), .val (.int qq), .val (.int ca), .val (.int cb), .val (.int cx), .val (.long mm), .second, .val (.ref ac), .unset, .unset, .unset, .unset, .unset, .unset, .unset, .unset, .unset, .unset, .unset, .unset] [(.int cx), (.int cb), (.int ca), (.int ln), (.int (4 : Int32)), (.int (4 : Int32)), (.ref ac)])) _
        refine XS.iload X89.here hx rfl (hb hby at_230) rfl ?_
        refine XS.lload X89.here hx rfl (hb hby at_232) rfl ?_
        show Steps p.tables e below (T89.setTop (mkF m 234 #[.val (.long va), .second, .val (.int ra), .val (.int rb), .val (.int rx), .val (.int se), .val (.int ln), .val (.int ub), .val (.int qq), .val (.int ca), .val (.int cb), .val (.int cx), .val (.long mm), .second, .val (.ref ac), .unset, .unset, .unset, .unset, .unset, .unset, .unset, .unset, .unset, .unset, .unset, .unset] [(.long mm), (.int qq), (.int cx), (.int cb), (.int ca), (.int ln), (.int (4 : Int32)), (.int (4 : Int32)), (.ref ac)])) _
        refine st109 _ ?_
        show Steps p.tables e below (T109.setTop (mkF m 237 #[.val (.long va), .second, .val (.int ra), .val (.int rb), .val (.int rx), .val (.int se), .val (.int ln), .val (.int ub), .val (.int qq), .val (.int ca), .val (.int cb), .val (.int cx), .val (.long mm), .second, .val (.ref ac), .unset, .unset, .unset, .unset, .unset, .unset, .unset, .unset, .unset, .unset, .unset, .unset] [(.int (fn3 (4 : Int32) ln ca cb cx qq mm (nn - 2 - 4))), (.int (4 : Int32)), (.ref ac)])) _
        refine st115 _ ?_
        exact kt
      have eJ : T115.heap = gh115 := hE115
      exact ⟨T115, _, (owUp fk4 4 ((fn3 (4 : Int32) ln ca cb cx qq mm (nn - 2 - 4)).toUInt32.toUInt16.toUInt32.toInt32)), X115.mono (by decide) (by decide), N119, (by rw [eJ]; exact Z118), (by rw [eJ]; exact K120), (by rw [eJ]; exact K121), (by rw [eJ]; exact f116), (by rw [eJ]; exact V115), (own_fillS (k := 4) hl4), fun t kt => pre122 _ kt⟩
    · skip
      have pre123 : ∀ t, Steps p.tables e below (T89.setTop (mkF m 238 #[.val (.long va), .second, .val (.int ra), .val (.int rb), .val (.int rx), .val (.int se), .val (.int ln), .val (.int ub), .val (.int qq), .val (.int ca), .val (.int cb), .val (.int cx), .val (.long mm), .second, .val (.ref ac), .unset, .unset, .unset, .unset, .unset, .unset, .unset, .unset, .unset, .unset, .unset, .unset] [])) t → Steps p.tables e below (s₁.setTop (entryFrame m #[(.long va), (.int ra), (.int rb), (.int rx), (.int se)] maxLocals)) t := by
        intro t kt
        refine pre106 _ ?_
        show Steps p.tables e below (T89.setTop (mkF m 215 #[.val (.long va), .second, .val (.int ra), .val (.int rb), .val (.int rx), .val (.int se), .val (.int ln), .val (.int ub), .val (.int qq), .val (.int ca), .val (.int cb), .val (.int cx), .val (.long mm), .second, .val (.ref ac), .unset, .unset, .unset, .unset, .unset, .unset, .unset, .unset, .unset, .unset, .unset, .unset] [(.int (4 : Int32)), (.int ln)])) _
        refine XS.icmpYes X89.here hx rfl (pc0 := 215) (pc' := 238) rfl (hb hby at_215) rfl (XT.ii_le_t hc215_108) (by decide) (by decide) ?_
        exact kt
      have eJ : T89.heap = T89.heap := rfl
      exact ⟨T89, _, fk4, X89.mono (by decide) (by decide), N89, (by rw [eJ]; exact Z89), (by rw [eJ]; exact K89), (by rw [eJ]; exact KK89), (by rw [eJ]; exact hf89_0), (by rw [eJ]; exact hf89_1), (own_fillN hln (kz := (4 : Int32)) (k := 4) rfl hc215_108 hl4), fun t kt => pre123 _ kt⟩
  have hl5 := hp107_0
  have pre124 : ∀ t, Steps p.tables e below (T107.setTop (mkF m 241 #[.val (.long va), .second, .val (.int ra), .val (.int rb), .val (.int rx), .val (.int se), .val (.int ln), .val (.int ub), .val (.int qq), .val (.int ca), .val (.int cb), .val (.int cx), .val (.long mm), .second, .val (.ref ac), .unset, .unset, .unset, .unset, .unset, .unset, .unset, .unset, .unset, .unset, .unset, .unset] [(.int (5 : Int32)), (.int ln)])) t → Steps p.tables e below (s₁.setTop (entryFrame m #[(.long va), (.int ra), (.int rb), (.int rx), (.int se)] maxLocals)) t := by
    intro t kt
    refine pre107 _ ?_
    refine XS.iload X107.here hx rfl (hb hby at_238) rfl ?_
    show Steps p.tables e below (T107.setTop (mkF m 240 #[.val (.long va), .second, .val (.int ra), .val (.int rb), .val (.int rx), .val (.int se), .val (.int ln), .val (.int ub), .val (.int qq), .val (.int ca), .val (.int cb), .val (.int cx), .val (.long mm), .second, .val (.ref ac), .unset, .unset, .unset, .unset, .unset, .unset, .unset, .unset, .unset, .unset, .unset, .unset] [(.int ln)])) _
    refine XS.iconst X107.here hx rfl (hb hby at_240) ?_
    exact kt
  obtain ⟨T125, L125, fk6, X125, N125, Z125, K125, KK125, hf125_0, hf125_1, hp125_0, pre125⟩ : ∃ (T125 : State) (L125 : List Loc) (fk6 : Nat → Int32), Stand p l e room_1 (s.setVm s.vm) m #[(.long va), (.int ra), (.int rb), (.int rx), (.int se)] below meth c T125 L125 8 153 ∧ Fr n0 L125 ∧ n0 ≤ T125.heap.size ∧ Keep h0 T125.heap [] ∧ Keep h0 T125.heap [] ∧ Old Z n0 T125.heap ∧ owAI Z T125.heap ac .char nn fk6 ∧ own_fill (own_F ln ca cb cx qq mm nn) nn fk6 6 ∧ ∀ t, Steps p.tables e below (T125.setTop (mkF m 264 #[.val (.long va), .second, .val (.int ra), .val (.int rb), .val (.int rx), .val (.int se), .val (.int ln), .val (.int ub), .val (.int qq), .val (.int ca), .val (.int cb), .val (.int cx), .val (.long mm), .second, .val (.ref ac), .unset, .unset, .unset, .unset, .unset, .unset, .unset, .unset, .unset, .unset, .unset, .unset] [])) t → Steps p.tables e below (s₁.setTop (entryFrame m #[(.long va), (.int ra), (.int rb), (.int rx), (.int se)] maxLocals)) t := by
    by_cases hc241_126 : (5 : Int32) < ln
    · skip
      obtain ⟨_, _, ⟨T127, L127, k127, n127⟩, -, X127, ⟨Lc127, hQ127, l127, y127, z127⟩, st127⟩ := Jvm.LawKit.callS X107 hx (y := (⟨"com/example/relent/relent/WholeNumbersUnsignedPinLaw", "at", "(IICCCIJ)C"⟩ : MethodName)) hown (mvT hZ (hw _ (List.mem_of_getElem? (i := 28) rfl))) (mvT hZ (hw _ (List.mem_of_getElem? (i := 29) rfl))) (mvT hZ (hw _ (List.mem_of_getElem? (i := 2) rfl))) (mvT hZ (hw _ (List.mem_of_getElem? (i := 30) rfl))) (by decide) (backOf (W := 2) (rm3 l Z a0 hw [] (5 : Int32) ln ca cb cx qq mm (nn - 2 - 5) T107.heap n0 Z107 (own_kk hln hn20 (kz := (5 : Int32)) (k := 5) rfl hc241_126)) hZ (hw _ (List.mem_of_getElem? (i := 30) rfl)) (hw _ (List.mem_of_getElem? (i := 2) rfl)) (by decide) (by decide)) (g := (mkF m 260 #[.val (.long va), .second, .val (.int ra), .val (.int rb), .val (.int rx), .val (.int se), .val (.int ln), .val (.int ub), .val (.int qq), .val (.int ca), .val (.int cb), .val (.int cx), .val (.long mm), .second, .val (.ref ac), .unset, .unset, .unset, .unset, .unset, .unset, .unset, .unset, .unset, .unset, .unset, .unset] [(.long mm), (.int qq), (.int cx), (.int cb), (.int ca), (.int ln), (.int (5 : Int32)), (.int (5 : Int32)), (.ref ac)])) rfl (by rw [hml]; rfl) (argsL := [(.int (5 : Int32)), (.int ln), (.int ca), (.int cb), (.int cx), (.int qq), (.long mm)]) (rest := [(.int (5 : Int32)), (.ref ac)]) (lenOf pd_15 rfl) rfl (by show 2 * 0 + _ ≤ _; exact Nat.le_of_eq rfl) (hb hby at_260) (fun _ _ => ⟨rfl, rfl, (by decide : 7 + 1 ≤ _), (by decide : 134 + 19 ≤ _)⟩)
      dsimp only [Pt.U, Pt.locs, Pt.cells, Pt.slots] at X127 l127 y127 z127 st127 hQ127
      subst l127 y127 z127
      obtain ⟨rfl, N127q, K127⟩ := hQ127
      have N127 := Fr.app N107 N127q
      have f128 := hf107_0.keep K127 all0
      have f129 := hf107_1.keep K127 nin0
      have Z130 := Nat.le_trans Z107 K127.1
      have K131 := K107.trans K127 all0
      have K132 := KK107.trans K127 all0
      obtain ⟨T133, gh133, X133, hE133, W133, V133, st133⟩ := owStC X127 hx hZ rfl f129 (k := 5) (j := (5 : Int32)) rfl ((own_lt (i := (5 : Int32)) (a := 5) rfl hln).mp hc241_126) (g := (mkF m 263 #[.val (.long va), .second, .val (.int ra), .val (.int rb), .val (.int rx), .val (.int se), .val (.int ln), .val (.int ub), .val (.int qq), .val (.int ca), .val (.int cb), .val (.int cx), .val (.long mm), .second, .val (.ref ac), .unset, .unset, .unset, .unset, .unset, .unset, .unset, .unset, .unset, .unset, .unset, .unset] [(.int (fn3 (5 : Int32) ln ca cb cx qq mm (nn - 2 - 5))), (.int (5 : Int32)), (.ref ac)])) rfl rfl (hb hby at_263)
      have f134 := f128.wr W133 g_ac
      have Z136 := Nat.le_trans Z130 (Keep.of_wr W133).1
      have N137 := Fr.snoc X133 N127 g_ac
      have K138 := K131.wr W133 (Or.inr sz_ac)
      have K139 := K132.wr W133 (Or.inr sz_ac)
      have pre140 : ∀ t, Steps p.tables e below (T133.setTop (mkF m 264 #[.val (.long va), .second, .val (.int ra), .val (.int rb), .val (.int rx), .val (.int se), .val (.int ln), .val (.int ub), .val (.int qq), .val (.int ca), .val (.int cb), .val (.int cx), .val (.long mm), .second, .val (.ref ac), .unset, .unset, .unset, .unset, .unset, .unset, .unset, .unset, .unset, .unset, .unset, .unset] [])) t → Steps p.tables e below (s₁.setTop (entryFrame m #[(.long va), (.int ra), (.int rb), (.int rx), (.int se)] maxLocals)) t := by
        intro t kt
        refine pre124 _ ?_
        show Steps p.tables e below (T107.setTop (mkF m 241 #[.val (.long va), .second, .val (.int ra), .val (.int rb), .val (.int rx), .val (.int se), .val (.int ln), .val (.int ub), .val (.int qq), .val (.int ca), .val (.int cb), .val (.int cx), .val (.long mm), .second, .val (.ref ac), .unset, .unset, .unset, .unset, .unset, .unset, .unset, .unset, .unset, .unset, .unset, .unset] [(.int (5 : Int32)), (.int ln)])) _
        refine XS.icmpNo X107.here hx rfl (hb hby at_241) rfl (XT.ii_le_f hc241_126) ?_
        refine XS.aload X107.here hx rfl (hb hby at_244) rfl rfl ?_
        refine XS.iconst X107.here hx rfl (hb hby at_246) ?_
        refine XS.iconst X107.here hx rfl (hb hby at_247) ?_
        show Steps p.tables e below (T107.setTop (mkF m 248 #[.val (.long va), .second, .val (.int ra), .val (.int rb), .val (.int rx), .val (.int se), .val (.int ln), .val (.int ub), .val (.int qq), .val (.int ca), .val (.int cb), .val (.int cx), .val (.long mm), .second, .val (.ref ac), .unset, .unset, .unset, .unset, .unset, .unset, .unset, .unset, .unset, .unset, .unset, .unset] [(.int (5 : Int32)), (.int (5 : Int32)), (.ref ac)])) _
        refine XS.iload X107.here hx rfl (hb hby at_248) rfl ?_
        refine XS.iload X107.here hx rfl (hb hby at_250) rfl ?_
        refine XS.iload X107.here hx rfl (hb hby at_252) rfl ?_
        refine XS.iload X107.here hx rfl (hb hby at_254) rfl ?_
        show Steps p.tables e below (T107.setTop (mkF m 256 #[.val (.long va), .second, .val (.int ra), .val (.int rb), .val (.int rx), .val (.int se), .val (.int ln), .val (.int ub), .val (.int qq), .val (.int ca), .val (.int cb), .val (.int cx), .val (.long mm), .second, .val (.ref ac), .unset, .unset, .unset, .unset, .unset, .unset, .unset, .unset, .unset, .unset, .unset, .unset] [(.int cx), (.int cb), (.int ca), (.int ln), (.int (5 : Int32)), (.int (5 : Int32)), (.ref ac)])) _
        refine XS.iload X107.here hx rfl (hb hby at_256) rfl ?_
        refine XS.lload X107.here hx rfl (hb hby at_258) rfl ?_
        show Steps p.tables e below (T107.setTop (mkF m 260 #[.val (.long va), .second, .val (.int ra), .val (.int rb), .val (.int rx), .val (.int se), .val (.int ln), .val (.int ub), .val (.int qq), .val (.int ca), .val (.int cb), .val (.int cx), .val (.long mm), .second, .val (.ref ac), .unset, .unset, .unset, .unset, .unset, .unset, .unset, .unset, .unset, .unset, .unset, .unset] [(.long mm), (.int qq), (.int cx), (.int cb), (.int ca), (.int ln), (.int (5 : Int32)), (.int (5 : Int32)), (.ref ac)])) _
        refine st127 _ ?_
        show Steps p.tables e below (T127.setTop (mkF m 263 #[.val (.long va), .second, .val (.int ra), .val (.int rb), .val (.int rx), .val (.int se), .val (.int ln), .val (.int ub), .val (.int qq), .val (.int ca), .val (.int cb), .val (.int cx), .val (.long mm), .second, .val (.ref ac), .unset, .unset, .unset, .unset, .unset, .unset, .unset, .unset, .unset, .unset, .unset, .unset] [(.int (fn3 (5 : Int32) ln ca cb cx qq mm (nn - 2 - 5))), (.int (5 : Int32)), (.ref ac)])) _
        refine st133 _ ?_
        exact kt
      have eJ : T133.heap = gh133 := hE133
      exact ⟨T133, _, (owUp fk5 5 ((fn3 (5 : Int32) ln ca cb cx qq mm (nn - 2 - 5)).toUInt32.toUInt16.toUInt32.toInt32)), X133.mono (by decide) (by decide), N137, (by rw [eJ]; exact Z136), (by rw [eJ]; exact K138), (by rw [eJ]; exact K139), (by rw [eJ]; exact f134), (by rw [eJ]; exact V133), (own_fillS (k := 5) hl5), fun t kt => pre140 _ kt⟩
    · skip
      have pre141 : ∀ t, Steps p.tables e below (T107.setTop (mkF m 264 #[.val (.long va), .second, .val (.int ra), .val (.int rb), .val (.int rx), .val (.int se), .val (.int ln), .val (.int ub), .val (.int qq), .val (.int ca), .val (.int cb), .val (.int cx), .val (.long mm), .second, .val (.ref ac), .unset, .unset, .unset, .unset, .unset, .unset, .unset, .unset, .unset, .unset, .unset, .unset] [])) t → Steps p.tables e below (s₁.setTop (entryFrame m #[(.long va), (.int ra), (.int rb), (.int rx), (.int se)] maxLocals)) t := by
        intro t kt
        refine pre124 _ ?_
        show Steps p.tables e below (T107.setTop (mkF m 241 #[.val (.long va), .second, .val (.int ra), .val (.int rb), .val (.int rx), .val (.int se), .val (.int ln), .val (.int ub), .val (.int qq), .val (.int ca), .val (.int cb), .val (.int cx), .val (.long mm), .second, .val (.ref ac), .unset, .unset, .unset, .unset, .unset, .unset, .unset, .unset, .unset, .unset, .unset, .unset] [(.int (5 : Int32)), (.int ln)])) _
        refine XS.icmpYes X107.here hx rfl (pc0 := 241) (pc' := 264) rfl (hb hby at_241) rfl (XT.ii_le_t hc241_126) (by decide) (by decide) ?_
        exact kt
      have eJ : T107.heap = T107.heap := rfl
      exact ⟨T107, _, fk5, X107.mono (by decide) (by decide), N107, (by rw [eJ]; exact Z107), (by rw [eJ]; exact K107), (by rw [eJ]; exact KK107), (by rw [eJ]; exact hf107_0), (by rw [eJ]; exact hf107_1), (own_fillN hln (kz := (5 : Int32)) (k := 5) rfl hc241_126 hl5), fun t kt => pre141 _ kt⟩
  have hl6 := hp125_0
  have pre142 : ∀ t, Steps p.tables e below (T125.setTop (mkF m 268 #[.val (.long va), .second, .val (.int ra), .val (.int rb), .val (.int rx), .val (.int se), .val (.int ln), .val (.int ub), .val (.int qq), .val (.int ca), .val (.int cb), .val (.int cx), .val (.long mm), .second, .val (.ref ac), .unset, .unset, .unset, .unset, .unset, .unset, .unset, .unset, .unset, .unset, .unset, .unset] [(.int (6 : Int32)), (.int ln)])) t → Steps p.tables e below (s₁.setTop (entryFrame m #[(.long va), (.int ra), (.int rb), (.int rx), (.int se)] maxLocals)) t := by
    intro t kt
    refine pre125 _ ?_
    refine XS.iload X125.here hx rfl (hb hby at_264) rfl ?_
    refine XS.bipush X125.here hx rfl (hb hby at_266) ?_
    exact kt
  obtain ⟨T143, L143, fk7, X143, N143, Z143, K143, KK143, hf143_0, hf143_1, hp143_0, pre143⟩ : ∃ (T143 : State) (L143 : List Loc) (fk7 : Nat → Int32), Stand p l e room_1 (s.setVm s.vm) m #[(.long va), (.int ra), (.int rb), (.int rx), (.int se)] below meth c T143 L143 9 172 ∧ Fr n0 L143 ∧ n0 ≤ T143.heap.size ∧ Keep h0 T143.heap [] ∧ Keep h0 T143.heap [] ∧ Old Z n0 T143.heap ∧ owAI Z T143.heap ac .char nn fk7 ∧ own_fill (own_F ln ca cb cx qq mm nn) nn fk7 7 ∧ ∀ t, Steps p.tables e below (T143.setTop (mkF m 293 #[.val (.long va), .second, .val (.int ra), .val (.int rb), .val (.int rx), .val (.int se), .val (.int ln), .val (.int ub), .val (.int qq), .val (.int ca), .val (.int cb), .val (.int cx), .val (.long mm), .second, .val (.ref ac), .unset, .unset, .unset, .unset, .unset, .unset, .unset, .unset, .unset, .unset, .unset, .unset] [])) t → Steps p.tables e below (s₁.setTop (entryFrame m #[(.long va), (.int ra), (.int rb), (.int rx), (.int se)] maxLocals)) t := by
    by_cases hc268_144 : (6 : Int32) < ln
    · skip
      obtain ⟨_, _, ⟨T145, L145, k145, n145⟩, -, X145, ⟨Lc145, hQ145, l145, y145, z145⟩, st145⟩ := Jvm.LawKit.callS X125 hx (y := (⟨"com/example/relent/relent/WholeNumbersUnsignedPinLaw", "at", "(IICCCIJ)C"⟩ : MethodName)) hown (mvT hZ (hw _ (List.mem_of_getElem? (i := 28) rfl))) (mvT hZ (hw _ (List.mem_of_getElem? (i := 29) rfl))) (mvT hZ (hw _ (List.mem_of_getElem? (i := 2) rfl))) (mvT hZ (hw _ (List.mem_of_getElem? (i := 30) rfl))) (by decide) (backOf (W := 2) (rm3 l Z a0 hw [] (6 : Int32) ln ca cb cx qq mm (nn - 2 - 6) T125.heap n0 Z125 (own_kk hln hn20 (kz := (6 : Int32)) (k := 6) rfl hc268_144)) hZ (hw _ (List.mem_of_getElem? (i := 30) rfl)) (hw _ (List.mem_of_getElem? (i := 2) rfl)) (by decide) (by decide)) (g := (mkF m 289 #[.val (.long va), .second, .val (.int ra), .val (.int rb), .val (.int rx), .val (.int se), .val (.int ln), .val (.int ub), .val (.int qq), .val (.int ca), .val (.int cb), .val (.int cx), .val (.long mm), .second, .val (.ref ac), .unset, .unset, .unset, .unset, .unset, .unset, .unset, .unset, .unset, .unset, .unset, .unset] [(.long mm), (.int qq), (.int cx), (.int cb), (.int ca), (.int ln), (.int (6 : Int32)), (.int (6 : Int32)), (.ref ac)])) rfl (by rw [hml]; rfl) (argsL := [(.int (6 : Int32)), (.int ln), (.int ca), (.int cb), (.int cx), (.int qq), (.long mm)]) (rest := [(.int (6 : Int32)), (.ref ac)]) (lenOf pd_15 rfl) rfl (by show 2 * 0 + _ ≤ _; exact Nat.le_of_eq rfl) (hb hby at_289) (fun _ _ => ⟨rfl, rfl, (by decide : 8 + 1 ≤ _), (by decide : 153 + 19 ≤ _)⟩)
      dsimp only [Pt.U, Pt.locs, Pt.cells, Pt.slots] at X145 l145 y145 z145 st145 hQ145
      subst l145 y145 z145
      obtain ⟨rfl, N145q, K145⟩ := hQ145
      have N145 := Fr.app N125 N145q
      have f146 := hf125_0.keep K145 all0
      have f147 := hf125_1.keep K145 nin0
      have Z148 := Nat.le_trans Z125 K145.1
      have K149 := K125.trans K145 all0
      have K150 := KK125.trans K145 all0
      obtain ⟨T151, gh151, X151, hE151, W151, V151, st151⟩ := owStC X145 hx hZ rfl f147 (k := 6) (j := (6 : Int32)) rfl ((own_lt (i := (6 : Int32)) (a := 6) rfl hln).mp hc268_144) (g := (mkF m 292 #[.val (.long va), .second, .val (.int ra), .val (.int rb), .val (.int rx), .val (.int se), .val (.int ln), .val (.int ub), .val (.int qq), .val (.int ca), .val (.int cb), .val (.int cx), .val (.long mm), .second, .val (.ref ac), .unset, .unset, .unset, .unset, .unset, .unset, .unset, .unset, .unset, .unset, .unset, .unset] [(.int (fn3 (6 : Int32) ln ca cb cx qq mm (nn - 2 - 6))), (.int (6 : Int32)), (.ref ac)])) rfl rfl (hb hby at_292)
      have f152 := f146.wr W151 g_ac
      have Z154 := Nat.le_trans Z148 (Keep.of_wr W151).1
      have N155 := Fr.snoc X151 N145 g_ac
      have K156 := K149.wr W151 (Or.inr sz_ac)
      have K157 := K150.wr W151 (Or.inr sz_ac)
      have pre158 : ∀ t, Steps p.tables e below (T151.setTop (mkF m 293 #[.val (.long va), .second, .val (.int ra), .val (.int rb), .val (.int rx), .val (.int se), .val (.int ln), .val (.int ub), .val (.int qq), .val (.int ca), .val (.int cb), .val (.int cx), .val (.long mm), .second, .val (.ref ac), .unset, .unset, .unset, .unset, .unset, .unset, .unset, .unset, .unset, .unset, .unset, .unset] [])) t → Steps p.tables e below (s₁.setTop (entryFrame m #[(.long va), (.int ra), (.int rb), (.int rx), (.int se)] maxLocals)) t := by
        intro t kt
        refine pre142 _ ?_
        show Steps p.tables e below (T125.setTop (mkF m 268 #[.val (.long va), .second, .val (.int ra), .val (.int rb), .val (.int rx), .val (.int se), .val (.int ln), .val (.int ub), .val (.int qq), .val (.int ca), .val (.int cb), .val (.int cx), .val (.long mm), .second, .val (.ref ac), .unset, .unset, .unset, .unset, .unset, .unset, .unset, .unset, .unset, .unset, .unset, .unset] [(.int (6 : Int32)), (.int ln)])) _
        refine XS.icmpNo X125.here hx rfl (hb hby at_268) rfl (XT.ii_le_f hc268_144) ?_
        refine XS.aload X125.here hx rfl (hb hby at_271) rfl rfl ?_
        refine XS.bipush X125.here hx rfl (hb hby at_273) ?_
        refine XS.bipush X125.here hx rfl (hb hby at_275) ?_
        show Steps p.tables e below (T125.setTop (mkF m 277 #[.val (.long va), .second, .val (.int ra), .val (.int rb), .val (.int rx), .val (.int se), .val (.int ln), .val (.int ub), .val (.int qq), .val (.int ca), .val (.int cb), .val (.int cx), .val (.long mm), .second, .val (.ref ac), .unset, .unset, .unset, .unset, .unset, .unset, .unset, .unset, .unset, .unset, .unset, .unset] [(.int (6 : Int32)), (.int (6 : Int32)), (.ref ac)])) _
        refine XS.iload X125.here hx rfl (hb hby at_277) rfl ?_
        refine XS.iload X125.here hx rfl (hb hby at_279) rfl ?_
        refine XS.iload X125.here hx rfl (hb hby at_281) rfl ?_
        refine XS.iload X125.here hx rfl (hb hby at_283) rfl ?_
        show Steps p.tables e below (T125.setTop (mkF m 285 #[.val (.long va), .second, .val (.int ra), .val (.int rb), .val (.int rx), .val (.int se), .val (.int ln), .val (.int ub), .val (.int qq), .val (.int ca), .val (.int cb), .val (.int cx), .val (.long mm), .second, .val (.ref ac), .unset, .unset, .unset, .unset, .unset, .unset, .unset, .unset, .unset, .unset, .unset, .unset] [(.int cx), (.int cb), (.int ca), (.int ln), (.int (6 : Int32)), (.int (6 : Int32)), (.ref ac)])) _
        refine XS.iload X125.here hx rfl (hb hby at_285) rfl ?_
        refine XS.lload X125.here hx rfl (hb hby at_287) rfl ?_
        show Steps p.tables e below (T125.setTop (mkF m 289 #[.val (.long va), .second, .val (.int ra), .val (.int rb), .val (.int rx), .val (.int se), .val (.int ln), .val (.int ub), .val (.int qq), .val (.int ca), .val (.int cb), .val (.int cx), .val (.long mm), .second, .val (.ref ac), .unset, .unset, .unset, .unset, .unset, .unset, .unset, .unset, .unset, .unset, .unset, .unset] [(.long mm), (.int qq), (.int cx), (.int cb), (.int ca), (.int ln), (.int (6 : Int32)), (.int (6 : Int32)), (.ref ac)])) _
        refine st145 _ ?_
        show Steps p.tables e below (T145.setTop (mkF m 292 #[.val (.long va), .second, .val (.int ra), .val (.int rb), .val (.int rx), .val (.int se), .val (.int ln), .val (.int ub), .val (.int qq), .val (.int ca), .val (.int cb), .val (.int cx), .val (.long mm), .second, .val (.ref ac), .unset, .unset, .unset, .unset, .unset, .unset, .unset, .unset, .unset, .unset, .unset, .unset] [(.int (fn3 (6 : Int32) ln ca cb cx qq mm (nn - 2 - 6))), (.int (6 : Int32)), (.ref ac)])) _
        refine st151 _ ?_
        exact kt
      have eJ : T151.heap = gh151 := hE151
      exact ⟨T151, _, (owUp fk6 6 ((fn3 (6 : Int32) ln ca cb cx qq mm (nn - 2 - 6)).toUInt32.toUInt16.toUInt32.toInt32)), X151.mono (by decide) (by decide), N155, (by rw [eJ]; exact Z154), (by rw [eJ]; exact K156), (by rw [eJ]; exact K157), (by rw [eJ]; exact f152), (by rw [eJ]; exact V151), (own_fillS (k := 6) hl6), fun t kt => pre158 _ kt⟩
    · skip
      have pre159 : ∀ t, Steps p.tables e below (T125.setTop (mkF m 293 #[.val (.long va), .second, .val (.int ra), .val (.int rb), .val (.int rx), .val (.int se), .val (.int ln), .val (.int ub), .val (.int qq), .val (.int ca), .val (.int cb), .val (.int cx), .val (.long mm), .second, .val (.ref ac), .unset, .unset, .unset, .unset, .unset, .unset, .unset, .unset, .unset, .unset, .unset, .unset] [])) t → Steps p.tables e below (s₁.setTop (entryFrame m #[(.long va), (.int ra), (.int rb), (.int rx), (.int se)] maxLocals)) t := by
        intro t kt
        refine pre142 _ ?_
        show Steps p.tables e below (T125.setTop (mkF m 268 #[.val (.long va), .second, .val (.int ra), .val (.int rb), .val (.int rx), .val (.int se), .val (.int ln), .val (.int ub), .val (.int qq), .val (.int ca), .val (.int cb), .val (.int cx), .val (.long mm), .second, .val (.ref ac), .unset, .unset, .unset, .unset, .unset, .unset, .unset, .unset, .unset, .unset, .unset, .unset] [(.int (6 : Int32)), (.int ln)])) _
        refine XS.icmpYes X125.here hx rfl (pc0 := 268) (pc' := 293) rfl (hb hby at_268) rfl (XT.ii_le_t hc268_144) (by decide) (by decide) ?_
        exact kt
      have eJ : T125.heap = T125.heap := rfl
      exact ⟨T125, _, fk6, X125.mono (by decide) (by decide), N125, (by rw [eJ]; exact Z125), (by rw [eJ]; exact K125), (by rw [eJ]; exact KK125), (by rw [eJ]; exact hf125_0), (by rw [eJ]; exact hf125_1), (own_fillN hln (kz := (6 : Int32)) (k := 6) rfl hc268_144 hl6), fun t kt => pre159 _ kt⟩
  have hl7 := hp143_0
  have pre160 : ∀ t, Steps p.tables e below (T143.setTop (mkF m 297 #[.val (.long va), .second, .val (.int ra), .val (.int rb), .val (.int rx), .val (.int se), .val (.int ln), .val (.int ub), .val (.int qq), .val (.int ca), .val (.int cb), .val (.int cx), .val (.long mm), .second, .val (.ref ac), .unset, .unset, .unset, .unset, .unset, .unset, .unset, .unset, .unset, .unset, .unset, .unset] [(.int (7 : Int32)), (.int ln)])) t → Steps p.tables e below (s₁.setTop (entryFrame m #[(.long va), (.int ra), (.int rb), (.int rx), (.int se)] maxLocals)) t := by
    intro t kt
    refine pre143 _ ?_
    refine XS.iload X143.here hx rfl (hb hby at_293) rfl ?_
    show Steps p.tables e below (T143.setTop (mkF m 295 #[.val (.long va), .second, .val (.int ra), .val (.int rb), .val (.int rx), .val (.int se), .val (.int ln), .val (.int ub), .val (.int qq), .val (.int ca), .val (.int cb), .val (.int cx), .val (.long mm), .second, .val (.ref ac), .unset, .unset, .unset, .unset, .unset, .unset, .unset, .unset, .unset, .unset, .unset, .unset] [(.int ln)])) _
    refine XS.bipush X143.here hx rfl (hb hby at_295) ?_
    exact kt
  obtain ⟨T161, L161, fk8, X161, N161, Z161, K161, KK161, hf161_0, hf161_1, hp161_0, pre161⟩ : ∃ (T161 : State) (L161 : List Loc) (fk8 : Nat → Int32), Stand p l e room_1 (s.setVm s.vm) m #[(.long va), (.int ra), (.int rb), (.int rx), (.int se)] below meth c T161 L161 10 191 ∧ Fr n0 L161 ∧ n0 ≤ T161.heap.size ∧ Keep h0 T161.heap [] ∧ Keep h0 T161.heap [] ∧ Old Z n0 T161.heap ∧ owAI Z T161.heap ac .char nn fk8 ∧ own_fill (own_F ln ca cb cx qq mm nn) nn fk8 8 ∧ ∀ t, Steps p.tables e below (T161.setTop (mkF m 322 #[.val (.long va), .second, .val (.int ra), .val (.int rb), .val (.int rx), .val (.int se), .val (.int ln), .val (.int ub), .val (.int qq), .val (.int ca), .val (.int cb), .val (.int cx), .val (.long mm), .second, .val (.ref ac), .unset, .unset, .unset, .unset, .unset, .unset, .unset, .unset, .unset, .unset, .unset, .unset] [])) t → Steps p.tables e below (s₁.setTop (entryFrame m #[(.long va), (.int ra), (.int rb), (.int rx), (.int se)] maxLocals)) t := by
    by_cases hc297_162 : (7 : Int32) < ln
    · skip
      obtain ⟨_, _, ⟨T163, L163, k163, n163⟩, -, X163, ⟨Lc163, hQ163, l163, y163, z163⟩, st163⟩ := Jvm.LawKit.callS X143 hx (y := (⟨"com/example/relent/relent/WholeNumbersUnsignedPinLaw", "at", "(IICCCIJ)C"⟩ : MethodName)) hown (mvT hZ (hw _ (List.mem_of_getElem? (i := 28) rfl))) (mvT hZ (hw _ (List.mem_of_getElem? (i := 29) rfl))) (mvT hZ (hw _ (List.mem_of_getElem? (i := 2) rfl))) (mvT hZ (hw _ (List.mem_of_getElem? (i := 30) rfl))) (by decide) (backOf (W := 2) (rm3 l Z a0 hw [] (7 : Int32) ln ca cb cx qq mm (nn - 2 - 7) T143.heap n0 Z143 (own_kk hln hn20 (kz := (7 : Int32)) (k := 7) rfl hc297_162)) hZ (hw _ (List.mem_of_getElem? (i := 30) rfl)) (hw _ (List.mem_of_getElem? (i := 2) rfl)) (by decide) (by decide)) (g := (mkF m 318 #[.val (.long va), .second, .val (.int ra), .val (.int rb), .val (.int rx), .val (.int se), .val (.int ln), .val (.int ub), .val (.int qq), .val (.int ca), .val (.int cb), .val (.int cx), .val (.long mm), .second, .val (.ref ac), .unset, .unset, .unset, .unset, .unset, .unset, .unset, .unset, .unset, .unset, .unset, .unset] [(.long mm), (.int qq), (.int cx), (.int cb), (.int ca), (.int ln), (.int (7 : Int32)), (.int (7 : Int32)), (.ref ac)])) rfl (by rw [hml]; rfl) (argsL := [(.int (7 : Int32)), (.int ln), (.int ca), (.int cb), (.int cx), (.int qq), (.long mm)]) (rest := [(.int (7 : Int32)), (.ref ac)]) (lenOf pd_15 rfl) rfl (by show 2 * 0 + _ ≤ _; exact Nat.le_of_eq rfl) (hb hby at_318) (fun _ _ => ⟨rfl, rfl, (by decide : 9 + 1 ≤ _), (by decide : 172 + 19 ≤ _)⟩)
      dsimp only [Pt.U, Pt.locs, Pt.cells, Pt.slots] at X163 l163 y163 z163 st163 hQ163
      subst l163 y163 z163
      obtain ⟨rfl, N163q, K163⟩ := hQ163
      have N163 := Fr.app N143 N163q
      have f164 := hf143_0.keep K163 all0
      have f165 := hf143_1.keep K163 nin0
      have Z166 := Nat.le_trans Z143 K163.1
      have K167 := K143.trans K163 all0
      have K168 := KK143.trans K163 all0
      obtain ⟨T169, gh169, X169, hE169, W169, V169, st169⟩ := owStC X163 hx hZ rfl f165 (k := 7) (j := (7 : Int32)) rfl ((own_lt (i := (7 : Int32)) (a := 7) rfl hln).mp hc297_162) (g := (mkF m 321 #[.val (.long va), .second, .val (.int ra), .val (.int rb), .val (.int rx), .val (.int se), .val (.int ln), .val (.int ub), .val (.int qq), .val (.int ca), .val (.int cb), .val (.int cx), .val (.long mm), .second, .val (.ref ac), .unset, .unset, .unset, .unset, .unset, .unset, .unset, .unset, .unset, .unset, .unset, .unset] [(.int (fn3 (7 : Int32) ln ca cb cx qq mm (nn - 2 - 7))), (.int (7 : Int32)), (.ref ac)])) rfl rfl (hb hby at_321)
      have f170 := f164.wr W169 g_ac
      have Z172 := Nat.le_trans Z166 (Keep.of_wr W169).1
      have N173 := Fr.snoc X169 N163 g_ac
      have K174 := K167.wr W169 (Or.inr sz_ac)
      have K175 := K168.wr W169 (Or.inr sz_ac)
      have pre176 : ∀ t, Steps p.tables e below (T169.setTop (mkF m 322 #[.val (.long va), .second, .val (.int ra), .val (.int rb), .val (.int rx), .val (.int se), .val (.int ln), .val (.int ub), .val (.int qq), .val (.int ca), .val (.int cb), .val (.int cx), .val (.long mm), .second, .val (.ref ac), .unset, .unset, .unset, .unset, .unset, .unset, .unset, .unset, .unset, .unset, .unset, .unset] [])) t → Steps p.tables e below (s₁.setTop (entryFrame m #[(.long va), (.int ra), (.int rb), (.int rx), (.int se)] maxLocals)) t := by
        intro t kt
        refine pre160 _ ?_
        show Steps p.tables e below (T143.setTop (mkF m 297 #[.val (.long va), .second, .val (.int ra), .val (.int rb), .val (.int rx), .val (.int se), .val (.int ln), .val (.int ub), .val (.int qq), .val (.int ca), .val (.int cb), .val (.int cx), .val (.long mm), .second, .val (.ref ac), .unset, .unset, .unset, .unset, .unset, .unset, .unset, .unset, .unset, .unset, .unset, .unset] [(.int (7 : Int32)), (.int ln)])) _
        refine XS.icmpNo X143.here hx rfl (hb hby at_297) rfl (XT.ii_le_f hc297_162) ?_
        refine XS.aload X143.here hx rfl (hb hby at_300) rfl rfl ?_
        refine XS.bipush X143.here hx rfl (hb hby at_302) ?_
        refine XS.bipush X143.here hx rfl (hb hby at_304) ?_
        show Steps p.tables e below (T143.setTop (mkF m 306 #[.val (.long va), .second, .val (.int ra), .val (.int rb), .val (.int rx), .val (.int se), .val (.int ln), .val (.int ub), .val (.int qq), .val (.int ca), .val (.int cb), .val (.int cx), .val (.long mm), .second, .val (.ref ac), .unset, .unset, .unset, .unset, .unset, .unset, .unset, .unset, .unset, .unset, .unset, .unset] [(.int (7 : Int32)), (.int (7 : Int32)), (.ref ac)])) _
        refine XS.iload X143.here hx rfl (hb hby at_306) rfl ?_
        refine XS.iload X143.here hx rfl (hb hby at_308) rfl ?_
        refine XS.iload X143.here hx rfl (hb hby at_310) rfl ?_
        refine XS.iload X143.here hx rfl (hb hby at_312) rfl ?_
        show Steps p.tables e below (T143.setTop (mkF m 314 #[.val (.long va), .second, .val (.int ra), .val (.int rb), .val (.int rx), .val (.int se), .val (.int ln), .val (.int ub), .val (.int qq), .val (.int ca), .val (.int cb), .val (.int cx), .val (.long mm), .second, .val (.ref ac), .unset, .unset, .unset, .unset, .unset, .unset, .unset, .unset, .unset, .unset, .unset, .unset] [(.int cx), (.int cb), (.int ca), (.int ln), (.int (7 : Int32)), (.int (7 : Int32)), (.ref ac)])) _
        refine XS.iload X143.here hx rfl (hb hby at_314) rfl ?_
        refine XS.lload X143.here hx rfl (hb hby at_316) rfl ?_
        show Steps p.tables e below (T143.setTop (mkF m 318 #[.val (.long va), .second, .val (.int ra), .val (.int rb), .val (.int rx), .val (.int se), .val (.int ln), .val (.int ub), .val (.int qq), .val (.int ca), .val (.int cb), .val (.int cx), .val (.long mm), .second, .val (.ref ac), .unset, .unset, .unset, .unset, .unset, .unset, .unset, .unset, .unset, .unset, .unset, .unset] [(.long mm), (.int qq), (.int cx), (.int cb), (.int ca), (.int ln), (.int (7 : Int32)), (.int (7 : Int32)), (.ref ac)])) _
        refine st163 _ ?_
        show Steps p.tables e below (T163.setTop (mkF m 321 #[.val (.long va), .second, .val (.int ra), .val (.int rb), .val (.int rx), .val (.int se), .val (.int ln), .val (.int ub), .val (.int qq), .val (.int ca), .val (.int cb), .val (.int cx), .val (.long mm), .second, .val (.ref ac), .unset, .unset, .unset, .unset, .unset, .unset, .unset, .unset, .unset, .unset, .unset, .unset] [(.int (fn3 (7 : Int32) ln ca cb cx qq mm (nn - 2 - 7))), (.int (7 : Int32)), (.ref ac)])) _
        refine st169 _ ?_
        exact kt
      have eJ : T169.heap = gh169 := hE169
      exact ⟨T169, _, (owUp fk7 7 ((fn3 (7 : Int32) ln ca cb cx qq mm (nn - 2 - 7)).toUInt32.toUInt16.toUInt32.toInt32)), X169.mono (by decide) (by decide), N173, (by rw [eJ]; exact Z172), (by rw [eJ]; exact K174), (by rw [eJ]; exact K175), (by rw [eJ]; exact f170), (by rw [eJ]; exact V169), (own_fillS (k := 7) hl7), fun t kt => pre176 _ kt⟩
    · skip
      have pre177 : ∀ t, Steps p.tables e below (T143.setTop (mkF m 322 #[.val (.long va), .second, .val (.int ra), .val (.int rb), .val (.int rx), .val (.int se), .val (.int ln), .val (.int ub), .val (.int qq), .val (.int ca), .val (.int cb), .val (.int cx), .val (.long mm), .second, .val (.ref ac), .unset, .unset, .unset, .unset, .unset, .unset, .unset, .unset, .unset, .unset, .unset, .unset] [])) t → Steps p.tables e below (s₁.setTop (entryFrame m #[(.long va), (.int ra), (.int rb), (.int rx), (.int se)] maxLocals)) t := by
        intro t kt
        refine pre160 _ ?_
        show Steps p.tables e below (T143.setTop (mkF m 297 #[.val (.long va), .second, .val (.int ra), .val (.int rb), .val (.int rx), .val (.int se), .val (.int ln), .val (.int ub), .val (.int qq), .val (.int ca), .val (.int cb), .val (.int cx), .val (.long mm), .second, .val (.ref ac), .unset, .unset, .unset, .unset, .unset, .unset, .unset, .unset, .unset, .unset, .unset, .unset] [(.int (7 : Int32)), (.int ln)])) _
        refine XS.icmpYes X143.here hx rfl (pc0 := 297) (pc' := 322) rfl (hb hby at_297) rfl (XT.ii_le_t hc297_162) (by decide) (by decide) ?_
        exact kt
      have eJ : T143.heap = T143.heap := rfl
      exact ⟨T143, _, fk7, X143.mono (by decide) (by decide), N143, (by rw [eJ]; exact Z143), (by rw [eJ]; exact K143), (by rw [eJ]; exact KK143), (by rw [eJ]; exact hf143_0), (by rw [eJ]; exact hf143_1), (own_fillN hln (kz := (7 : Int32)) (k := 7) rfl hc297_162 hl7), fun t kt => pre177 _ kt⟩
  have hl8 := hp161_0
  have pre178 : ∀ t, Steps p.tables e below (T161.setTop (mkF m 326 #[.val (.long va), .second, .val (.int ra), .val (.int rb), .val (.int rx), .val (.int se), .val (.int ln), .val (.int ub), .val (.int qq), .val (.int ca), .val (.int cb), .val (.int cx), .val (.long mm), .second, .val (.ref ac), .unset, .unset, .unset, .unset, .unset, .unset, .unset, .unset, .unset, .unset, .unset, .unset] [(.int (8 : Int32)), (.int ln)])) t → Steps p.tables e below (s₁.setTop (entryFrame m #[(.long va), (.int ra), (.int rb), (.int rx), (.int se)] maxLocals)) t := by
    intro t kt
    refine pre161 _ ?_
    refine XS.iload X161.here hx rfl (hb hby at_322) rfl ?_
    refine XS.bipush X161.here hx rfl (hb hby at_324) ?_
    exact kt
  obtain ⟨T179, L179, fk9, X179, N179, Z179, K179, KK179, hf179_0, hf179_1, hp179_0, pre179⟩ : ∃ (T179 : State) (L179 : List Loc) (fk9 : Nat → Int32), Stand p l e room_1 (s.setVm s.vm) m #[(.long va), (.int ra), (.int rb), (.int rx), (.int se)] below meth c T179 L179 11 210 ∧ Fr n0 L179 ∧ n0 ≤ T179.heap.size ∧ Keep h0 T179.heap [] ∧ Keep h0 T179.heap [] ∧ Old Z n0 T179.heap ∧ owAI Z T179.heap ac .char nn fk9 ∧ own_fill (own_F ln ca cb cx qq mm nn) nn fk9 9 ∧ ∀ t, Steps p.tables e below (T179.setTop (mkF m 351 #[.val (.long va), .second, .val (.int ra), .val (.int rb), .val (.int rx), .val (.int se), .val (.int ln), .val (.int ub), .val (.int qq), .val (.int ca), .val (.int cb), .val (.int cx), .val (.long mm), .second, .val (.ref ac), .unset, .unset, .unset, .unset, .unset, .unset, .unset, .unset, .unset, .unset, .unset, .unset] [])) t → Steps p.tables e below (s₁.setTop (entryFrame m #[(.long va), (.int ra), (.int rb), (.int rx), (.int se)] maxLocals)) t := by
    by_cases hc326_180 : (8 : Int32) < ln
    · skip
      obtain ⟨_, _, ⟨T181, L181, k181, n181⟩, -, X181, ⟨Lc181, hQ181, l181, y181, z181⟩, st181⟩ := Jvm.LawKit.callS X161 hx (y := (⟨"com/example/relent/relent/WholeNumbersUnsignedPinLaw", "at", "(IICCCIJ)C"⟩ : MethodName)) hown (mvT hZ (hw _ (List.mem_of_getElem? (i := 28) rfl))) (mvT hZ (hw _ (List.mem_of_getElem? (i := 29) rfl))) (mvT hZ (hw _ (List.mem_of_getElem? (i := 2) rfl))) (mvT hZ (hw _ (List.mem_of_getElem? (i := 30) rfl))) (by decide) (backOf (W := 2) (rm3 l Z a0 hw [] (8 : Int32) ln ca cb cx qq mm (nn - 2 - 8) T161.heap n0 Z161 (own_kk hln hn20 (kz := (8 : Int32)) (k := 8) rfl hc326_180)) hZ (hw _ (List.mem_of_getElem? (i := 30) rfl)) (hw _ (List.mem_of_getElem? (i := 2) rfl)) (by decide) (by decide)) (g := (mkF m 347 #[.val (.long va), .second, .val (.int ra), .val (.int rb), .val (.int rx), .val (.int se), .val (.int ln), .val (.int ub), .val (.int qq), .val (.int ca), .val (.int cb), .val (.int cx), .val (.long mm), .second, .val (.ref ac), .unset, .unset, .unset, .unset, .unset, .unset, .unset, .unset, .unset, .unset, .unset, .unset] [(.long mm), (.int qq), (.int cx), (.int cb), (.int ca), (.int ln), (.int (8 : Int32)), (.int (8 : Int32)), (.ref ac)])) rfl (by rw [hml]; rfl) (argsL := [(.int (8 : Int32)), (.int ln), (.int ca), (.int cb), (.int cx), (.int qq), (.long mm)]) (rest := [(.int (8 : Int32)), (.ref ac)]) (lenOf pd_15 rfl) rfl (by show 2 * 0 + _ ≤ _; exact Nat.le_of_eq rfl) (hb hby at_347) (fun _ _ => ⟨rfl, rfl, (by decide : 10 + 1 ≤ _), (by decide : 191 + 19 ≤ _)⟩)
      dsimp only [Pt.U, Pt.locs, Pt.cells, Pt.slots] at X181 l181 y181 z181 st181 hQ181
      subst l181 y181 z181
      obtain ⟨rfl, N181q, K181⟩ := hQ181
      have N181 := Fr.app N161 N181q
      have f182 := hf161_0.keep K181 all0
      have f183 := hf161_1.keep K181 nin0
      have Z184 := Nat.le_trans Z161 K181.1
      have K185 := K161.trans K181 all0
      have K186 := KK161.trans K181 all0
      obtain ⟨T187, gh187, X187, hE187, W187, V187, st187⟩ := owStC X181 hx hZ rfl f183 (k := 8) (j := (8 : Int32)) rfl ((own_lt (i := (8 : Int32)) (a := 8) rfl hln).mp hc326_180) (g := (mkF m 350 #[.val (.long va), .second, .val (.int ra), .val (.int rb), .val (.int rx), .val (.int se), .val (.int ln), .val (.int ub), .val (.int qq), .val (.int ca), .val (.int cb), .val (.int cx), .val (.long mm), .second, .val (.ref ac), .unset, .unset, .unset, .unset, .unset, .unset, .unset, .unset, .unset, .unset, .unset, .unset] [(.int (fn3 (8 : Int32) ln ca cb cx qq mm (nn - 2 - 8))), (.int (8 : Int32)), (.ref ac)])) rfl rfl (hb hby at_350)
      have f188 := f182.wr W187 g_ac
      have Z190 := Nat.le_trans Z184 (Keep.of_wr W187).1
      have N191 := Fr.snoc X187 N181 g_ac
      have K192 := K185.wr W187 (Or.inr sz_ac)
      have K193 := K186.wr W187 (Or.inr sz_ac)
      have pre194 : ∀ t, Steps p.tables e below (T187.setTop (mkF m 351 #[.val (.long va), .second, .val (.int ra), .val (.int rb), .val (.int rx), .val (.int se), .val (.int ln), .val (.int ub), .val (.int qq), .val (.int ca), .val (.int cb), .val (.int cx), .val (.long mm), .second, .val (.ref ac), .unset, .unset, .unset, .unset, .unset, .unset, .unset, .unset, .unset, .unset, .unset, .unset] [])) t → Steps p.tables e below (s₁.setTop (entryFrame m #[(.long va), (.int ra), (.int rb), (.int rx), (.int se)] maxLocals)) t := by
        intro t kt
        refine pre178 _ ?_
        show Steps p.tables e below (T161.setTop (mkF m 326 #[.val (.long va), .second, .val (.int ra), .val (.int rb), .val (.int rx), .val (.int se), .val (.int ln), .val (.int ub), .val (.int qq), .val (.int ca), .val (.int cb), .val (.int cx), .val (.long mm), .second, .val (.ref ac), .unset, .unset, .unset, .unset, .unset, .unset, .unset, .unset, .unset, .unset, .unset, .unset] [(.int (8 : Int32)), (.int ln)])) _
        refine XS.icmpNo X161.here hx rfl (hb hby at_326) rfl (XT.ii_le_f hc326_180) ?_
        refine XS.aload X161.here hx rfl (hb hby at_329) rfl rfl ?_
        refine XS.bipush X161.here hx rfl (hb hby at_331) ?_
        refine XS.bipush X161.here hx rfl (hb hby at_333) ?_
        show Steps p.tables e below (T161.setTop (mkF m 335 #[.val (.long va), .second, .val (.int ra), .val (.int rb), .val (.int rx), .val (.int se), .val (.int ln), .val (.int ub), .val (.int qq), .val (.int ca), .val (.int cb), .val (.int cx), .val (.long mm), .second, .val (.ref ac), .unset, .unset, .unset, .unset, .unset, .unset, .unset, .unset, .unset, .unset, .unset, .unset] [(.int (8 : Int32)), (.int (8 : Int32)), (.ref ac)])) _
        refine XS.iload X161.here hx rfl (hb hby at_335) rfl ?_
        refine XS.iload X161.here hx rfl (hb hby at_337) rfl ?_
        refine XS.iload X161.here hx rfl (hb hby at_339) rfl ?_
        refine XS.iload X161.here hx rfl (hb hby at_341) rfl ?_
        show Steps p.tables e below (T161.setTop (mkF m 343 #[.val (.long va), .second, .val (.int ra), .val (.int rb), .val (.int rx), .val (.int se), .val (.int ln), .val (.int ub), .val (.int qq), .val (.int ca), .val (.int cb), .val (.int cx), .val (.long mm), .second, .val (.ref ac), .unset, .unset, .unset, .unset, .unset, .unset, .unset, .unset, .unset, .unset, .unset, .unset] [(.int cx), (.int cb), (.int ca), (.int ln), (.int (8 : Int32)), (.int (8 : Int32)), (.ref ac)])) _
        refine XS.iload X161.here hx rfl (hb hby at_343) rfl ?_
        refine XS.lload X161.here hx rfl (hb hby at_345) rfl ?_
        show Steps p.tables e below (T161.setTop (mkF m 347 #[.val (.long va), .second, .val (.int ra), .val (.int rb), .val (.int rx), .val (.int se), .val (.int ln), .val (.int ub), .val (.int qq), .val (.int ca), .val (.int cb), .val (.int cx), .val (.long mm), .second, .val (.ref ac), .unset, .unset, .unset, .unset, .unset, .unset, .unset, .unset, .unset, .unset, .unset, .unset] [(.long mm), (.int qq), (.int cx), (.int cb), (.int ca), (.int ln), (.int (8 : Int32)), (.int (8 : Int32)), (.ref ac)])) _
        refine st181 _ ?_
        show Steps p.tables e below (T181.setTop (mkF m 350 #[.val (.long va), .second, .val (.int ra), .val (.int rb), .val (.int rx), .val (.int se), .val (.int ln), .val (.int ub), .val (.int qq), .val (.int ca), .val (.int cb), .val (.int cx), .val (.long mm), .second, .val (.ref ac), .unset, .unset, .unset, .unset, .unset, .unset, .unset, .unset, .unset, .unset, .unset, .unset] [(.int (fn3 (8 : Int32) ln ca cb cx qq mm (nn - 2 - 8))), (.int (8 : Int32)), (.ref ac)])) _
        refine st187 _ ?_
        exact kt
      have eJ : T187.heap = gh187 := hE187
      exact ⟨T187, _, (owUp fk8 8 ((fn3 (8 : Int32) ln ca cb cx qq mm (nn - 2 - 8)).toUInt32.toUInt16.toUInt32.toInt32)), X187.mono (by decide) (by decide), N191, (by rw [eJ]; exact Z190), (by rw [eJ]; exact K192), (by rw [eJ]; exact K193), (by rw [eJ]; exact f188), (by rw [eJ]; exact V187), (own_fillS (k := 8) hl8), fun t kt => pre194 _ kt⟩
    · skip
      have pre195 : ∀ t, Steps p.tables e below (T161.setTop (mkF m 351 #[.val (.long va), .second, .val (.int ra), .val (.int rb), .val (.int rx), .val (.int se), .val (.int ln), .val (.int ub), .val (.int qq), .val (.int ca), .val (.int cb), .val (.int cx), .val (.long mm), .second, .val (.ref ac), .unset, .unset, .unset, .unset, .unset, .unset, .unset, .unset, .unset, .unset, .unset, .unset] [])) t → Steps p.tables e below (s₁.setTop (entryFrame m #[(.long va), (.int ra), (.int rb), (.int rx), (.int se)] maxLocals)) t := by
        intro t kt
        refine pre178 _ ?_
        show Steps p.tables e below (T161.setTop (mkF m 326 #[.val (.long va), .second, .val (.int ra), .val (.int rb), .val (.int rx), .val (.int se), .val (.int ln), .val (.int ub), .val (.int qq), .val (.int ca), .val (.int cb), .val (.int cx), .val (.long mm), .second, .val (.ref ac), .unset, .unset, .unset, .unset, .unset, .unset, .unset, .unset, .unset, .unset, .unset, .unset] [(.int (8 : Int32)), (.int ln)])) _
        refine XS.icmpYes X161.here hx rfl (pc0 := 326) (pc' := 351) rfl (hb hby at_326) rfl (XT.ii_le_t hc326_180) (by decide) (by decide) ?_
        exact kt
      have eJ : T161.heap = T161.heap := rfl
      exact ⟨T161, _, fk8, X161.mono (by decide) (by decide), N161, (by rw [eJ]; exact Z161), (by rw [eJ]; exact K161), (by rw [eJ]; exact KK161), (by rw [eJ]; exact hf161_0), (by rw [eJ]; exact hf161_1), (own_fillN hln (kz := (8 : Int32)) (k := 8) rfl hc326_180 hl8), fun t kt => pre195 _ kt⟩
  have hl9 := hp179_0
  have pre196 : ∀ t, Steps p.tables e below (T179.setTop (mkF m 355 #[.val (.long va), .second, .val (.int ra), .val (.int rb), .val (.int rx), .val (.int se), .val (.int ln), .val (.int ub), .val (.int qq), .val (.int ca), .val (.int cb), .val (.int cx), .val (.long mm), .second, .val (.ref ac), .unset, .unset, .unset, .unset, .unset, .unset, .unset, .unset, .unset, .unset, .unset, .unset] [(.int (9 : Int32)), (.int ln)])) t → Steps p.tables e below (s₁.setTop (entryFrame m #[(.long va), (.int ra), (.int rb), (.int rx), (.int se)] maxLocals)) t := by
    intro t kt
    refine pre179 _ ?_
    refine XS.iload X179.here hx rfl (hb hby at_351) rfl ?_
    show Steps p.tables e below (T179.setTop (mkF m 353 #[.val (.long va), .second, .val (.int ra), .val (.int rb), .val (.int rx), .val (.int se), .val (.int ln), .val (.int ub), .val (.int qq), .val (.int ca), .val (.int cb), .val (.int cx), .val (.long mm), .second, .val (.ref ac), .unset, .unset, .unset, .unset, .unset, .unset, .unset, .unset, .unset, .unset, .unset, .unset] [(.int ln)])) _
    refine XS.bipush X179.here hx rfl (hb hby at_353) ?_
    exact kt
  obtain ⟨T197, L197, fk10, X197, N197, Z197, K197, KK197, hf197_0, hf197_1, hp197_0, pre197⟩ : ∃ (T197 : State) (L197 : List Loc) (fk10 : Nat → Int32), Stand p l e room_1 (s.setVm s.vm) m #[(.long va), (.int ra), (.int rb), (.int rx), (.int se)] below meth c T197 L197 12 229 ∧ Fr n0 L197 ∧ n0 ≤ T197.heap.size ∧ Keep h0 T197.heap [] ∧ Keep h0 T197.heap [] ∧ Old Z n0 T197.heap ∧ owAI Z T197.heap ac .char nn fk10 ∧ own_fill (own_F ln ca cb cx qq mm nn) nn fk10 10 ∧ ∀ t, Steps p.tables e below (T197.setTop (mkF m 380 #[.val (.long va), .second, .val (.int ra), .val (.int rb), .val (.int rx), .val (.int se), .val (.int ln), .val (.int ub), .val (.int qq), .val (.int ca), .val (.int cb), .val (.int cx), .val (.long mm), .second, .val (.ref ac), .unset, .unset, .unset, .unset, .unset, .unset, .unset, .unset, .unset, .unset, .unset, .unset] [])) t → Steps p.tables e below (s₁.setTop (entryFrame m #[(.long va), (.int ra), (.int rb), (.int rx), (.int se)] maxLocals)) t := by
    by_cases hc355_198 : (9 : Int32) < ln
    · skip
      obtain ⟨_, _, ⟨T199, L199, k199, n199⟩, -, X199, ⟨Lc199, hQ199, l199, y199, z199⟩, st199⟩ := Jvm.LawKit.callS X179 hx (y := (⟨"com/example/relent/relent/WholeNumbersUnsignedPinLaw", "at", "(IICCCIJ)C"⟩ : MethodName)) hown (mvT hZ (hw _ (List.mem_of_getElem? (i := 28) rfl))) (mvT hZ (hw _ (List.mem_of_getElem? (i := 29) rfl))) (mvT hZ (hw _ (List.mem_of_getElem? (i := 2) rfl))) (mvT hZ (hw _ (List.mem_of_getElem? (i := 30) rfl))) (by decide) (backOf (W := 2) (rm3 l Z a0 hw [] (9 : Int32) ln ca cb cx qq mm (nn - 2 - 9) T179.heap n0 Z179 (own_kk hln hn20 (kz := (9 : Int32)) (k := 9) rfl hc355_198)) hZ (hw _ (List.mem_of_getElem? (i := 30) rfl)) (hw _ (List.mem_of_getElem? (i := 2) rfl)) (by decide) (by decide)) (g := (mkF m 376 #[.val (.long va), .second, .val (.int ra), .val (.int rb), .val (.int rx), .val (.int se), .val (.int ln), .val (.int ub), .val (.int qq), .val (.int ca), .val (.int cb), .val (.int cx), .val (.long mm), .second, .val (.ref ac), .unset, .unset, .unset, .unset, .unset, .unset, .unset, .unset, .unset, .unset, .unset, .unset] [(.long mm), (.int qq), (.int cx), (.int cb), (.int ca), (.int ln), (.int (9 : Int32)), (.int (9 : Int32)), (.ref ac)])) rfl (by rw [hml]; rfl) (argsL := [(.int (9 : Int32)), (.int ln), (.int ca), (.int cb), (.int cx), (.int qq), (.long mm)]) (rest := [(.int (9 : Int32)), (.ref ac)]) (lenOf pd_15 rfl) rfl (by show 2 * 0 + _ ≤ _; exact Nat.le_of_eq rfl) (hb hby at_376) (fun _ _ => ⟨rfl, rfl, (by decide : 11 + 1 ≤ _), (by decide : 210 + 19 ≤ _)⟩)
      dsimp only [Pt.U, Pt.locs, Pt.cells, Pt.slots] at X199 l199 y199 z199 st199 hQ199
      subst l199 y199 z199
      obtain ⟨rfl, N199q, K199⟩ := hQ199
      have N199 := Fr.app N179 N199q
      have f200 := hf179_0.keep K199 all0
      have f201 := hf179_1.keep K199 nin0
      have Z202 := Nat.le_trans Z179 K199.1
      have K203 := K179.trans K199 all0
      have K204 := KK179.trans K199 all0
      obtain ⟨T205, gh205, X205, hE205, W205, V205, st205⟩ := owStC X199 hx hZ rfl f201 (k := 9) (j := (9 : Int32)) rfl ((own_lt (i := (9 : Int32)) (a := 9) rfl hln).mp hc355_198) (g := (mkF m 379 #[.val (.long va), .second, .val (.int ra), .val (.int rb), .val (.int rx), .val (.int se), .val (.int ln), .val (.int ub), .val (.int qq), .val (.int ca), .val (.int cb), .val (.int cx), .val (.long mm), .second, .val (.ref ac), .unset, .unset, .unset, .unset, .unset, .unset, .unset, .unset, .unset, .unset, .unset, .unset] [(.int (fn3 (9 : Int32) ln ca cb cx qq mm (nn - 2 - 9))), (.int (9 : Int32)), (.ref ac)])) rfl rfl (hb hby at_379)
      have f206 := f200.wr W205 g_ac
      have Z208 := Nat.le_trans Z202 (Keep.of_wr W205).1
      have N209 := Fr.snoc X205 N199 g_ac
      have K210 := K203.wr W205 (Or.inr sz_ac)
      have K211 := K204.wr W205 (Or.inr sz_ac)
      have pre212 : ∀ t, Steps p.tables e below (T205.setTop (mkF m 380 #[.val (.long va), .second, .val (.int ra), .val (.int rb), .val (.int rx), .val (.int se), .val (.int ln), .val (.int ub), .val (.int qq), .val (.int ca), .val (.int cb), .val (.int cx), .val (.long mm), .second, .val (.ref ac), .unset, .unset, .unset, .unset, .unset, .unset, .unset, .unset, .unset, .unset, .unset, .unset] [])) t → Steps p.tables e below (s₁.setTop (entryFrame m #[(.long va), (.int ra), (.int rb), (.int rx), (.int se)] maxLocals)) t := by
        intro t kt
        refine pre196 _ ?_
        show Steps p.tables e below (T179.setTop (mkF m 355 #[.val (.long va), .second, .val (.int ra), .val (.int rb), .val (.int rx), .val (.int se), .val (.int ln), .val (.int ub), .val (.int qq), .val (.int ca), .val (.int cb), .val (.int cx), .val (.long mm), .second, .val (.ref ac), .unset, .unset, .unset, .unset, .unset, .unset, .unset, .unset, .unset, .unset, .unset, .unset] [(.int (9 : Int32)), (.int ln)])) _
        refine XS.icmpNo X179.here hx rfl (hb hby at_355) rfl (XT.ii_le_f hc355_198) ?_
        refine XS.aload X179.here hx rfl (hb hby at_358) rfl rfl ?_
        refine XS.bipush X179.here hx rfl (hb hby at_360) ?_
        refine XS.bipush X179.here hx rfl (hb hby at_362) ?_
        show Steps p.tables e below (T179.setTop (mkF m 364 #[.val (.long va), .second, .val (.int ra), .val (.int rb), .val (.int rx), .val (.int se), .val (.int ln), .val (.int ub), .val (.int qq), .val (.int ca), .val (.int cb), .val (.int cx), .val (.long mm), .second, .val (.ref ac), .unset, .unset, .unset, .unset, .unset, .unset, .unset, .unset, .unset, .unset, .unset, .unset] [(.int (9 : Int32)), (.int (9 : Int32)), (.ref ac)])) _
        refine XS.iload X179.here hx rfl (hb hby at_364) rfl ?_
        refine XS.iload X179.here hx rfl (hb hby at_366) rfl ?_
        refine XS.iload X179.here hx rfl (hb hby at_368) rfl ?_
        refine XS.iload X179.here hx rfl (hb hby at_370) rfl ?_
        show Steps p.tables e below (T179.setTop (mkF m 372 #[.val (.long va), .second, .val (.int ra), .val (.int rb), .val (.int rx), .val (.int se), .val (.int ln), .val (.int ub), .val (.int qq), .val (.int ca), .val (.int cb), .val (.int cx), .val (.long mm), .second, .val (.ref ac), .unset, .unset, .unset, .unset, .unset, .unset, .unset, .unset, .unset, .unset, .unset, .unset] [(.int cx), (.int cb), (.int ca), (.int ln), (.int (9 : Int32)), (.int (9 : Int32)), (.ref ac)])) _
        refine XS.iload X179.here hx rfl (hb hby at_372) rfl ?_
        refine XS.lload X179.here hx rfl (hb hby at_374) rfl ?_
        show Steps p.tables e below (T179.setTop (mkF m 376 #[.val (.long va), .second, .val (.int ra), .val (.int rb), .val (.int rx), .val (.int se), .val (.int ln), .val (.int ub), .val (.int qq), .val (.int ca), .val (.int cb), .val (.int cx), .val (.long mm), .second, .val (.ref ac), .unset, .unset, .unset, .unset, .unset, .unset, .unset, .unset, .unset, .unset, .unset, .unset] [(.long mm), (.int qq), (.int cx), (.int cb), (.int ca), (.int ln), (.int (9 : Int32)), (.int (9 : Int32)), (.ref ac)])) _
        refine st199 _ ?_
        show Steps p.tables e below (T199.setTop (mkF m 379 #[.val (.long va), .second, .val (.int ra), .val (.int rb), .val (.int rx), .val (.int se), .val (.int ln), .val (.int ub), .val (.int qq), .val (.int ca), .val (.int cb), .val (.int cx), .val (.long mm), .second, .val (.ref ac), .unset, .unset, .unset, .unset, .unset, .unset, .unset, .unset, .unset, .unset, .unset, .unset] [(.int (fn3 (9 : Int32) ln ca cb cx qq mm (nn - 2 - 9))), (.int (9 : Int32)), (.ref ac)])) _
        refine st205 _ ?_
        exact kt
      have eJ : T205.heap = gh205 := hE205
      exact ⟨T205, _, (owUp fk9 9 ((fn3 (9 : Int32) ln ca cb cx qq mm (nn - 2 - 9)).toUInt32.toUInt16.toUInt32.toInt32)), X205.mono (by decide) (by decide), N209, (by rw [eJ]; exact Z208), (by rw [eJ]; exact K210), (by rw [eJ]; exact K211), (by rw [eJ]; exact f206), (by rw [eJ]; exact V205), (own_fillS (k := 9) hl9), fun t kt => pre212 _ kt⟩
    · skip
      have pre213 : ∀ t, Steps p.tables e below (T179.setTop (mkF m 380 #[.val (.long va), .second, .val (.int ra), .val (.int rb), .val (.int rx), .val (.int se), .val (.int ln), .val (.int ub), .val (.int qq), .val (.int ca), .val (.int cb), .val (.int cx), .val (.long mm), .second, .val (.ref ac), .unset, .unset, .unset, .unset, .unset, .unset, .unset, .unset, .unset, .unset, .unset, .unset] [])) t → Steps p.tables e below (s₁.setTop (entryFrame m #[(.long va), (.int ra), (.int rb), (.int rx), (.int se)] maxLocals)) t := by
        intro t kt
        refine pre196 _ ?_
        show Steps p.tables e below (T179.setTop (mkF m 355 #[.val (.long va), .second, .val (.int ra), .val (.int rb), .val (.int rx), .val (.int se), .val (.int ln), .val (.int ub), .val (.int qq), .val (.int ca), .val (.int cb), .val (.int cx), .val (.long mm), .second, .val (.ref ac), .unset, .unset, .unset, .unset, .unset, .unset, .unset, .unset, .unset, .unset, .unset, .unset] [(.int (9 : Int32)), (.int ln)])) _
        refine XS.icmpYes X179.here hx rfl (pc0 := 355) (pc' := 380) rfl (hb hby at_355) rfl (XT.ii_le_t hc355_198) (by decide) (by decide) ?_
        exact kt
      have eJ : T179.heap = T179.heap := rfl
      exact ⟨T179, _, fk9, X179.mono (by decide) (by decide), N179, (by rw [eJ]; exact Z179), (by rw [eJ]; exact K179), (by rw [eJ]; exact KK179), (by rw [eJ]; exact hf179_0), (by rw [eJ]; exact hf179_1), (own_fillN hln (kz := (9 : Int32)) (k := 9) rfl hc355_198 hl9), fun t kt => pre213 _ kt⟩
  have hl10 := hp197_0
  have pre214 : ∀ t, Steps p.tables e below (T197.setTop (mkF m 384 #[.val (.long va), .second, .val (.int ra), .val (.int rb), .val (.int rx), .val (.int se), .val (.int ln), .val (.int ub), .val (.int qq), .val (.int ca), .val (.int cb), .val (.int cx), .val (.long mm), .second, .val (.ref ac), .unset, .unset, .unset, .unset, .unset, .unset, .unset, .unset, .unset, .unset, .unset, .unset] [(.int (10 : Int32)), (.int ln)])) t → Steps p.tables e below (s₁.setTop (entryFrame m #[(.long va), (.int ra), (.int rb), (.int rx), (.int se)] maxLocals)) t := by
    intro t kt
    refine pre197 _ ?_
    refine XS.iload X197.here hx rfl (hb hby at_380) rfl ?_
    refine XS.bipush X197.here hx rfl (hb hby at_382) ?_
    exact kt
  obtain ⟨T215, L215, fk11, X215, N215, Z215, K215, KK215, hf215_0, hf215_1, hp215_0, pre215⟩ : ∃ (T215 : State) (L215 : List Loc) (fk11 : Nat → Int32), Stand p l e room_1 (s.setVm s.vm) m #[(.long va), (.int ra), (.int rb), (.int rx), (.int se)] below meth c T215 L215 13 248 ∧ Fr n0 L215 ∧ n0 ≤ T215.heap.size ∧ Keep h0 T215.heap [] ∧ Keep h0 T215.heap [] ∧ Old Z n0 T215.heap ∧ owAI Z T215.heap ac .char nn fk11 ∧ own_fill (own_F ln ca cb cx qq mm nn) nn fk11 11 ∧ ∀ t, Steps p.tables e below (T215.setTop (mkF m 409 #[.val (.long va), .second, .val (.int ra), .val (.int rb), .val (.int rx), .val (.int se), .val (.int ln), .val (.int ub), .val (.int qq), .val (.int ca), .val (.int cb), .val (.int cx), .val (.long mm), .second, .val (.ref ac), .unset, .unset, .unset, .unset, .unset, .unset, .unset, .unset, .unset, .unset, .unset, .unset] [])) t → Steps p.tables e below (s₁.setTop (entryFrame m #[(.long va), (.int ra), (.int rb), (.int rx), (.int se)] maxLocals)) t := by
    by_cases hc384_216 : (10 : Int32) < ln
    · skip
      obtain ⟨_, _, ⟨T217, L217, k217, n217⟩, -, X217, ⟨Lc217, hQ217, l217, y217, z217⟩, st217⟩ := Jvm.LawKit.callS X197 hx (y := (⟨"com/example/relent/relent/WholeNumbersUnsignedPinLaw", "at", "(IICCCIJ)C"⟩ : MethodName)) hown (mvT hZ (hw _ (List.mem_of_getElem? (i := 28) rfl))) (mvT hZ (hw _ (List.mem_of_getElem? (i := 29) rfl))) (mvT hZ (hw _ (List.mem_of_getElem? (i := 2) rfl))) (mvT hZ (hw _ (List.mem_of_getElem? (i := 30) rfl))) (by decide) (backOf (W := 2) (rm3 l Z a0 hw [] (10 : Int32) ln ca cb cx qq mm (nn - 2 - 10) T197.heap n0 Z197 (own_kk hln hn20 (kz := (10 : Int32)) (k := 10) rfl hc384_216)) hZ (hw _ (List.mem_of_getElem? (i := 30) rfl)) (hw _ (List.mem_of_getElem? (i := 2) rfl)) (by decide) (by decide)) (g := (mkF m 405 #[.val (.long va), .second, .val (.int ra), .val (.int rb), .val (.int rx), .val (.int se), .val (.int ln), .val (.int ub), .val (.int qq), .val (.int ca), .val (.int cb), .val (.int cx), .val (.long mm), .second, .val (.ref ac), .unset, .unset, .unset, .unset, .unset, .unset, .unset, .unset, .unset, .unset, .unset, .unset] [(.long mm), (.int qq), (.int cx), (.int cb), (.int ca), (.int ln), (.int (10 : Int32)), (.int (10 : Int32)), (.ref ac)])) rfl (by rw [hml]; rfl) (argsL := [(.int (10 : Int32)), (.int ln), (.int ca), (.int cb), (.int cx), (.int qq), (.long mm)]) (rest := [(.int (10 : Int32)), (.ref ac)]) (lenOf pd_15 rfl) rfl (by show 2 * 0 + _ ≤ _; exact Nat.le_of_eq rfl) (hb hby at_405) (fun _ _ => ⟨rfl, rfl, (by decide : 12 + 1 ≤ _), (by decide : 229 + 19 ≤ _)⟩)
      dsimp only [Pt.U, Pt.locs, Pt.cells, Pt.slots] at X217 l217 y217 z217 st217 hQ217
      subst l217 y217 z217
      obtain ⟨rfl, N217q, K217⟩ := hQ217
      have N217 := Fr.app N197 N217q
      have f218 := hf197_0.keep K217 all0
      have f219 := hf197_1.keep K217 nin0
      have Z220 := Nat.le_trans Z197 K217.1
      have K221 := K197.trans K217 all0
      have K222 := KK197.trans K217 all0
      obtain ⟨T223, gh223, X223, hE223, W223, V223, st223⟩ := owStC X217 hx hZ rfl f219 (k := 10) (j := (10 : Int32)) rfl ((own_lt (i := (10 : Int32)) (a := 10) rfl hln).mp hc384_216) (g := (mkF m 408 #[.val (.long va), .second, .val (.int ra), .val (.int rb), .val (.int rx), .val (.int se), .val (.int ln), .val (.int ub), .val (.int qq), .val (.int ca), .val (.int cb), .val (.int cx), .val (.long mm), .second, .val (.ref ac), .unset, .unset, .unset, .unset, .unset, .unset, .unset, .unset, .unset, .unset, .unset, .unset] [(.int (fn3 (10 : Int32) ln ca cb cx qq mm (nn - 2 - 10))), (.int (10 : Int32)), (.ref ac)])) rfl rfl (hb hby at_408)
      have f224 := f218.wr W223 g_ac
      have Z226 := Nat.le_trans Z220 (Keep.of_wr W223).1
      have N227 := Fr.snoc X223 N217 g_ac
      have K228 := K221.wr W223 (Or.inr sz_ac)
      have K229 := K222.wr W223 (Or.inr sz_ac)
      have pre230 : ∀ t, Steps p.tables e below (T223.setTop (mkF m 409 #[.val (.long va), .second, .val (.int ra), .val (.int rb), .val (.int rx), .val (.int se), .val (.int ln), .val (.int ub), .val (.int qq), .val (.int ca), .val (.int cb), .val (.int cx), .val (.long mm), .second, .val (.ref ac), .unset, .unset, .unset, .unset, .unset, .unset, .unset, .unset, .unset, .unset, .unset, .unset] [])) t → Steps p.tables e below (s₁.setTop (entryFrame m #[(.long va), (.int ra), (.int rb), (.int rx), (.int se)] maxLocals)) t := by
        intro t kt
        refine pre214 _ ?_
        show Steps p.tables e below (T197.setTop (mkF m 384 #[.val (.long va), .second, .val (.int ra), .val (.int rb), .val (.int rx), .val (.int se), .val (.int ln), .val (.int ub), .val (.int qq), .val (.int ca), .val (.int cb), .val (.int cx), .val (.long mm), .second, .val (.ref ac), .unset, .unset, .unset, .unset, .unset, .unset, .unset, .unset, .unset, .unset, .unset, .unset] [(.int (10 : Int32)), (.int ln)])) _
        refine XS.icmpNo X197.here hx rfl (hb hby at_384) rfl (XT.ii_le_f hc384_216) ?_
        refine XS.aload X197.here hx rfl (hb hby at_387) rfl rfl ?_
        refine XS.bipush X197.here hx rfl (hb hby at_389) ?_
        refine XS.bipush X197.here hx rfl (hb hby at_391) ?_
        show Steps p.tables e below (T197.setTop (mkF m 393 #[.val (.long va), .second, .val (.int ra), .val (.int rb), .val (.int rx), .val (.int se), .val (.int ln), .val (.int ub), .val (.int qq), .val (.int ca), .val (.int cb), .val (.int cx), .val (.long mm), .second, .val (.ref ac), .unset, .unset, .unset, .unset, .unset, .unset, .unset, .unset, .unset, .unset, .unset, .unset] [(.int (10 : Int32)), (.int (10 : Int32)), (.ref ac)])) _
        refine XS.iload X197.here hx rfl (hb hby at_393) rfl ?_
        refine XS.iload X197.here hx rfl (hb hby at_395) rfl ?_
        refine XS.iload X197.here hx rfl (hb hby at_397) rfl ?_
        refine XS.iload X197.here hx rfl (hb hby at_399) rfl ?_
        show Steps p.tables e below (T197.setTop (mkF m 401 #[.val (.long va), .second, .val (.int ra), .val (.int rb), .val (.int rx), .val (.int se), .val (.int ln), .val (.int ub), .val (.int qq), .val (.int ca), .val (.int cb), .val (.int cx), .val (.long mm), .second, .val (.ref ac), .unset, .unset, .unset, .unset, .unset, .unset, .unset, .unset, .unset, .unset, .unset, .unset] [(.int cx), (.int cb), (.int ca), (.int ln), (.int (10 : Int32)), (.int (10 : Int32)), (.ref ac)])) _
        refine XS.iload X197.here hx rfl (hb hby at_401) rfl ?_
        refine XS.lload X197.here hx rfl (hb hby at_403) rfl ?_
        show Steps p.tables e below (T197.setTop (mkF m 405 #[.val (.long va), .second, .val (.int ra), .val (.int rb), .val (.int rx), .val (.int se), .val (.int ln), .val (.int ub), .val (.int qq), .val (.int ca), .val (.int cb), .val (.int cx), .val (.long mm), .second, .val (.ref ac), .unset, .unset, .unset, .unset, .unset, .unset, .unset, .unset, .unset, .unset, .unset, .unset] [(.long mm), (.int qq), (.int cx), (.int cb), (.int ca), (.int ln), (.int (10 : Int32)), (.int (10 : Int32)), (.ref ac)])) _
        refine st217 _ ?_
        show Steps p.tables e below (T217.setTop (mkF m 408 #[.val (.long va), .second, .val (.int ra), .val (.int rb), .val (.int rx), .val (.int se), .val (.int ln), .val (.int ub), .val (.int qq), .val (.int ca), .val (.int cb), .val (.int cx), .val (.long mm), .second, .val (.ref ac), .unset, .unset, .unset, .unset, .unset, .unset, .unset, .unset, .unset, .unset, .unset, .unset] [(.int (fn3 (10 : Int32) ln ca cb cx qq mm (nn - 2 - 10))), (.int (10 : Int32)), (.ref ac)])) _
        refine st223 _ ?_
        exact kt
      have eJ : T223.heap = gh223 := hE223
      exact ⟨T223, _, (owUp fk10 10 ((fn3 (10 : Int32) ln ca cb cx qq mm (nn - 2 - 10)).toUInt32.toUInt16.toUInt32.toInt32)), X223.mono (by decide) (by decide), N227, (by rw [eJ]; exact Z226), (by rw [eJ]; exact K228), (by rw [eJ]; exact K229), (by rw [eJ]; exact f224), (by rw [eJ]; exact V223), (own_fillS (k := 10) hl10), fun t kt => pre230 _ kt⟩
    · skip
      have pre231 : ∀ t, Steps p.tables e below (T197.setTop (mkF m 409 #[.val (.long va), .second, .val (.int ra), .val (.int rb), .val (.int rx), .val (.int se), .val (.int ln), .val (.int ub), .val (.int qq), .val (.int ca), .val (.int cb), .val (.int cx), .val (.long mm), .second, .val (.ref ac), .unset, .unset, .unset, .unset, .unset, .unset, .unset, .unset, .unset, .unset, .unset, .unset] [])) t → Steps p.tables e below (s₁.setTop (entryFrame m #[(.long va), (.int ra), (.int rb), (.int rx), (.int se)] maxLocals)) t := by
        intro t kt
        refine pre214 _ ?_
        show Steps p.tables e below (T197.setTop (mkF m 384 #[.val (.long va), .second, .val (.int ra), .val (.int rb), .val (.int rx), .val (.int se), .val (.int ln), .val (.int ub), .val (.int qq), .val (.int ca), .val (.int cb), .val (.int cx), .val (.long mm), .second, .val (.ref ac), .unset, .unset, .unset, .unset, .unset, .unset, .unset, .unset, .unset, .unset, .unset, .unset] [(.int (10 : Int32)), (.int ln)])) _
        refine XS.icmpYes X197.here hx rfl (pc0 := 384) (pc' := 409) rfl (hb hby at_384) rfl (XT.ii_le_t hc384_216) (by decide) (by decide) ?_
        exact kt
      have eJ : T197.heap = T197.heap := rfl
      exact ⟨T197, _, fk10, X197.mono (by decide) (by decide), N197, (by rw [eJ]; exact Z197), (by rw [eJ]; exact K197), (by rw [eJ]; exact KK197), (by rw [eJ]; exact hf197_0), (by rw [eJ]; exact hf197_1), (own_fillN hln (kz := (10 : Int32)) (k := 10) rfl hc384_216 hl10), fun t kt => pre231 _ kt⟩
  have hl11 := hp215_0
  have pre232 : ∀ t, Steps p.tables e below (T215.setTop (mkF m 413 #[.val (.long va), .second, .val (.int ra), .val (.int rb), .val (.int rx), .val (.int se), .val (.int ln), .val (.int ub), .val (.int qq), .val (.int ca), .val (.int cb), .val (.int cx), .val (.long mm), .second, .val (.ref ac), .unset, .unset, .unset, .unset, .unset, .unset, .unset, .unset, .unset, .unset, .unset, .unset] [(.int (11 : Int32)), (.int ln)])) t → Steps p.tables e below (s₁.setTop (entryFrame m #[(.long va), (.int ra), (.int rb), (.int rx), (.int se)] maxLocals)) t := by
    intro t kt
    refine pre215 _ ?_
    refine XS.iload X215.here hx rfl (hb hby at_409) rfl ?_
    show Steps p.tables e below (T215.setTop (mkF m 411 #[.val (.long va), .second, .val (.int ra), .val (.int rb), .val (.int rx), .val (.int se), .val (.int ln), .val (.int ub), .val (.int qq), .val (.int ca), .val (.int cb), .val (.int cx), .val (.long mm), .second, .val (.ref ac), .unset, .unset, .unset, .unset, .unset, .unset, .unset, .unset, .unset, .unset, .unset, .unset] [(.int ln)])) _
    refine XS.bipush X215.here hx rfl (hb hby at_411) ?_
    exact kt
  obtain ⟨T233, L233, fk12, X233, N233, Z233, K233, KK233, hf233_0, hf233_1, hp233_0, pre233⟩ : ∃ (T233 : State) (L233 : List Loc) (fk12 : Nat → Int32), Stand p l e room_1 (s.setVm s.vm) m #[(.long va), (.int ra), (.int rb), (.int rx), (.int se)] below meth c T233 L233 14 267 ∧ Fr n0 L233 ∧ n0 ≤ T233.heap.size ∧ Keep h0 T233.heap [] ∧ Keep h0 T233.heap [] ∧ Old Z n0 T233.heap ∧ owAI Z T233.heap ac .char nn fk12 ∧ own_fill (own_F ln ca cb cx qq mm nn) nn fk12 12 ∧ ∀ t, Steps p.tables e below (T233.setTop (mkF m 438 #[.val (.long va), .second, .val (.int ra), .val (.int rb), .val (.int rx), .val (.int se), .val (.int ln), .val (.int ub), .val (.int qq), .val (.int ca), .val (.int cb), .val (.int cx), .val (.long mm), .second, .val (.ref ac), .unset, .unset, .unset, .unset, .unset, .unset, .unset, .unset, .unset, .unset, .unset, .unset] [])) t → Steps p.tables e below (s₁.setTop (entryFrame m #[(.long va), (.int ra), (.int rb), (.int rx), (.int se)] maxLocals)) t := by
    by_cases hc413_234 : (11 : Int32) < ln
    · skip
      obtain ⟨_, _, ⟨T235, L235, k235, n235⟩, -, X235, ⟨Lc235, hQ235, l235, y235, z235⟩, st235⟩ := Jvm.LawKit.callS X215 hx (y := (⟨"com/example/relent/relent/WholeNumbersUnsignedPinLaw", "at", "(IICCCIJ)C"⟩ : MethodName)) hown (mvT hZ (hw _ (List.mem_of_getElem? (i := 28) rfl))) (mvT hZ (hw _ (List.mem_of_getElem? (i := 29) rfl))) (mvT hZ (hw _ (List.mem_of_getElem? (i := 2) rfl))) (mvT hZ (hw _ (List.mem_of_getElem? (i := 30) rfl))) (by decide) (backOf (W := 2) (rm3 l Z a0 hw [] (11 : Int32) ln ca cb cx qq mm (nn - 2 - 11) T215.heap n0 Z215 (own_kk hln hn20 (kz := (11 : Int32)) (k := 11) rfl hc413_234)) hZ (hw _ (List.mem_of_getElem? (i := 30) rfl)) (hw _ (List.mem_of_getElem? (i := 2) rfl)) (by decide) (by decide)) (g := (mkF m 434 #[.val (.long va), .second, .val (.int ra), .val (.int rb), .val (.int rx), .val (.int se), .val (.int ln), .val (.int ub), .val (.int qq), .val (.int ca), .val (.int cb), .val (.int cx), .val (.long mm), .second, .val (.ref ac), .unset, .unset, .unset, .unset, .unset, .unset, .unset, .unset, .unset, .unset, .unset, .unset] [(.long mm), (.int qq), (.int cx), (.int cb), (.int ca), (.int ln), (.int (11 : Int32)), (.int (11 : Int32)), (.ref ac)])) rfl (by rw [hml]; rfl) (argsL := [(.int (11 : Int32)), (.int ln), (.int ca), (.int cb), (.int cx), (.int qq), (.long mm)]) (rest := [(.int (11 : Int32)), (.ref ac)]) (lenOf pd_15 rfl) rfl (by show 2 * 0 + _ ≤ _; exact Nat.le_of_eq rfl) (hb hby at_434) (fun _ _ => ⟨rfl, rfl, (by decide : 13 + 1 ≤ _), (by decide : 248 + 19 ≤ _)⟩)
      dsimp only [Pt.U, Pt.locs, Pt.cells, Pt.slots] at X235 l235 y235 z235 st235 hQ235
      subst l235 y235 z235
      obtain ⟨rfl, N235q, K235⟩ := hQ235
      have N235 := Fr.app N215 N235q
      have f236 := hf215_0.keep K235 all0
      have f237 := hf215_1.keep K235 nin0
      have Z238 := Nat.le_trans Z215 K235.1
      have K239 := K215.trans K235 all0
      have K240 := KK215.trans K235 all0
      obtain ⟨T241, gh241, X241, hE241, W241, V241, st241⟩ := owStC X235 hx hZ rfl f237 (k := 11) (j := (11 : Int32)) rfl ((own_lt (i := (11 : Int32)) (a := 11) rfl hln).mp hc413_234) (g := (mkF m 437 #[.val (.long va), .second, .val (.int ra), .val (.int rb), .val (.int rx), .val (.int se), .val (.int ln), .val (.int ub), .val (.int qq), .val (.int ca), .val (.int cb), .val (.int cx), .val (.long mm), .second, .val (.ref ac), .unset, .unset, .unset, .unset, .unset, .unset, .unset, .unset, .unset, .unset, .unset, .unset] [(.int (fn3 (11 : Int32) ln ca cb cx qq mm (nn - 2 - 11))), (.int (11 : Int32)), (.ref ac)])) rfl rfl (hb hby at_437)
      have f242 := f236.wr W241 g_ac
      have Z244 := Nat.le_trans Z238 (Keep.of_wr W241).1
      have N245 := Fr.snoc X241 N235 g_ac
      have K246 := K239.wr W241 (Or.inr sz_ac)
      have K247 := K240.wr W241 (Or.inr sz_ac)
      have pre248 : ∀ t, Steps p.tables e below (T241.setTop (mkF m 438 #[.val (.long va), .second, .val (.int ra), .val (.int rb), .val (.int rx), .val (.int se), .val (.int ln), .val (.int ub), .val (.int qq), .val (.int ca), .val (.int cb), .val (.int cx), .val (.long mm), .second, .val (.ref ac), .unset, .unset, .unset, .unset, .unset, .unset, .unset, .unset, .unset, .unset, .unset, .unset] [])) t → Steps p.tables e below (s₁.setTop (entryFrame m #[(.long va), (.int ra), (.int rb), (.int rx), (.int se)] maxLocals)) t := by
        intro t kt
        refine pre232 _ ?_
        show Steps p.tables e below (T215.setTop (mkF m 413 #[.val (.long va), .second, .val (.int ra), .val (.int rb), .val (.int rx), .val (.int se), .val (.int ln), .val (.int ub), .val (.int qq), .val (.int ca), .val (.int cb), .val (.int cx), .val (.long mm), .second, .val (.ref ac), .unset, .unset, .unset, .unset, .unset, .unset, .unset, .unset, .unset, .unset, .unset, .unset] [(.int (11 : Int32)), (.int ln)])) _
        refine XS.icmpNo X215.here hx rfl (hb hby at_413) rfl (XT.ii_le_f hc413_234) ?_
        refine XS.aload X215.here hx rfl (hb hby at_416) rfl rfl ?_
        refine XS.bipush X215.here hx rfl (hb hby at_418) ?_
        refine XS.bipush X215.here hx rfl (hb hby at_420) ?_
        show Steps p.tables e below (T215.setTop (mkF m 422 #[.val (.long va), .second, .val (.int ra), .val (.int rb), .val (.int rx), .val (.int se), .val (.int ln), .val (.int ub), .val (.int qq), .val (.int ca), .val (.int cb), .val (.int cx), .val (.long mm), .second, .val (.ref ac), .unset, .unset, .unset, .unset, .unset, .unset, .unset, .unset, .unset, .unset, .unset, .unset] [(.int (11 : Int32)), (.int (11 : Int32)), (.ref ac)])) _
        refine XS.iload X215.here hx rfl (hb hby at_422) rfl ?_
        refine XS.iload X215.here hx rfl (hb hby at_424) rfl ?_
        refine XS.iload X215.here hx rfl (hb hby at_426) rfl ?_
        refine XS.iload X215.here hx rfl (hb hby at_428) rfl ?_
        show Steps p.tables e below (T215.setTop (mkF m 430 #[.val (.long va), .second, .val (.int ra), .val (.int rb), .val (.int rx), .val (.int se), .val (.int ln), .val (.int ub), .val (.int qq), .val (.int ca), .val (.int cb), .val (.int cx), .val (.long mm), .second, .val (.ref ac), .unset, .unset, .unset, .unset, .unset, .unset, .unset, .unset, .unset, .unset, .unset, .unset] [(.int cx), (.int cb), (.int ca), (.int ln), (.int (11 : Int32)), (.int (11 : Int32)), (.ref ac)])) _
        refine XS.iload X215.here hx rfl (hb hby at_430) rfl ?_
        refine XS.lload X215.here hx rfl (hb hby at_432) rfl ?_
        show Steps p.tables e below (T215.setTop (mkF m 434 #[.val (.long va), .second, .val (.int ra), .val (.int rb), .val (.int rx), .val (.int se), .val (.int ln), .val (.int ub), .val (.int qq), .val (.int ca), .val (.int cb), .val (.int cx), .val (.long mm), .second, .val (.ref ac), .unset, .unset, .unset, .unset, .unset, .unset, .unset, .unset, .unset, .unset, .unset, .unset] [(.long mm), (.int qq), (.int cx), (.int cb), (.int ca), (.int ln), (.int (11 : Int32)), (.int (11 : Int32)), (.ref ac)])) _
        refine st235 _ ?_
        show Steps p.tables e below (T235.setTop (mkF m 437 #[.val (.long va), .second, .val (.int ra), .val (.int rb), .val (.int rx), .val (.int se), .val (.int ln), .val (.int ub), .val (.int qq), .val (.int ca), .val (.int cb), .val (.int cx), .val (.long mm), .second, .val (.ref ac), .unset, .unset, .unset, .unset, .unset, .unset, .unset, .unset, .unset, .unset, .unset, .unset] [(.int (fn3 (11 : Int32) ln ca cb cx qq mm (nn - 2 - 11))), (.int (11 : Int32)), (.ref ac)])) _
        refine st241 _ ?_
        exact kt
      have eJ : T241.heap = gh241 := hE241
      exact ⟨T241, _, (owUp fk11 11 ((fn3 (11 : Int32) ln ca cb cx qq mm (nn - 2 - 11)).toUInt32.toUInt16.toUInt32.toInt32)), X241.mono (by decide) (by decide), N245, (by rw [eJ]; exact Z244), (by rw [eJ]; exact K246), (by rw [eJ]; exact K247), (by rw [eJ]; exact f242), (by rw [eJ]; exact V241), (own_fillS (k := 11) hl11), fun t kt => pre248 _ kt⟩
    · skip
      have pre249 : ∀ t, Steps p.tables e below (T215.setTop (mkF m 438 #[.val (.long va), .second, .val (.int ra), .val (.int rb), .val (.int rx), .val (.int se), .val (.int ln), .val (.int ub), .val (.int qq), .val (.int ca), .val (.int cb), .val (.int cx), .val (.long mm), .second, .val (.ref ac), .unset, .unset, .unset, .unset, .unset, .unset, .unset, .unset, .unset, .unset, .unset, .unset] [])) t → Steps p.tables e below (s₁.setTop (entryFrame m #[(.long va), (.int ra), (.int rb), (.int rx), (.int se)] maxLocals)) t := by
        intro t kt
        refine pre232 _ ?_
        show Steps p.tables e below (T215.setTop (mkF m 413 #[.val (.long va), .second, .val (.int ra), .val (.int rb), .val (.int rx), .val (.int se), .val (.int ln), .val (.int ub), .val (.int qq), .val (.int ca), .val (.int cb), .val (.int cx), .val (.long mm), .second, .val (.ref ac), .unset, .unset, .unset, .unset, .unset, .unset, .unset, .unset, .unset, .unset, .unset, .unset] [(.int (11 : Int32)), (.int ln)])) _
        refine XS.icmpYes X215.here hx rfl (pc0 := 413) (pc' := 438) rfl (hb hby at_413) rfl (XT.ii_le_t hc413_234) (by decide) (by decide) ?_
        exact kt
      have eJ : T215.heap = T215.heap := rfl
      exact ⟨T215, _, fk11, X215.mono (by decide) (by decide), N215, (by rw [eJ]; exact Z215), (by rw [eJ]; exact K215), (by rw [eJ]; exact KK215), (by rw [eJ]; exact hf215_0), (by rw [eJ]; exact hf215_1), (own_fillN hln (kz := (11 : Int32)) (k := 11) rfl hc413_234 hl11), fun t kt => pre249 _ kt⟩
  have hl12 := hp233_0
  have pre250 : ∀ t, Steps p.tables e below (T233.setTop (mkF m 442 #[.val (.long va), .second, .val (.int ra), .val (.int rb), .val (.int rx), .val (.int se), .val (.int ln), .val (.int ub), .val (.int qq), .val (.int ca), .val (.int cb), .val (.int cx), .val (.long mm), .second, .val (.ref ac), .unset, .unset, .unset, .unset, .unset, .unset, .unset, .unset, .unset, .unset, .unset, .unset] [(.int (12 : Int32)), (.int ln)])) t → Steps p.tables e below (s₁.setTop (entryFrame m #[(.long va), (.int ra), (.int rb), (.int rx), (.int se)] maxLocals)) t := by
    intro t kt
    refine pre233 _ ?_
    refine XS.iload X233.here hx rfl (hb hby at_438) rfl ?_
    refine XS.bipush X233.here hx rfl (hb hby at_440) ?_
    exact kt
  obtain ⟨T251, L251, fk13, X251, N251, Z251, K251, KK251, hf251_0, hf251_1, hp251_0, pre251⟩ : ∃ (T251 : State) (L251 : List Loc) (fk13 : Nat → Int32), Stand p l e room_1 (s.setVm s.vm) m #[(.long va), (.int ra), (.int rb), (.int rx), (.int se)] below meth c T251 L251 15 286 ∧ Fr n0 L251 ∧ n0 ≤ T251.heap.size ∧ Keep h0 T251.heap [] ∧ Keep h0 T251.heap [] ∧ Old Z n0 T251.heap ∧ owAI Z T251.heap ac .char nn fk13 ∧ own_fill (own_F ln ca cb cx qq mm nn) nn fk13 13 ∧ ∀ t, Steps p.tables e below (T251.setTop (mkF m 467 #[.val (.long va), .second, .val (.int ra), .val (.int rb), .val (.int rx), .val (.int se), .val (.int ln), .val (.int ub), .val (.int qq), .val (.int ca), .val (.int cb), .val (.int cx), .val (.long mm), .second, .val (.ref ac), .unset, .unset, .unset, .unset, .unset, .unset, .unset, .unset, .unset, .unset, .unset, .unset] [])) t → Steps p.tables e below (s₁.setTop (entryFrame m #[(.long va), (.int ra), (.int rb), (.int rx), (.int se)] maxLocals)) t := by
    by_cases hc442_252 : (12 : Int32) < ln
    · skip
      obtain ⟨_, _, ⟨T253, L253, k253, n253⟩, -, X253, ⟨Lc253, hQ253, l253, y253, z253⟩, st253⟩ := Jvm.LawKit.callS X233 hx (y := (⟨"com/example/relent/relent/WholeNumbersUnsignedPinLaw", "at", "(IICCCIJ)C"⟩ : MethodName)) hown (mvT hZ (hw _ (List.mem_of_getElem? (i := 28) rfl))) (mvT hZ (hw _ (List.mem_of_getElem? (i := 29) rfl))) (mvT hZ (hw _ (List.mem_of_getElem? (i := 2) rfl))) (mvT hZ (hw _ (List.mem_of_getElem? (i := 30) rfl))) (by decide) (backOf (W := 2) (rm3 l Z a0 hw [] (12 : Int32) ln ca cb cx qq mm (nn - 2 - 12) T233.heap n0 Z233 (own_kk hln hn20 (kz := (12 : Int32)) (k := 12) rfl hc442_252)) hZ (hw _ (List.mem_of_getElem? (i := 30) rfl)) (hw _ (List.mem_of_getElem? (i := 2) rfl)) (by decide) (by decide)) (g := (mkF m 463 #[.val (.long va), .second, .val (.int ra), .val (.int rb), .val (.int rx), .val (.int se), .val (.int ln), .val (.int ub), .val (.int qq), .val (.int ca), .val (.int cb), .val (.int cx), .val (.long mm), .second, .val (.ref ac), .unset, .unset, .unset, .unset, .unset, .unset, .unset, .unset, .unset, .unset, .unset, .unset] [(.long mm), (.int qq), (.int cx), (.int cb), (.int ca), (.int ln), (.int (12 : Int32)), (.int (12 : Int32)), (.ref ac)])) rfl (by rw [hml]; rfl) (argsL := [(.int (12 : Int32)), (.int ln), (.int ca), (.int cb), (.int cx), (.int qq), (.long mm)]) (rest := [(.int (12 : Int32)), (.ref ac)]) (lenOf pd_15 rfl) rfl (by show 2 * 0 + _ ≤ _; exact Nat.le_of_eq rfl) (hb hby at_463) (fun _ _ => ⟨rfl, rfl, (by decide : 14 + 1 ≤ _), (by decide : 267 + 19 ≤ _)⟩)
      dsimp only [Pt.U, Pt.locs, Pt.cells, Pt.slots] at X253 l253 y253 z253 st253 hQ253
      subst l253 y253 z253
      obtain ⟨rfl, N253q, K253⟩ := hQ253
      have N253 := Fr.app N233 N253q
      have f254 := hf233_0.keep K253 all0
      have f255 := hf233_1.keep K253 nin0
      have Z256 := Nat.le_trans Z233 K253.1
      have K257 := K233.trans K253 all0
      have K258 := KK233.trans K253 all0
      obtain ⟨T259, gh259, X259, hE259, W259, V259, st259⟩ := owStC X253 hx hZ rfl f255 (k := 12) (j := (12 : Int32)) rfl ((own_lt (i := (12 : Int32)) (a := 12) rfl hln).mp hc442_252) (g := (mkF m 466 #[.val (.long va), .second, .val (.int ra), .val (.int rb), .val (.int rx), .val (.int se), .val (.int ln), .val (.int ub), .val (.int qq), .val (.int ca), .val (.int cb), .val (.int cx), .val (.long mm), .second, .val (.ref ac), .unset, .unset, .unset, .unset, .unset, .unset, .unset, .unset, .unset, .unset, .unset, .unset] [(.int (fn3 (12 : Int32) ln ca cb cx qq mm (nn - 2 - 12))), (.int (12 : Int32)), (.ref ac)])) rfl rfl (hb hby at_466)
      have f260 := f254.wr W259 g_ac
      have Z262 := Nat.le_trans Z256 (Keep.of_wr W259).1
      have N263 := Fr.snoc X259 N253 g_ac
      have K264 := K257.wr W259 (Or.inr sz_ac)
      have K265 := K258.wr W259 (Or.inr sz_ac)
      have pre266 : ∀ t, Steps p.tables e below (T259.setTop (mkF m 467 #[.val (.long va), .second, .val (.int ra), .val (.int rb), .val (.int rx), .val (.int se), .val (.int ln), .val (.int ub), .val (.int qq), .val (.int ca), .val (.int cb), .val (.int cx), .val (.long mm), .second, .val (.ref ac), .unset, .unset, .unset, .unset, .unset, .unset, .unset, .unset, .unset, .unset, .unset, .unset] [])) t → Steps p.tables e below (s₁.setTop (entryFrame m #[(.long va), (.int ra), (.int rb), (.int rx), (.int se)] maxLocals)) t := by
        intro t kt
        refine pre250 _ ?_
        show Steps p.tables e below (T233.setTop (mkF m 442 #[.val (.long va), .second, .val (.int ra), .val (.int rb), .val (.int rx), .val (.int se), .val (.int ln), .val (.int ub), .val (.int qq), .val (.int ca), .val (.int cb), .val (.int cx), .val (.long mm), .second, .val (.ref ac), .unset, .unset, .unset, .unset, .unset, .unset, .unset, .unset, .unset, .unset, .unset, .unset] [(.int (12 : Int32)), (.int ln)])) _
        refine XS.icmpNo X233.here hx rfl (hb hby at_442) rfl (XT.ii_le_f hc442_252) ?_
        refine XS.aload X233.here hx rfl (hb hby at_445) rfl rfl ?_
        refine XS.bipush X233.here hx rfl (hb hby at_447) ?_
        refine XS.bipush X233.here hx rfl (hb hby at_449) ?_
        show Steps p.tables e below (T233.setTop (mkF m 451 #[.val (.long va), .second, .val (.int ra), .val (.int rb), .val (.int rx), .val (.int se), .val (.int ln), .val (.int ub), .val (.int qq), .val (.int ca), .val (.int cb), .val (.int cx), .val (.long mm), .second, .val (.ref ac), .unset, .unset, .unset, .unset, .unset, .unset, .unset, .unset, .unset, .unset, .unset, .unset] [(.int (12 : Int32)), (.int (12 : Int32)), (.ref ac)])) _
        refine XS.iload X233.here hx rfl (hb hby at_451) rfl ?_
        refine XS.iload X233.here hx rfl (hb hby at_453) rfl ?_
        refine XS.iload X233.here hx rfl (hb hby at_455) rfl ?_
        refine XS.iload X233.here hx rfl (hb hby at_457) rfl ?_
        show Steps p.tables e below (T233.setTop (mkF m 459 #[.val (.long va), .second, .val (.int ra), .val (.int rb), .val (.int rx), .val (.int se), .val (.int ln), .val (.int ub), .val (.int qq), .val (.int ca), .val (.int cb), .val (.int cx), .val (.long mm), .second, .val (.ref ac), .unset, .unset, .unset, .unset, .unset, .unset, .unset, .unset, .unset, .unset, .unset, .unset] [(.int cx), (.int cb), (.int ca), (.int ln), (.int (12 : Int32)), (.int (12 : Int32)), (.ref ac)])) _
        refine XS.iload X233.here hx rfl (hb hby at_459) rfl ?_
        refine XS.lload X233.here hx rfl (hb hby at_461) rfl ?_
        show Steps p.tables e below (T233.setTop (mkF m 463 #[.val (.long va), .second, .val (.int ra), .val (.int rb), .val (.int rx), .val (.int se), .val (.int ln), .val (.int ub), .val (.int qq), .val (.int ca), .val (.int cb), .val (.int cx), .val (.long mm), .second, .val (.ref ac), .unset, .unset, .unset, .unset, .unset, .unset, .unset, .unset, .unset, .unset, .unset, .unset] [(.long mm), (.int qq), (.int cx), (.int cb), (.int ca), (.int ln), (.int (12 : Int32)), (.int (12 : Int32)), (.ref ac)])) _
        refine st253 _ ?_
        show Steps p.tables e below (T253.setTop (mkF m 466 #[.val (.long va), .second, .val (.int ra), .val (.int rb), .val (.int rx), .val (.int se), .val (.int ln), .val (.int ub), .val (.int qq), .val (.int ca), .val (.int cb), .val (.int cx), .val (.long mm), .second, .val (.ref ac), .unset, .unset, .unset, .unset, .unset, .unset, .unset, .unset, .unset, .unset, .unset, .unset] [(.int (fn3 (12 : Int32) ln ca cb cx qq mm (nn - 2 - 12))), (.int (12 : Int32)), (.ref ac)])) _
        refine st259 _ ?_
        exact kt
      have eJ : T259.heap = gh259 := hE259
      exact ⟨T259, _, (owUp fk12 12 ((fn3 (12 : Int32) ln ca cb cx qq mm (nn - 2 - 12)).toUInt32.toUInt16.toUInt32.toInt32)), X259.mono (by decide) (by decide), N263, (by rw [eJ]; exact Z262), (by rw [eJ]; exact K264), (by rw [eJ]; exact K265), (by rw [eJ]; exact f260), (by rw [eJ]; exact V259), (own_fillS (k := 12) hl12), fun t kt => pre266 _ kt⟩
    · skip
      have pre267 : ∀ t, Steps p.tables e below (T233.setTop (mkF m 467 #[.val (.long va), .second, .val (.int ra), .val (.int rb), .val (.int rx), .val (.int se), .val (.int ln), .val (.int ub), .val (.int qq), .val (.int ca), .val (.int cb), .val (.int cx), .val (.long mm), .second, .val (.ref ac), .unset, .unset, .unset, .unset, .unset, .unset, .unset, .unset, .unset, .unset, .unset, .unset] [])) t → Steps p.tables e below (s₁.setTop (entryFrame m #[(.long va), (.int ra), (.int rb), (.int rx), (.int se)] maxLocals)) t := by
        intro t kt
        refine pre250 _ ?_
        show Steps p.tables e below (T233.setTop (mkF m 442 #[.val (.long va), .second, .val (.int ra), .val (.int rb), .val (.int rx), .val (.int se), .val (.int ln), .val (.int ub), .val (.int qq), .val (.int ca), .val (.int cb), .val (.int cx), .val (.long mm), .second, .val (.ref ac), .unset, .unset, .unset, .unset, .unset, .unset, .unset, .unset, .unset, .unset, .unset, .unset] [(.int (12 : Int32)), (.int ln)])) _
        refine XS.icmpYes X233.here hx rfl (pc0 := 442) (pc' := 467) rfl (hb hby at_442) rfl (XT.ii_le_t hc442_252) (by decide) (by decide) ?_
        exact kt
      have eJ : T233.heap = T233.heap := rfl
      exact ⟨T233, _, fk12, X233.mono (by decide) (by decide), N233, (by rw [eJ]; exact Z233), (by rw [eJ]; exact K233), (by rw [eJ]; exact KK233), (by rw [eJ]; exact hf233_0), (by rw [eJ]; exact hf233_1), (own_fillN hln (kz := (12 : Int32)) (k := 12) rfl hc442_252 hl12), fun t kt => pre267 _ kt⟩
  have hl13 := hp251_0
  have pre268 : ∀ t, Steps p.tables e below (T251.setTop (mkF m 471 #[.val (.long va), .second, .val (.int ra), .val (.int rb), .val (.int rx), .val (.int se), .val (.int ln), .val (.int ub), .val (.int qq), .val (.int ca), .val (.int cb), .val (.int cx), .val (.long mm), .second, .val (.ref ac), .unset, .unset, .unset, .unset, .unset, .unset, .unset, .unset, .unset, .unset, .unset, .unset] [(.int (13 : Int32)), (.int ln)])) t → Steps p.tables e below (s₁.setTop (entryFrame m #[(.long va), (.int ra), (.int rb), (.int rx), (.int se)] maxLocals)) t := by
    intro t kt
    refine pre251 _ ?_
    refine XS.iload X251.here hx rfl (hb hby at_467) rfl ?_
    show Steps p.tables e below (T251.setTop (mkF m 469 #[.val (.long va), .second, .val (.int ra), .val (.int rb), .val (.int rx), .val (.int se), .val (.int ln), .val (.int ub), .val (.int qq), .val (.int ca), .val (.int cb), .val (.int cx), .val (.long mm), .second, .val (.ref ac), .unset, .unset, .unset, .unset, .unset, .unset, .unset, .unset, .unset, .unset, .unset, .unset] [(.int ln)])) _
    refine XS.bipush X251.here hx rfl (hb hby at_469) ?_
    exact kt
  obtain ⟨T269, L269, fk14, X269, N269, Z269, K269, KK269, hf269_0, hf269_1, hp269_0, pre269⟩ : ∃ (T269 : State) (L269 : List Loc) (fk14 : Nat → Int32), Stand p l e room_1 (s.setVm s.vm) m #[(.long va), (.int ra), (.int rb), (.int rx), (.int se)] below meth c T269 L269 16 305 ∧ Fr n0 L269 ∧ n0 ≤ T269.heap.size ∧ Keep h0 T269.heap [] ∧ Keep h0 T269.heap [] ∧ Old Z n0 T269.heap ∧ owAI Z T269.heap ac .char nn fk14 ∧ own_fill (own_F ln ca cb cx qq mm nn) nn fk14 14 ∧ ∀ t, Steps p.tables e below (T269.setTop (mkF m 496 #[.val (.long va), .second, .val (.int ra), .val (.int rb), .val (.int rx), .val (.int se), .val (.int ln), .val (.int ub), .val (.int qq), .val (.int ca), .val (.int cb), .val (.int cx), .val (.long mm), .second, .val (.ref ac), .unset, .unset, .unset, .unset, .unset, .unset, .unset, .unset, .unset, .unset, .unset, .unset] [])) t → Steps p.tables e below (s₁.setTop (entryFrame m #[(.long va), (.int ra), (.int rb), (.int rx), (.int se)] maxLocals)) t := by
    by_cases hc471_270 : (13 : Int32) < ln
    · skip
      obtain ⟨_, _, ⟨T271, L271, k271, n271⟩, -, X271, ⟨Lc271, hQ271, l271, y271, z271⟩, st271⟩ := Jvm.LawKit.callS X251 hx (y := (⟨"com/example/relent/relent/WholeNumbersUnsignedPinLaw", "at", "(IICCCIJ)C"⟩ : MethodName)) hown (mvT hZ (hw _ (List.mem_of_getElem? (i := 28) rfl))) (mvT hZ (hw _ (List.mem_of_getElem? (i := 29) rfl))) (mvT hZ (hw _ (List.mem_of_getElem? (i := 2) rfl))) (mvT hZ (hw _ (List.mem_of_getElem? (i := 30) rfl))) (by decide) (backOf (W := 2) (rm3 l Z a0 hw [] (13 : Int32) ln ca cb cx qq mm (nn - 2 - 13) T251.heap n0 Z251 (own_kk hln hn20 (kz := (13 : Int32)) (k := 13) rfl hc471_270)) hZ (hw _ (List.mem_of_getElem? (i := 30) rfl)) (hw _ (List.mem_of_getElem? (i := 2) rfl)) (by decide) (by decide)) (g := (mkF m 492 #[.val (.long va), .second, .val (.int ra), .val (.int rb), .val (.int rx), .val (.int se), .val (.int ln), .val (.int ub), .val (.int qq), .val (.int ca), .val (.int cb), .val (.int cx), .val (.long mm), .second, .val (.ref ac), .unset, .unset, .unset, .unset, .unset, .unset, .unset, .unset, .unset, .unset, .unset, .unset] [(.long mm), (.int qq), (.int cx), (.int cb), (.int ca), (.int ln), (.int (13 : Int32)), (.int (13 : Int32)), (.ref ac)])) rfl (by rw [hml]; rfl) (argsL := [(.int (13 : Int32)), (.int ln), (.int ca), (.int cb), (.int cx), (.int qq), (.long mm)]) (rest := [(.int (13 : Int32)), (.ref ac)]) (lenOf pd_15 rfl) rfl (by show 2 * 0 + _ ≤ _; exact Nat.le_of_eq rfl) (hb hby at_492) (fun _ _ => ⟨rfl, rfl, (by decide : 15 + 1 ≤ _), (by decide : 286 + 19 ≤ _)⟩)
      dsimp only [Pt.U, Pt.locs, Pt.cells, Pt.slots] at X271 l271 y271 z271 st271 hQ271
      subst l271 y271 z271
      obtain ⟨rfl, N271q, K271⟩ := hQ271
      have N271 := Fr.app N251 N271q
      have f272 := hf251_0.keep K271 all0
      have f273 := hf251_1.keep K271 nin0
      have Z274 := Nat.le_trans Z251 K271.1
      have K275 := K251.trans K271 all0
      have K276 := KK251.trans K271 all0
      obtain ⟨T277, gh277, X277, hE277, W277, V277, st277⟩ := owStC X271 hx hZ rfl f273 (k := 13) (j := (13 : Int32)) rfl ((own_lt (i := (13 : Int32)) (a := 13) rfl hln).mp hc471_270) (g := (mkF m 495 #[.val (.long va), .second, .val (.int ra), .val (.int rb), .val (.int rx), .val (.int se), .val (.int ln), .val (.int ub), .val (.int qq), .val (.int ca), .val (.int cb), .val (.int cx), .val (.long mm), .second, .val (.ref ac), .unset, .unset, .unset, .unset, .unset, .unset, .unset, .unset, .unset, .unset, .unset, .unset] [(.int (fn3 (13 : Int32) ln ca cb cx qq mm (nn - 2 - 13))), (.int (13 : Int32)), (.ref ac)])) rfl rfl (hb hby at_495)
      have f278 := f272.wr W277 g_ac
      have Z280 := Nat.le_trans Z274 (Keep.of_wr W277).1
      have N281 := Fr.snoc X277 N271 g_ac
      have K282 := K275.wr W277 (Or.inr sz_ac)
      have K283 := K276.wr W277 (Or.inr sz_ac)
      have pre284 : ∀ t, Steps p.tables e below (T277.setTop (mkF m 496 #[.val (.long va), .second, .val (.int ra), .val (.int rb), .val (.int rx), .val (.int se), .val (.int ln), .val (.int ub), .val (.int qq), .val (.int ca), .val (.int cb), .val (.int cx), .val (.long mm), .second, .val (.ref ac), .unset, .unset, .unset, .unset, .unset, .unset, .unset, .unset, .unset, .unset, .unset, .unset] [])) t → Steps p.tables e below (s₁.setTop (entryFrame m #[(.long va), (.int ra), (.int rb), (.int rx), (.int se)] maxLocals)) t := by
        intro t kt
        refine pre268 _ ?_
        show Steps p.tables e below (T251.setTop (mkF m 471 #[.val (.long va), .second, .val (.int ra), .val (.int rb), .val (.int rx), .val (.int se), .val (.int ln), .val (.int ub), .val (.int qq), .val (.int ca), .val (.int cb), .val (.int cx), .val (.long mm), .second, .val (.ref ac), .unset, .unset, .unset, .unset, .unset, .unset, .unset, .unset, .unset, .unset, .unset, .unset] [(.int (13 : Int32)), (.int ln)])) _
        refine XS.icmpNo X251.here hx rfl (hb hby at_471) rfl (XT.ii_le_f hc471_270) ?_
        refine XS.aload X251.here hx rfl (hb hby at_474) rfl rfl ?_
        refine XS.bipush X251.here hx rfl (hb hby at_476) ?_
        refine XS.bipush X251.here hx rfl (hb hby at_478) ?_
        show Steps p.tables e below (T251.setTop (mkF m 480 #[.val (.long va), .second, .val (.int ra), .val (.int rb), .val (.int rx), .val (.int se), .val (.int ln), .val (.int ub), .val (.int qq), .val (.int ca), .val (.int cb), .val (.int cx), .val (.long mm), .second, .val (.ref ac), .unset, .unset, .unset, .unset, .unset, .unset, .unset, .unset, .unset, .unset, .unset, .unset] [(.int (13 : Int32)), (.int (13 : Int32)), (.ref ac)])) _
        refine XS.iload X251.here hx rfl (hb hby at_480) rfl ?_
        refine XS.iload X251.here hx rfl (hb hby at_482) rfl ?_
        refine XS.iload X251.here hx rfl (hb hby at_484) rfl ?_
        refine XS.iload X251.here hx rfl (hb hby at_486) rfl ?_
        show Steps p.tables e below (T251.setTop (mkF m 488 #[.val (.long va), .second, .val (.int ra), .val (.int rb), .val (.int rx), .val (.int se), .val (.int ln), .val (.int ub), .val (.int qq), .val (.int ca), .val (.int cb), .val (.int cx), .val (.long mm), .second, .val (.ref ac), .unset, .unset, .unset, .unset, .unset, .unset, .unset, .unset, .unset, .unset, .unset, .unset] [(.int cx), (.int cb), (.int ca), (.int ln), (.int (13 : Int32)), (.int (13 : Int32)), (.ref ac)])) _
        refine XS.iload X251.here hx rfl (hb hby at_488) rfl ?_
        refine XS.lload X251.here hx rfl (hb hby at_490) rfl ?_
        show Steps p.tables e below (T251.setTop (mkF m 492 #[.val (.long va), .second, .val (.int ra), .val (.int rb), .val (.int rx), .val (.int se), .val (.int ln), .val (.int ub), .val (.int qq), .val (.int ca), .val (.int cb), .val (.int cx), .val (.long mm), .second, .val (.ref ac), .unset, .unset, .unset, .unset, .unset, .unset, .unset, .unset, .unset, .unset, .unset, .unset] [(.long mm), (.int qq), (.int cx), (.int cb), (.int ca), (.int ln), (.int (13 : Int32)), (.int (13 : Int32)), (.ref ac)])) _
        refine st271 _ ?_
        show Steps p.tables e below (T271.setTop (mkF m 495 #[.val (.long va), .second, .val (.int ra), .val (.int rb), .val (.int rx), .val (.int se), .val (.int ln), .val (.int ub), .val (.int qq), .val (.int ca), .val (.int cb), .val (.int cx), .val (.long mm), .second, .val (.ref ac), .unset, .unset, .unset, .unset, .unset, .unset, .unset, .unset, .unset, .unset, .unset, .unset] [(.int (fn3 (13 : Int32) ln ca cb cx qq mm (nn - 2 - 13))), (.int (13 : Int32)), (.ref ac)])) _
        refine st277 _ ?_
        exact kt
      have eJ : T277.heap = gh277 := hE277
      exact ⟨T277, _, (owUp fk13 13 ((fn3 (13 : Int32) ln ca cb cx qq mm (nn - 2 - 13)).toUInt32.toUInt16.toUInt32.toInt32)), X277.mono (by decide) (by decide), N281, (by rw [eJ]; exact Z280), (by rw [eJ]; exact K282), (by rw [eJ]; exact K283), (by rw [eJ]; exact f278), (by rw [eJ]; exact V277), (own_fillS (k := 13) hl13), fun t kt => pre284 _ kt⟩
    · skip
      have pre285 : ∀ t, Steps p.tables e below (T251.setTop (mkF m 496 #[.val (.long va), .second, .val (.int ra), .val (.int rb), .val (.int rx), .val (.int se), .val (.int ln), .val (.int ub), .val (.int qq), .val (.int ca), .val (.int cb), .val (.int cx), .val (.long mm), .second, .val (.ref ac), .unset, .unset, .unset, .unset, .unset, .unset, .unset, .unset, .unset, .unset, .unset, .unset] [])) t → Steps p.tables e below (s₁.setTop (entryFrame m #[(.long va), (.int ra), (.int rb), (.int rx), (.int se)] maxLocals)) t := by
        intro t kt
        refine pre268 _ ?_
        show Steps p.tables e below (T251.setTop (mkF m 471 #[.val (.long va), .second, .val (.int ra), .val (.int rb), .val (.int rx), .val (.int se), .val (.int ln), .val (.int ub), .val (.int qq), .val (.int ca), .val (.int cb), .val (.int cx), .val (.long mm), .second, .val (.ref ac), .unset, .unset, .unset, .unset, .unset, .unset, .unset, .unset, .unset, .unset, .unset, .unset] [(.int (13 : Int32)), (.int ln)])) _
        refine XS.icmpYes X251.here hx rfl (pc0 := 471) (pc' := 496) rfl (hb hby at_471) rfl (XT.ii_le_t hc471_270) (by decide) (by decide) ?_
        exact kt
      have eJ : T251.heap = T251.heap := rfl
      exact ⟨T251, _, fk13, X251.mono (by decide) (by decide), N251, (by rw [eJ]; exact Z251), (by rw [eJ]; exact K251), (by rw [eJ]; exact KK251), (by rw [eJ]; exact hf251_0), (by rw [eJ]; exact hf251_1), (own_fillN hln (kz := (13 : Int32)) (k := 13) rfl hc471_270 hl13), fun t kt => pre285 _ kt⟩
  have hl14 := hp269_0
  have pre286 : ∀ t, Steps p.tables e below (T269.setTop (mkF m 500 #[.val (.long va), .second, .val (.int ra), .val (.int rb), .val (.int rx), .val (.int se), .val (.int ln), .val (.int ub), .val (.int qq), .val (.int ca), .val (.int cb), .val (.int cx), .val (.long mm), .second, .val (.ref ac), .unset, .unset, .unset, .unset, .unset, .unset, .unset, .unset, .unset, .unset, .unset, .unset] [(.int (14 : Int32)), (.int ln)])) t → Steps p.tables e below (s₁.setTop (entryFrame m #[(.long va), (.int ra), (.int rb), (.int rx), (.int se)] maxLocals)) t := by
    intro t kt
    refine pre269 _ ?_
    refine XS.iload X269.here hx rfl (hb hby at_496) rfl ?_
    refine XS.bipush X269.here hx rfl (hb hby at_498) ?_
    exact kt
  obtain ⟨T287, L287, fk15, X287, N287, Z287, K287, KK287, hf287_0, hf287_1, hp287_0, pre287⟩ : ∃ (T287 : State) (L287 : List Loc) (fk15 : Nat → Int32), Stand p l e room_1 (s.setVm s.vm) m #[(.long va), (.int ra), (.int rb), (.int rx), (.int se)] below meth c T287 L287 17 324 ∧ Fr n0 L287 ∧ n0 ≤ T287.heap.size ∧ Keep h0 T287.heap [] ∧ Keep h0 T287.heap [] ∧ Old Z n0 T287.heap ∧ owAI Z T287.heap ac .char nn fk15 ∧ own_fill (own_F ln ca cb cx qq mm nn) nn fk15 15 ∧ ∀ t, Steps p.tables e below (T287.setTop (mkF m 525 #[.val (.long va), .second, .val (.int ra), .val (.int rb), .val (.int rx), .val (.int se), .val (.int ln), .val (.int ub), .val (.int qq), .val (.int ca), .val (.int cb), .val (.int cx), .val (.long mm), .second, .val (.ref ac), .unset, .unset, .unset, .unset, .unset, .unset, .unset, .unset, .unset, .unset, .unset, .unset] [])) t → Steps p.tables e below (s₁.setTop (entryFrame m #[(.long va), (.int ra), (.int rb), (.int rx), (.int se)] maxLocals)) t := by
    by_cases hc500_288 : (14 : Int32) < ln
    · skip
      obtain ⟨_, _, ⟨T289, L289, k289, n289⟩, -, X289, ⟨Lc289, hQ289, l289, y289, z289⟩, st289⟩ := Jvm.LawKit.callS X269 hx (y := (⟨"com/example/relent/relent/WholeNumbersUnsignedPinLaw", "at", "(IICCCIJ)C"⟩ : MethodName)) hown (mvT hZ (hw _ (List.mem_of_getElem? (i := 28) rfl))) (mvT hZ (hw _ (List.mem_of_getElem? (i := 29) rfl))) (mvT hZ (hw _ (List.mem_of_getElem? (i := 2) rfl))) (mvT hZ (hw _ (List.mem_of_getElem? (i := 30) rfl))) (by decide) (backOf (W := 2) (rm3 l Z a0 hw [] (14 : Int32) ln ca cb cx qq mm (nn - 2 - 14) T269.heap n0 Z269 (own_kk hln hn20 (kz := (14 : Int32)) (k := 14) rfl hc500_288)) hZ (hw _ (List.mem_of_getElem? (i := 30) rfl)) (hw _ (List.mem_of_getElem? (i := 2) rfl)) (by decide) (by decide)) (g := (mkF m 521 #[.val (.long va), .second, .val (.int ra), .val (.int rb), .val (.int rx), .val (.int se), .val (.int ln), .val (.int ub), .val (.int qq), .val (.int ca), .val (.int cb), .val (.int cx), .val (.long mm), .second, .val (.ref ac), .unset, .unset, .unset, .unset, .unset, .unset, .unset, .unset, .unset, .unset, .unset, .unset] [(.long mm), (.int qq), (.int cx), (.int cb), (.int ca), (.int ln), (.int (14 : Int32)), (.int (14 : Int32)), (.ref ac)])) rfl (by rw [hml]; rfl) (argsL := [(.int (14 : Int32)), (.int ln), (.int ca), (.int cb), (.int cx), (.int qq), (.long mm)]) (rest := [(.int (14 : Int32)), (.ref ac)]) (lenOf pd_15 rfl) rfl (by show 2 * 0 + _ ≤ _; exact Nat.le_of_eq rfl) (hb hby at_521) (fun _ _ => ⟨rfl, rfl, (by decide : 16 + 1 ≤ _), (by decide : 305 + 19 ≤ _)⟩)
      dsimp only [Pt.U, Pt.locs, Pt.cells, Pt.slots] at X289 l289 y289 z289 st289 hQ289
      subst l289 y289 z289
      obtain ⟨rfl, N289q, K289⟩ := hQ289
      have N289 := Fr.app N269 N289q
      have f290 := hf269_0.keep K289 all0
      have f291 := hf269_1.keep K289 nin0
      have Z292 := Nat.le_trans Z269 K289.1
      have K293 := K269.trans K289 all0
      have K294 := KK269.trans K289 all0
      obtain ⟨T295, gh295, X295, hE295, W295, V295, st295⟩ := owStC X289 hx hZ rfl f291 (k := 14) (j := (14 : Int32)) rfl ((own_lt (i := (14 : Int32)) (a := 14) rfl hln).mp hc500_288) (g := (mkF m 524 #[.val (.long va), .second, .val (.int ra), .val (.int rb), .val (.int rx), .val (.int se), .val (.int ln), .val (.int ub), .val (.int qq), .val (.int ca), .val (.int cb), .val (.int cx), .val (.long mm), .second, .val (.ref ac), .unset, .unset, .unset, .unset, .unset, .unset, .unset, .unset, .unset, .unset, .unset, .unset] [(.int (fn3 (14 : Int32) ln ca cb cx qq mm (nn - 2 - 14))), (.int (14 : Int32)), (.ref ac)])) rfl rfl (hb hby at_524)
      have f296 := f290.wr W295 g_ac
      have Z298 := Nat.le_trans Z292 (Keep.of_wr W295).1
      have N299 := Fr.snoc X295 N289 g_ac
      have K300 := K293.wr W295 (Or.inr sz_ac)
      have K301 := K294.wr W295 (Or.inr sz_ac)
      have pre302 : ∀ t, Steps p.tables e below (T295.setTop (mkF m 525 #[.val (.long va), .second, .val (.int ra), .val (.int rb), .val (.int rx), .val (.int se), .val (.int ln), .val (.int ub), .val (.int qq), .val (.int ca), .val (.int cb), .val (.int cx), .val (.long mm), .second, .val (.ref ac), .unset, .unset, .unset, .unset, .unset, .unset, .unset, .unset, .unset, .unset, .unset, .unset] [])) t → Steps p.tables e below (s₁.setTop (entryFrame m #[(.long va), (.int ra), (.int rb), (.int rx), (.int se)] maxLocals)) t := by
        intro t kt
        refine pre286 _ ?_
        show Steps p.tables e below (T269.setTop (mkF m 500 #[.val (.long va), .second, .val (.int ra), .val (.int rb), .val (.int rx), .val (.int se), .val (.int ln), .val (.int ub), .val (.int qq), .val (.int ca), .val (.int cb), .val (.int cx), .val (.long mm), .second, .val (.ref ac), .unset, .unset, .unset, .unset, .unset, .unset, .unset, .unset, .unset, .unset, .unset, .unset] [(.int (14 : Int32)), (.int ln)])) _
        refine XS.icmpNo X269.here hx rfl (hb hby at_500) rfl (XT.ii_le_f hc500_288) ?_
        refine XS.aload X269.here hx rfl (hb hby at_503) rfl rfl ?_
        refine XS.bipush X269.here hx rfl (hb hby at_505) ?_
        refine XS.bipush X269.here hx rfl (hb hby at_507) ?_
        show Steps p.tables e below (T269.setTop (mkF m 509 #[.val (.long va), .second, .val (.int ra), .val (.int rb), .val (.int rx), .val (.int se), .val (.int ln), .val (.int ub), .val (.int qq), .val (.int ca), .val (.int cb), .val (.int cx), .val (.long mm), .second, .val (.ref ac), .unset, .unset, .unset, .unset, .unset, .unset, .unset, .unset, .unset, .unset, .unset, .unset] [(.int (14 : Int32)), (.int (14 : Int32)), (.ref ac)])) _
        refine XS.iload X269.here hx rfl (hb hby at_509) rfl ?_
        refine XS.iload X269.here hx rfl (hb hby at_511) rfl ?_
        refine XS.iload X269.here hx rfl (hb hby at_513) rfl ?_
        refine XS.iload X269.here hx rfl (hb hby at_515) rfl ?_
        show Steps p.tables e below (T269.setTop (mkF m 517 #[.val (.long va), .second, .val (.int ra), .val (.int rb), .val (.int rx), .val (.int se), .val (.int ln), .val (.int ub), .val (.int qq), .val (.int ca), .val (.int cb), .val (.int cx), .val (.long mm), .second, .val (.ref ac), .unset, .unset, .unset, .unset, .unset, .unset, .unset, .unset, .unset, .unset, .unset, .unset] [(.int cx), (.int cb), (.int ca), (.int ln), (.int (14 : Int32)), (.int (14 : Int32)), (.ref ac)])) _
        refine XS.iload X269.here hx rfl (hb hby at_517) rfl ?_
        refine XS.lload X269.here hx rfl (hb hby at_519) rfl ?_
        show Steps p.tables e below (T269.setTop (mkF m 521 #[.val (.long va), .second, .val (.int ra), .val (.int rb), .val (.int rx), .val (.int se), .val (.int ln), .val (.int ub), .val (.int qq), .val (.int ca), .val (.int cb), .val (.int cx), .val (.long mm), .second, .val (.ref ac), .unset, .unset, .unset, .unset, .unset, .unset, .unset, .unset, .unset, .unset, .unset, .unset] [(.long mm), (.int qq), (.int cx), (.int cb), (.int ca), (.int ln), (.int (14 : Int32)), (.int (14 : Int32)), (.ref ac)])) _
        refine st289 _ ?_
        show Steps p.tables e below (T289.setTop (mkF m 524 #[.val (.long va), .second, .val (.int ra), .val (.int rb), .val (.int rx), .val (.int se), .val (.int ln), .val (.int ub), .val (.int qq), .val (.int ca), .val (.int cb), .val (.int cx), .val (.long mm), .second, .val (.ref ac), .unset, .unset, .unset, .unset, .unset, .unset, .unset, .unset, .unset, .unset, .unset, .unset] [(.int (fn3 (14 : Int32) ln ca cb cx qq mm (nn - 2 - 14))), (.int (14 : Int32)), (.ref ac)])) _
        refine st295 _ ?_
        exact kt
      have eJ : T295.heap = gh295 := hE295
      exact ⟨T295, _, (owUp fk14 14 ((fn3 (14 : Int32) ln ca cb cx qq mm (nn - 2 - 14)).toUInt32.toUInt16.toUInt32.toInt32)), X295.mono (by decide) (by decide), N299, (by rw [eJ]; exact Z298), (by rw [eJ]; exact K300), (by rw [eJ]; exact K301), (by rw [eJ]; exact f296), (by rw [eJ]; exact V295), (own_fillS (k := 14) hl14), fun t kt => pre302 _ kt⟩
    · skip
      have pre303 : ∀ t, Steps p.tables e below (T269.setTop (mkF m 525 #[.val (.long va), .second, .val (.int ra), .val (.int rb), .val (.int rx), .val (.int se), .val (.int ln), .val (.int ub), .val (.int qq), .val (.int ca), .val (.int cb), .val (.int cx), .val (.long mm), .second, .val (.ref ac), .unset, .unset, .unset, .unset, .unset, .unset, .unset, .unset, .unset, .unset, .unset, .unset] [])) t → Steps p.tables e below (s₁.setTop (entryFrame m #[(.long va), (.int ra), (.int rb), (.int rx), (.int se)] maxLocals)) t := by
        intro t kt
        refine pre286 _ ?_
        show Steps p.tables e below (T269.setTop (mkF m 500 #[.val (.long va), .second, .val (.int ra), .val (.int rb), .val (.int rx), .val (.int se), .val (.int ln), .val (.int ub), .val (.int qq), .val (.int ca), .val (.int cb), .val (.int cx), .val (.long mm), .second, .val (.ref ac), .unset, .unset, .unset, .unset, .unset, .unset, .unset, .unset, .unset, .unset, .unset, .unset] [(.int (14 : Int32)), (.int ln)])) _
        refine XS.icmpYes X269.here hx rfl (pc0 := 500) (pc' := 525) rfl (hb hby at_500) rfl (XT.ii_le_t hc500_288) (by decide) (by decide) ?_
        exact kt
      have eJ : T269.heap = T269.heap := rfl
      exact ⟨T269, _, fk14, X269.mono (by decide) (by decide), N269, (by rw [eJ]; exact Z269), (by rw [eJ]; exact K269), (by rw [eJ]; exact KK269), (by rw [eJ]; exact hf269_0), (by rw [eJ]; exact hf269_1), (own_fillN hln (kz := (14 : Int32)) (k := 14) rfl hc500_288 hl14), fun t kt => pre303 _ kt⟩
  have hl15 := hp287_0
  have pre304 : ∀ t, Steps p.tables e below (T287.setTop (mkF m 529 #[.val (.long va), .second, .val (.int ra), .val (.int rb), .val (.int rx), .val (.int se), .val (.int ln), .val (.int ub), .val (.int qq), .val (.int ca), .val (.int cb), .val (.int cx), .val (.long mm), .second, .val (.ref ac), .unset, .unset, .unset, .unset, .unset, .unset, .unset, .unset, .unset, .unset, .unset, .unset] [(.int (15 : Int32)), (.int ln)])) t → Steps p.tables e below (s₁.setTop (entryFrame m #[(.long va), (.int ra), (.int rb), (.int rx), (.int se)] maxLocals)) t := by
    intro t kt
    refine pre287 _ ?_
    refine XS.iload X287.here hx rfl (hb hby at_525) rfl ?_
    show Steps p.tables e below (T287.setTop (mkF m 527 #[.val (.long va), .second, .val (.int ra), .val (.int rb), .val (.int rx), .val (.int se), .val (.int ln), .val (.int ub), .val (.int qq), .val (.int ca), .val (.int cb), .val (.int cx), .val (.long mm), .second, .val (.ref ac), .unset, .unset, .unset, .unset, .unset, .unset, .unset, .unset, .unset, .unset, .unset, .unset] [(.int ln)])) _
    refine XS.bipush X287.here hx rfl (hb hby at_527) ?_
    exact kt
  obtain ⟨T305, L305, fk16, X305, N305, Z305, K305, KK305, hf305_0, hf305_1, hp305_0, pre305⟩ : ∃ (T305 : State) (L305 : List Loc) (fk16 : Nat → Int32), Stand p l e room_1 (s.setVm s.vm) m #[(.long va), (.int ra), (.int rb), (.int rx), (.int se)] below meth c T305 L305 18 343 ∧ Fr n0 L305 ∧ n0 ≤ T305.heap.size ∧ Keep h0 T305.heap [] ∧ Keep h0 T305.heap [] ∧ Old Z n0 T305.heap ∧ owAI Z T305.heap ac .char nn fk16 ∧ own_fill (own_F ln ca cb cx qq mm nn) nn fk16 16 ∧ ∀ t, Steps p.tables e below (T305.setTop (mkF m 554 #[.val (.long va), .second, .val (.int ra), .val (.int rb), .val (.int rx), .val (.int se), .val (.int ln), .val (.int ub), .val (.int qq), .val (.int ca), .val (.int cb), .val (.int cx), .val (.long mm), .second, .val (.ref ac), .unset, .unset, .unset, .unset, .unset, .unset, .unset, .unset, .unset, .unset, .unset, .unset] [])) t → Steps p.tables e below (s₁.setTop (entryFrame m #[(.long va), (.int ra), (.int rb), (.int rx), (.int se)] maxLocals)) t := by
    by_cases hc529_306 : (15 : Int32) < ln
    · skip
      obtain ⟨_, _, ⟨T307, L307, k307, n307⟩, -, X307, ⟨Lc307, hQ307, l307, y307, z307⟩, st307⟩ := Jvm.LawKit.callS X287 hx (y := (⟨"com/example/relent/relent/WholeNumbersUnsignedPinLaw", "at", "(IICCCIJ)C"⟩ : MethodName)) hown (mvT hZ (hw _ (List.mem_of_getElem? (i := 28) rfl))) (mvT hZ (hw _ (List.mem_of_getElem? (i := 29) rfl))) (mvT hZ (hw _ (List.mem_of_getElem? (i := 2) rfl))) (mvT hZ (hw _ (List.mem_of_getElem? (i := 30) rfl))) (by decide) (backOf (W := 2) (rm3 l Z a0 hw [] (15 : Int32) ln ca cb cx qq mm (nn - 2 - 15) T287.heap n0 Z287 (own_kk hln hn20 (kz := (15 : Int32)) (k := 15) rfl hc529_306)) hZ (hw _ (List.mem_of_getElem? (i := 30) rfl)) (hw _ (List.mem_of_getElem? (i := 2) rfl)) (by decide) (by decide)) (g := (mkF m 550 #[.val (.long va), .second, .val (.int ra), .val (.int rb), .val (.int rx), .val (.int se), .val (.int ln), .val (.int ub), .val (.int qq), .val (.int ca), .val (.int cb), .val (.int cx), .val (.long mm), .second, .val (.ref ac), .unset, .unset, .unset, .unset, .unset, .unset, .unset, .unset, .unset, .unset, .unset, .unset] [(.long mm), (.int qq), (.int cx), (.int cb), (.int ca), (.int ln), (.int (15 : Int32)), (.int (15 : Int32)), (.ref ac)])) rfl (by rw [hml]; rfl) (argsL := [(.int (15 : Int32)), (.int ln), (.int ca), (.int cb), (.int cx), (.int qq), (.long mm)]) (rest := [(.int (15 : Int32)), (.ref ac)]) (lenOf pd_15 rfl) rfl (by show 2 * 0 + _ ≤ _; exact Nat.le_of_eq rfl) (hb hby at_550) (fun _ _ => ⟨rfl, rfl, (by decide : 17 + 1 ≤ _), (by decide : 324 + 19 ≤ _)⟩)
      dsimp only [Pt.U, Pt.locs, Pt.cells, Pt.slots] at X307 l307 y307 z307 st307 hQ307
      subst l307 y307 z307
      obtain ⟨rfl, N307q, K307⟩ := hQ307
      have N307 := Fr.app N287 N307q
      have f308 := hf287_0.keep K307 all0
      have f309 := hf287_1.keep K307 nin0
      have Z310 := Nat.le_trans Z287 K307.1
      have K311 := K287.trans K307 all0
      have K312 := KK287.trans K307 all0
      obtain ⟨T313, gh313, X313, hE313, W313, V313, st313⟩ := owStC X307 hx hZ rfl f309 (k := 15) (j := (15 : Int32)) rfl ((own_lt (i := (15 : Int32)) (a := 15) rfl hln).mp hc529_306) (g := (mkF m 553 #[.val (.long va), .second, .val (.int ra), .val (.int rb), .val (.int rx), .val (.int se), .val (.int ln), .val (.int ub), .val (.int qq), .val (.int ca), .val (.int cb), .val (.int cx), .val (.long mm), .second, .val (.ref ac), .unset, .unset, .unset, .unset, .unset, .unset, .unset, .unset, .unset, .unset, .unset, .unset] [(.int (fn3 (15 : Int32) ln ca cb cx qq mm (nn - 2 - 15))), (.int (15 : Int32)), (.ref ac)])) rfl rfl (hb hby at_553)
      have f314 := f308.wr W313 g_ac
      have Z316 := Nat.le_trans Z310 (Keep.of_wr W313).1
      have N317 := Fr.snoc X313 N307 g_ac
      have K318 := K311.wr W313 (Or.inr sz_ac)
      have K319 := K312.wr W313 (Or.inr sz_ac)
      have pre320 : ∀ t, Steps p.tables e below (T313.setTop (mkF m 554 #[.val (.long va), .second, .val (.int ra), .val (.int rb), .val (.int rx), .val (.int se), .val (.int ln), .val (.int ub), .val (.int qq), .val (.int ca), .val (.int cb), .val (.int cx), .val (.long mm), .second, .val (.ref ac), .unset, .unset, .unset, .unset, .unset, .unset, .unset, .unset, .unset, .unset, .unset, .unset] [])) t → Steps p.tables e below (s₁.setTop (entryFrame m #[(.long va), (.int ra), (.int rb), (.int rx), (.int se)] maxLocals)) t := by
        intro t kt
        refine pre304 _ ?_
        show Steps p.tables e below (T287.setTop (mkF m 529 #[.val (.long va), .second, .val (.int ra), .val (.int rb), .val (.int rx), .val (.int se), .val (.int ln), .val (.int ub), .val (.int qq), .val (.int ca), .val (.int cb), .val (.int cx), .val (.long mm), .second, .val (.ref ac), .unset, .unset, .unset, .unset, .unset, .unset, .unset, .unset, .unset, .unset, .unset, .unset] [(.int (15 : Int32)), (.int ln)])) _
        refine XS.icmpNo X287.here hx rfl (hb hby at_529) rfl (XT.ii_le_f hc529_306) ?_
        refine XS.aload X287.here hx rfl (hb hby at_532) rfl rfl ?_
        refine XS.bipush X287.here hx rfl (hb hby at_534) ?_
        refine XS.bipush X287.here hx rfl (hb hby at_536) ?_
        show Steps p.tables e below (T287.setTop (mkF m 538 #[.val (.long va), .second, .val (.int ra), .val (.int rb), .val (.int rx), .val (.int se), .val (.int ln), .val (.int ub), .val (.int qq), .val (.int ca), .val (.int cb), .val (.int cx), .val (.long mm), .second, .val (.ref ac), .unset, .unset, .unset, .unset, .unset, .unset, .unset, .unset, .unset, .unset, .unset, .unset] [(.int (15 : Int32)), (.int (15 : Int32)), (.ref ac)])) _
        refine XS.iload X287.here hx rfl (hb hby at_538) rfl ?_
        refine XS.iload X287.here hx rfl (hb hby at_540) rfl ?_
        refine XS.iload X287.here hx rfl (hb hby at_542) rfl ?_
        refine XS.iload X287.here hx rfl (hb hby at_544) rfl ?_
        show Steps p.tables e below (T287.setTop (mkF m 546 #[.val (.long va), .second, .val (.int ra), .val (.int rb), .val (.int rx), .val (.int se), .val (.int ln), .val (.int ub), .val (.int qq), .val (.int ca), .val (.int cb), .val (.int cx), .val (.long mm), .second, .val (.ref ac), .unset, .unset, .unset, .unset, .unset, .unset, .unset, .unset, .unset, .unset, .unset, .unset] [(.int cx), (.int cb), (.int ca), (.int ln), (.int (15 : Int32)), (.int (15 : Int32)), (.ref ac)])) _
        refine XS.iload X287.here hx rfl (hb hby at_546) rfl ?_
        refine XS.lload X287.here hx rfl (hb hby at_548) rfl ?_
        show Steps p.tables e below (T287.setTop (mkF m 550 #[.val (.long va), .second, .val (.int ra), .val (.int rb), .val (.int rx), .val (.int se), .val (.int ln), .val (.int ub), .val (.int qq), .val (.int ca), .val (.int cb), .val (.int cx), .val (.long mm), .second, .val (.ref ac), .unset, .unset, .unset, .unset, .unset, .unset, .unset, .unset, .unset, .unset, .unset, .unset] [(.long mm), (.int qq), (.int cx), (.int cb), (.int ca), (.int ln), (.int (15 : Int32)), (.int (15 : Int32)), (.ref ac)])) _
        refine st307 _ ?_
        show Steps p.tables e below (T307.setTop (mkF m 553 #[.val (.long va), .second, .val (.int ra), .val (.int rb), .val (.int rx), .val (.int se), .val (.int ln), .val (.int ub), .val (.int qq), .val (.int ca), .val (.int cb), .val (.int cx), .val (.long mm), .second, .val (.ref ac), .unset, .unset, .unset, .unset, .unset, .unset, .unset, .unset, .unset, .unset, .unset, .unset] [(.int (fn3 (15 : Int32) ln ca cb cx qq mm (nn - 2 - 15))), (.int (15 : Int32)), (.ref ac)])) _
        refine st313 _ ?_
        exact kt
      have eJ : T313.heap = gh313 := hE313
      exact ⟨T313, _, (owUp fk15 15 ((fn3 (15 : Int32) ln ca cb cx qq mm (nn - 2 - 15)).toUInt32.toUInt16.toUInt32.toInt32)), X313.mono (by decide) (by decide), N317, (by rw [eJ]; exact Z316), (by rw [eJ]; exact K318), (by rw [eJ]; exact K319), (by rw [eJ]; exact f314), (by rw [eJ]; exact V313), (own_fillS (k := 15) hl15), fun t kt => pre320 _ kt⟩
    · skip
      have pre321 : ∀ t, Steps p.tables e below (T287.setTop (mkF m 554 #[.val (.long va), .second, .val (.int ra), .val (.int rb), .val (.int rx), .val (.int se), .val (.int ln), .val (.int ub), .val (.int qq), .val (.int ca), .val (.int cb), .val (.int cx), .val (.long mm), .second, .val (.ref ac), .unset, .unset, .unset, .unset, .unset, .unset, .unset, .unset, .unset, .unset, .unset, .unset] [])) t → Steps p.tables e below (s₁.setTop (entryFrame m #[(.long va), (.int ra), (.int rb), (.int rx), (.int se)] maxLocals)) t := by
        intro t kt
        refine pre304 _ ?_
        show Steps p.tables e below (T287.setTop (mkF m 529 #[.val (.long va), .second, .val (.int ra), .val (.int rb), .val (.int rx), .val (.int se), .val (.int ln), .val (.int ub), .val (.int qq), .val (.int ca), .val (.int cb), .val (.int cx), .val (.long mm), .second, .val (.ref ac), .unset, .unset, .unset, .unset, .unset, .unset, .unset, .unset, .unset, .unset, .unset, .unset] [(.int (15 : Int32)), (.int ln)])) _
        refine XS.icmpYes X287.here hx rfl (pc0 := 529) (pc' := 554) rfl (hb hby at_529) rfl (XT.ii_le_t hc529_306) (by decide) (by decide) ?_
        exact kt
      have eJ : T287.heap = T287.heap := rfl
      exact ⟨T287, _, fk15, X287.mono (by decide) (by decide), N287, (by rw [eJ]; exact Z287), (by rw [eJ]; exact K287), (by rw [eJ]; exact KK287), (by rw [eJ]; exact hf287_0), (by rw [eJ]; exact hf287_1), (own_fillN hln (kz := (15 : Int32)) (k := 15) rfl hc529_306 hl15), fun t kt => pre321 _ kt⟩
  have hl16 := hp305_0
  have pre322 : ∀ t, Steps p.tables e below (T305.setTop (mkF m 558 #[.val (.long va), .second, .val (.int ra), .val (.int rb), .val (.int rx), .val (.int se), .val (.int ln), .val (.int ub), .val (.int qq), .val (.int ca), .val (.int cb), .val (.int cx), .val (.long mm), .second, .val (.ref ac), .unset, .unset, .unset, .unset, .unset, .unset, .unset, .unset, .unset, .unset, .unset, .unset] [(.int (16 : Int32)), (.int ln)])) t → Steps p.tables e below (s₁.setTop (entryFrame m #[(.long va), (.int ra), (.int rb), (.int rx), (.int se)] maxLocals)) t := by
    intro t kt
    refine pre305 _ ?_
    refine XS.iload X305.here hx rfl (hb hby at_554) rfl ?_
    refine XS.bipush X305.here hx rfl (hb hby at_556) ?_
    exact kt
  obtain ⟨T323, L323, fk17, X323, N323, Z323, K323, KK323, hf323_0, hf323_1, hp323_0, pre323⟩ : ∃ (T323 : State) (L323 : List Loc) (fk17 : Nat → Int32), Stand p l e room_1 (s.setVm s.vm) m #[(.long va), (.int ra), (.int rb), (.int rx), (.int se)] below meth c T323 L323 19 362 ∧ Fr n0 L323 ∧ n0 ≤ T323.heap.size ∧ Keep h0 T323.heap [] ∧ Keep h0 T323.heap [] ∧ Old Z n0 T323.heap ∧ owAI Z T323.heap ac .char nn fk17 ∧ own_fill (own_F ln ca cb cx qq mm nn) nn fk17 17 ∧ ∀ t, Steps p.tables e below (T323.setTop (mkF m 583 #[.val (.long va), .second, .val (.int ra), .val (.int rb), .val (.int rx), .val (.int se), .val (.int ln), .val (.int ub), .val (.int qq), .val (.int ca), .val (.int cb), .val (.int cx), .val (.long mm), .second, .val (.ref ac), .unset, .unset, .unset, .unset, .unset, .unset, .unset, .unset, .unset, .unset, .unset, .unset] [])) t → Steps p.tables e below (s₁.setTop (entryFrame m #[(.long va), (.int ra), (.int rb), (.int rx), (.int se)] maxLocals)) t := by
    by_cases hc558_324 : (16 : Int32) < ln
    · skip
      obtain ⟨_, _, ⟨T325, L325, k325, n325⟩, -, X325, ⟨Lc325, hQ325, l325, y325, z325⟩, st325⟩ := Jvm.LawKit.callS X305 hx (y := (⟨"com/example/relent/relent/WholeNumbersUnsignedPinLaw", "at", "(IICCCIJ)C"⟩ : MethodName)) hown (mvT hZ (hw _ (List.mem_of_getElem? (i := 28) rfl))) (mvT hZ (hw _ (List.mem_of_getElem? (i := 29) rfl))) (mvT hZ (hw _ (List.mem_of_getElem? (i := 2) rfl))) (mvT hZ (hw _ (List.mem_of_getElem? (i := 30) rfl))) (by decide) (backOf (W := 2) (rm3 l Z a0 hw [] (16 : Int32) ln ca cb cx qq mm (nn - 2 - 16) T305.heap n0 Z305 (own_kk hln hn20 (kz := (16 : Int32)) (k := 16) rfl hc558_324)) hZ (hw _ (List.mem_of_getElem? (i := 30) rfl)) (hw _ (List.mem_of_getElem? (i := 2) rfl)) (by decide) (by decide)) (g := (mkF m 579 #[.val (.long va), .second, .val (.int ra), .val (.int rb), .val (.int rx), .val (.int se), .val (.int ln), .val (.int ub), .val (.int qq), .val (.int ca), .val (.int cb), .val (.int cx), .val (.long mm), .second, .val (.ref ac), .unset, .unset, .unset, .unset, .unset, .unset, .unset, .unset, .unset, .unset, .unset, .unset] [(.long mm), (.int qq), (.int cx), (.int cb), (.int ca), (.int ln), (.int (16 : Int32)), (.int (16 : Int32)), (.ref ac)])) rfl (by rw [hml]; rfl) (argsL := [(.int (16 : Int32)), (.int ln), (.int ca), (.int cb), (.int cx), (.int qq), (.long mm)]) (rest := [(.int (16 : Int32)), (.ref ac)]) (lenOf pd_15 rfl) rfl (by show 2 * 0 + _ ≤ _; exact Nat.le_of_eq rfl) (hb hby at_579) (fun _ _ => ⟨rfl, rfl, (by decide : 18 + 1 ≤ _), (by decide : 343 + 19 ≤ _)⟩)
      dsimp only [Pt.U, Pt.locs, Pt.cells, Pt.slots] at X325 l325 y325 z325 st325 hQ325
      subst l325 y325 z325
      obtain ⟨rfl, N325q, K325⟩ := hQ325
      have N325 := Fr.app N305 N325q
      have f326 := hf305_0.keep K325 all0
      have f327 := hf305_1.keep K325 nin0
      have Z328 := Nat.le_trans Z305 K325.1
      have K329 := K305.trans K325 all0
      have K330 := KK305.trans K325 all0
      obtain ⟨T331, gh331, X331, hE331, W331, V331, st331⟩ := owStC X325 hx hZ rfl f327 (k := 16) (j := (16 : Int32)) rfl ((own_lt (i := (16 : Int32)) (a := 16) rfl hln).mp hc558_324) (g := (mkF m 582 #[.val (.long va), .second, .val (.int ra), .val (.int rb), .val (.int rx), .val (.int se), .val (.int ln), .val (.int ub), .val (.int qq), .val (.int ca), .val (.int cb), .val (.int cx), .val (.long mm), .second, .val (.ref ac), .unset, .unset, .unset, .unset, .unset, .unset, .unset, .unset, .unset, .unset, .unset, .unset] [(.int (fn3 (16 : Int32) ln ca cb cx qq mm (nn - 2 - 16))), (.int (16 : Int32)), (.ref ac)])) rfl rfl (hb hby at_582)
      have f332 := f326.wr W331 g_ac
      have Z334 := Nat.le_trans Z328 (Keep.of_wr W331).1
      have N335 := Fr.snoc X331 N325 g_ac
      have K336 := K329.wr W331 (Or.inr sz_ac)
      have K337 := K330.wr W331 (Or.inr sz_ac)
      have pre338 : ∀ t, Steps p.tables e below (T331.setTop (mkF m 583 #[.val (.long va), .second, .val (.int ra), .val (.int rb), .val (.int rx), .val (.int se), .val (.int ln), .val (.int ub), .val (.int qq), .val (.int ca), .val (.int cb), .val (.int cx), .val (.long mm), .second, .val (.ref ac), .unset, .unset, .unset, .unset, .unset, .unset, .unset, .unset, .unset, .unset, .unset, .unset] [])) t → Steps p.tables e below (s₁.setTop (entryFrame m #[(.long va), (.int ra), (.int rb), (.int rx), (.int se)] maxLocals)) t := by
        intro t kt
        refine pre322 _ ?_
        show Steps p.tables e below (T305.setTop (mkF m 558 #[.val (.long va), .second, .val (.int ra), .val (.int rb), .val (.int rx), .val (.int se), .val (.int ln), .val (.int ub), .val (.int qq), .val (.int ca), .val (.int cb), .val (.int cx), .val (.long mm), .second, .val (.ref ac), .unset, .unset, .unset, .unset, .unset, .unset, .unset, .unset, .unset, .unset, .unset, .unset] [(.int (16 : Int32)), (.int ln)])) _
        refine XS.icmpNo X305.here hx rfl (hb hby at_558) rfl (XT.ii_le_f hc558_324) ?_
        refine XS.aload X305.here hx rfl (hb hby at_561) rfl rfl ?_
        refine XS.bipush X305.here hx rfl (hb hby at_563) ?_
        refine XS.bipush X305.here hx rfl (hb hby at_565) ?_
        show Steps p.tables e below (T305.setTop (mkF m 567 #[.val (.long va), .second, .val (.int ra), .val (.int rb), .val (.int rx), .val (.int se), .val (.int ln), .val (.int ub), .val (.int qq), .val (.int ca), .val (.int cb), .val (.int cx), .val (.long mm), .second, .val (.ref ac), .unset, .unset, .unset, .unset, .unset, .unset, .unset, .unset, .unset, .unset, .unset, .unset] [(.int (16 : Int32)), (.int (16 : Int32)), (.ref ac)])) _
        refine XS.iload X305.here hx rfl (hb hby at_567) rfl ?_
        refine XS.iload X305.here hx rfl (hb hby at_569) rfl ?_
        refine XS.iload X305.here hx rfl (hb hby at_571) rfl ?_
        refine XS.iload X305.here hx rfl (hb hby at_573) rfl ?_
        show Steps p.tables e below (T305.setTop (mkF m 575 #[.val (.long va), .second, .val (.int ra), .val (.int rb), .val (.int rx), .val (.int se), .val (.int ln), .val (.int ub), .val (.int qq), .val (.int ca), .val (.int cb), .val (.int cx), .val (.long mm), .second, .val (.ref ac), .unset, .unset, .unset, .unset, .unset, .unset, .unset, .unset, .unset, .unset, .unset, .unset] [(.int cx), (.int cb), (.int ca), (.int ln), (.int (16 : Int32)), (.int (16 : Int32)), (.ref ac)])) _
        refine XS.iload X305.here hx rfl (hb hby at_575) rfl ?_
        refine XS.lload X305.here hx rfl (hb hby at_577) rfl ?_
        show Steps p.tables e below (T305.setTop (mkF m 579 #[.val (.long va), .second, .val (.int ra), .val (.int rb), .val (.int rx), .val (.int se), .val (.int ln), .val (.int ub), .val (.int qq), .val (.int ca), .val (.int cb), .val (.int cx), .val (.long mm), .second, .val (.ref ac), .unset, .unset, .unset, .unset, .unset, .unset, .unset, .unset, .unset, .unset, .unset, .unset] [(.long mm), (.int qq), (.int cx), (.int cb), (.int ca), (.int ln), (.int (16 : Int32)), (.int (16 : Int32)), (.ref ac)])) _
        refine st325 _ ?_
        show Steps p.tables e below (T325.setTop (mkF m 582 #[.val (.long va), .second, .val (.int ra), .val (.int rb), .val (.int rx), .val (.int se), .val (.int ln), .val (.int ub), .val (.int qq), .val (.int ca), .val (.int cb), .val (.int cx), .val (.long mm), .second, .val (.ref ac), .unset, .unset, .unset, .unset, .unset, .unset, .unset, .unset, .unset, .unset, .unset, .unset] [(.int (fn3 (16 : Int32) ln ca cb cx qq mm (nn - 2 - 16))), (.int (16 : Int32)), (.ref ac)])) _
        refine st331 _ ?_
        exact kt
      have eJ : T331.heap = gh331 := hE331
      exact ⟨T331, _, (owUp fk16 16 ((fn3 (16 : Int32) ln ca cb cx qq mm (nn - 2 - 16)).toUInt32.toUInt16.toUInt32.toInt32)), X331.mono (by decide) (by decide), N335, (by rw [eJ]; exact Z334), (by rw [eJ]; exact K336), (by rw [eJ]; exact K337), (by rw [eJ]; exact f332), (by rw [eJ]; exact V331), (own_fillS (k := 16) hl16), fun t kt => pre338 _ kt⟩
    · skip
      have pre339 : ∀ t, Steps p.tables e below (T305.setTop (mkF m 583 #[.val (.long va), .second, .val (.int ra), .val (.int rb), .val (.int rx), .val (.int se), .val (.int ln), .val (.int ub), .val (.int qq), .val (.int ca), .val (.int cb), .val (.int cx), .val (.long mm), .second, .val (.ref ac), .unset, .unset, .unset, .unset, .unset, .unset, .unset, .unset, .unset, .unset, .unset, .unset] [])) t → Steps p.tables e below (s₁.setTop (entryFrame m #[(.long va), (.int ra), (.int rb), (.int rx), (.int se)] maxLocals)) t := by
        intro t kt
        refine pre322 _ ?_
        show Steps p.tables e below (T305.setTop (mkF m 558 #[.val (.long va), .second, .val (.int ra), .val (.int rb), .val (.int rx), .val (.int se), .val (.int ln), .val (.int ub), .val (.int qq), .val (.int ca), .val (.int cb), .val (.int cx), .val (.long mm), .second, .val (.ref ac), .unset, .unset, .unset, .unset, .unset, .unset, .unset, .unset, .unset, .unset, .unset, .unset] [(.int (16 : Int32)), (.int ln)])) _
        refine XS.icmpYes X305.here hx rfl (pc0 := 558) (pc' := 583) rfl (hb hby at_558) rfl (XT.ii_le_t hc558_324) (by decide) (by decide) ?_
        exact kt
      have eJ : T305.heap = T305.heap := rfl
      exact ⟨T305, _, fk16, X305.mono (by decide) (by decide), N305, (by rw [eJ]; exact Z305), (by rw [eJ]; exact K305), (by rw [eJ]; exact KK305), (by rw [eJ]; exact hf305_0), (by rw [eJ]; exact hf305_1), (own_fillN hln (kz := (16 : Int32)) (k := 16) rfl hc558_324 hl16), fun t kt => pre339 _ kt⟩
  have hl17 := hp323_0
  have pre340 : ∀ t, Steps p.tables e below (T323.setTop (mkF m 587 #[.val (.long va), .second, .val (.int ra), .val (.int rb), .val (.int rx), .val (.int se), .val (.int ln), .val (.int ub), .val (.int qq), .val (.int ca), .val (.int cb), .val (.int cx), .val (.long mm), .second, .val (.ref ac), .unset, .unset, .unset, .unset, .unset, .unset, .unset, .unset, .unset, .unset, .unset, .unset] [(.int (17 : Int32)), (.int ln)])) t → Steps p.tables e below (s₁.setTop (entryFrame m #[(.long va), (.int ra), (.int rb), (.int rx), (.int se)] maxLocals)) t := by
    intro t kt
    refine pre323 _ ?_
    refine XS.iload X323.here hx rfl (hb hby at_583) rfl ?_
    show Steps p.tables e below (T323.setTop (mkF m 585 #[.val (.long va), .second, .val (.int ra), .val (.int rb), .val (.int rx), .val (.int se), .val (.int ln), .val (.int ub), .val (.int qq), .val (.int ca), .val (.int cb), .val (.int cx), .val (.long mm), .second, .val (.ref ac), .unset, .unset, .unset, .unset, .unset, .unset, .unset, .unset, .unset, .unset, .unset, .unset] [(.int ln)])) _
    refine XS.bipush X323.here hx rfl (hb hby at_585) ?_
    exact kt
  obtain ⟨T341, L341, fk18, X341, N341, Z341, K341, KK341, hf341_0, hf341_1, hp341_0, pre341⟩ : ∃ (T341 : State) (L341 : List Loc) (fk18 : Nat → Int32), Stand p l e room_1 (s.setVm s.vm) m #[(.long va), (.int ra), (.int rb), (.int rx), (.int se)] below meth c T341 L341 20 381 ∧ Fr n0 L341 ∧ n0 ≤ T341.heap.size ∧ Keep h0 T341.heap [] ∧ Keep h0 T341.heap [] ∧ Old Z n0 T341.heap ∧ owAI Z T341.heap ac .char nn fk18 ∧ own_fill (own_F ln ca cb cx qq mm nn) nn fk18 18 ∧ ∀ t, Steps p.tables e below (T341.setTop (mkF m 612 #[.val (.long va), .second, .val (.int ra), .val (.int rb), .val (.int rx), .val (.int se), .val (.int ln), .val (.int ub), .val (.int qq), .val (.int ca), .val (.int cb), .val (.int cx), .val (.long mm), .second, .val (.ref ac), .unset, .unset, .unset, .unset, .unset, .unset, .unset, .unset, .unset, .unset, .unset, .unset] [])) t → Steps p.tables e below (s₁.setTop (entryFrame m #[(.long va), (.int ra), (.int rb), (.int rx), (.int se)] maxLocals)) t := by
    by_cases hc587_342 : (17 : Int32) < ln
    · skip
      obtain ⟨_, _, ⟨T343, L343, k343, n343⟩, -, X343, ⟨Lc343, hQ343, l343, y343, z343⟩, st343⟩ := Jvm.LawKit.callS X323 hx (y := (⟨"com/example/relent/relent/WholeNumbersUnsignedPinLaw", "at", "(IICCCIJ)C"⟩ : MethodName)) hown (mvT hZ (hw _ (List.mem_of_getElem? (i := 28) rfl))) (mvT hZ (hw _ (List.mem_of_getElem? (i := 29) rfl))) (mvT hZ (hw _ (List.mem_of_getElem? (i := 2) rfl))) (mvT hZ (hw _ (List.mem_of_getElem? (i := 30) rfl))) (by decide) (backOf (W := 2) (rm3 l Z a0 hw [] (17 : Int32) ln ca cb cx qq mm (nn - 2 - 17) T323.heap n0 Z323 (own_kk hln hn20 (kz := (17 : Int32)) (k := 17) rfl hc587_342)) hZ (hw _ (List.mem_of_getElem? (i := 30) rfl)) (hw _ (List.mem_of_getElem? (i := 2) rfl)) (by decide) (by decide)) (g := (mkF m 608 #[.val (.long va), .second, .val (.int ra), .val (.int rb), .val (.int rx), .val (.int se), .val (.int ln), .val (.int ub), .val (.int qq), .val (.int ca), .val (.int cb), .val (.int cx), .val (.long mm), .second, .val (.ref ac), .unset, .unset, .unset, .unset, .unset, .unset, .unset, .unset, .unset, .unset, .unset, .unset] [(.long mm), (.int qq), (.int cx), (.int cb), (.int ca), (.int ln), (.int (17 : Int32)), (.int (17 : Int32)), (.ref ac)])) rfl (by rw [hml]; rfl) (argsL := [(.int (17 : Int32)), (.int ln), (.int ca), (.int cb), (.int cx), (.int qq), (.long mm)]) (rest := [(.int (17 : Int32)), (.ref ac)]) (lenOf pd_15 rfl) rfl (by show 2 * 0 + _ ≤ _; exact Nat.le_of_eq rfl) (hb hby at_608) (fun _ _ => ⟨rfl, rfl, (by decide : 19 + 1 ≤ _), (by decide : 362 + 19 ≤ _)⟩)
      dsimp only [Pt.U, Pt.locs, Pt.cells, Pt.slots] at X343 l343 y343 z343 st343 hQ343
      subst l343 y343 z343
      obtain ⟨rfl, N343q, K343⟩ := hQ343
      have N343 := Fr.app N323 N343q
      have f344 := hf323_0.keep K343 all0
      have f345 := hf323_1.keep K343 nin0
      have Z346 := Nat.le_trans Z323 K343.1
      have K347 := K323.trans K343 all0
      have K348 := KK323.trans K343 all0
      obtain ⟨T349, gh349, X349, hE349, W349, V349, st349⟩ := owStC X343 hx hZ rfl f345 (k := 17) (j := (17 : Int32)) rfl ((own_lt (i := (17 : Int32)) (a := 17) rfl hln).mp hc587_342) (g := (mkF m 611 #[.val (.long va), .second, .val (.int ra), .val (.int rb), .val (.int rx), .val (.int se), .val (.int ln), .val (.int ub), .val (.int qq), .val (.int ca), .val (.int cb), .val (.int cx), .val (.long mm), .second, .val (.ref ac), .unset, .unset, .unset, .unset, .unset, .unset, .unset, .unset, .unset, .unset, .unset, .unset] [(.int (fn3 (17 : Int32) ln ca cb cx qq mm (nn - 2 - 17))), (.int (17 : Int32)), (.ref ac)])) rfl rfl (hb hby at_611)
      have f350 := f344.wr W349 g_ac
      have Z352 := Nat.le_trans Z346 (Keep.of_wr W349).1
      have N353 := Fr.snoc X349 N343 g_ac
      have K354 := K347.wr W349 (Or.inr sz_ac)
      have K355 := K348.wr W349 (Or.inr sz_ac)
      have pre356 : ∀ t, Steps p.tables e below (T349.setTop (mkF m 612 #[.val (.long va), .second, .val (.int ra), .val (.int rb), .val (.int rx), .val (.int se), .val (.int ln), .val (.int ub), .val (.int qq), .val (.int ca), .val (.int cb), .val (.int cx), .val (.long mm), .second, .val (.ref ac), .unset, .unset, .unset, .unset, .unset, .unset, .unset, .unset, .unset, .unset, .unset, .unset] [])) t → Steps p.tables e below (s₁.setTop (entryFrame m #[(.long va), (.int ra), (.int rb), (.int rx), (.int se)] maxLocals)) t := by
        intro t kt
        refine pre340 _ ?_
        show Steps p.tables e below (T323.setTop (mkF m 587 #[.val (.long va), .second, .val (.int ra), .val (.int rb), .val (.int rx), .val (.int se), .val (.int ln), .val (.int ub), .val (.int qq), .val (.int ca), .val (.int cb), .val (.int cx), .val (.long mm), .second, .val (.ref ac), .unset, .unset, .unset, .unset, .unset, .unset, .unset, .unset, .unset, .unset, .unset, .unset] [(.int (17 : Int32)), (.int ln)])) _
        refine XS.icmpNo X323.here hx rfl (hb hby at_587) rfl (XT.ii_le_f hc587_342) ?_
        refine XS.aload X323.here hx rfl (hb hby at_590) rfl rfl ?_
        refine XS.bipush X323.here hx rfl (hb hby at_592) ?_
        refine XS.bipush X323.here hx rfl (hb hby at_594) ?_
        show Steps p.tables e below (T323.setTop (mkF m 596 #[.val (.long va), .second, .val (.int ra), .val (.int rb), .val (.int rx), .val (.int se), .val (.int ln), .val (.int ub), .val (.int qq), .val (.int ca), .val (.int cb), .val (.int cx), .val (.long mm), .second, .val (.ref ac), .unset, .unset, .unset, .unset, .unset, .unset, .unset, .unset, .unset, .unset, .unset, .unset] [(.int (17 : Int32)), (.int (17 : Int32)), (.ref ac)])) _
        refine XS.iload X323.here hx rfl (hb hby at_596) rfl ?_
        refine XS.iload X323.here hx rfl (hb hby at_598) rfl ?_
        refine XS.iload X323.here hx rfl (hb hby at_600) rfl ?_
        refine XS.iload X323.here hx rfl (hb hby at_602) rfl ?_
        show Steps p.tables e below (T323.setTop (mkF m 604 #[.val (.long va), .second, .val (.int ra), .val (.int rb), .val (.int rx), .val (.int se), .val (.int ln), .val (.int ub), .val (.int qq), .val (.int ca), .val (.int cb), .val (.int cx), .val (.long mm), .second, .val (.ref ac), .unset, .unset, .unset, .unset, .unset, .unset, .unset, .unset, .unset, .unset, .unset, .unset] [(.int cx), (.int cb), (.int ca), (.int ln), (.int (17 : Int32)), (.int (17 : Int32)), (.ref ac)])) _
        refine XS.iload X323.here hx rfl (hb hby at_604) rfl ?_
        refine XS.lload X323.here hx rfl (hb hby at_606) rfl ?_
        show Steps p.tables e below (T323.setTop (mkF m 608 #[.val (.long va), .second, .val (.int ra), .val (.int rb), .val (.int rx), .val (.int se), .val (.int ln), .val (.int ub), .val (.int qq), .val (.int ca), .val (.int cb), .val (.int cx), .val (.long mm), .second, .val (.ref ac), .unset, .unset, .unset, .unset, .unset, .unset, .unset, .unset, .unset, .unset, .unset, .unset] [(.long mm), (.int qq), (.int cx), (.int cb), (.int ca), (.int ln), (.int (17 : Int32)), (.int (17 : Int32)), (.ref ac)])) _
        refine st343 _ ?_
        show Steps p.tables e below (T343.setTop (mkF m 611 #[.val (.long va), .second, .val (.int ra), .val (.int rb), .val (.int rx), .val (.int se), .val (.int ln), .val (.int ub), .val (.int qq), .val (.int ca), .val (.int cb), .val (.int cx), .val (.long mm), .second, .val (.ref ac), .unset, .unset, .unset, .unset, .unset, .unset, .unset, .unset, .unset, .unset, .unset, .unset] [(.int (fn3 (17 : Int32) ln ca cb cx qq mm (nn - 2 - 17))), (.int (17 : Int32)), (.ref ac)])) _
        refine st349 _ ?_
        exact kt
      have eJ : T349.heap = gh349 := hE349
      exact ⟨T349, _, (owUp fk17 17 ((fn3 (17 : Int32) ln ca cb cx qq mm (nn - 2 - 17)).toUInt32.toUInt16.toUInt32.toInt32)), X349.mono (by decide) (by decide), N353, (by rw [eJ]; exact Z352), (by rw [eJ]; exact K354), (by rw [eJ]; exact K355), (by rw [eJ]; exact f350), (by rw [eJ]; exact V349), (own_fillS (k := 17) hl17), fun t kt => pre356 _ kt⟩
    · skip
      have pre357 : ∀ t, Steps p.tables e below (T323.setTop (mkF m 612 #[.val (.long va), .second, .val (.int ra), .val (.int rb), .val (.int rx), .val (.int se), .val (.int ln), .val (.int ub), .val (.int qq), .val (.int ca), .val (.int cb), .val (.int cx), .val (.long mm), .second, .val (.ref ac), .unset, .unset, .unset, .unset, .unset, .unset, .unset, .unset, .unset, .unset, .unset, .unset] [])) t → Steps p.tables e below (s₁.setTop (entryFrame m #[(.long va), (.int ra), (.int rb), (.int rx), (.int se)] maxLocals)) t := by
        intro t kt
        refine pre340 _ ?_
        show Steps p.tables e below (T323.setTop (mkF m 587 #[.val (.long va), .second, .val (.int ra), .val (.int rb), .val (.int rx), .val (.int se), .val (.int ln), .val (.int ub), .val (.int qq), .val (.int ca), .val (.int cb), .val (.int cx), .val (.long mm), .second, .val (.ref ac), .unset, .unset, .unset, .unset, .unset, .unset, .unset, .unset, .unset, .unset, .unset, .unset] [(.int (17 : Int32)), (.int ln)])) _
        refine XS.icmpYes X323.here hx rfl (pc0 := 587) (pc' := 612) rfl (hb hby at_587) rfl (XT.ii_le_t hc587_342) (by decide) (by decide) ?_
        exact kt
      have eJ : T323.heap = T323.heap := rfl
      exact ⟨T323, _, fk17, X323.mono (by decide) (by decide), N323, (by rw [eJ]; exact Z323), (by rw [eJ]; exact K323), (by rw [eJ]; exact KK323), (by rw [eJ]; exact hf323_0), (by rw [eJ]; exact hf323_1), (own_fillN hln (kz := (17 : Int32)) (k := 17) rfl hc587_342 hl17), fun t kt => pre357 _ kt⟩
  have hl18 := hp341_0
  have pre358 : ∀ t, Steps p.tables e below (T341.setTop (mkF m 616 #[.val (.long va), .second, .val (.int ra), .val (.int rb), .val (.int rx), .val (.int se), .val (.int ln), .val (.int ub), .val (.int qq), .val (.int ca), .val (.int cb), .val (.int cx), .val (.long mm), .second, .val (.ref ac), .unset, .unset, .unset, .unset, .unset, .unset, .unset, .unset, .unset, .unset, .unset, .unset] [(.int (18 : Int32)), (.int ln)])) t → Steps p.tables e below (s₁.setTop (entryFrame m #[(.long va), (.int ra), (.int rb), (.int rx), (.int se)] maxLocals)) t := by
    intro t kt
    refine pre341 _ ?_
    refine XS.iload X341.here hx rfl (hb hby at_612) rfl ?_
    refine XS.bipush X341.here hx rfl (hb hby at_614) ?_
    exact kt
  obtain ⟨T359, L359, fk19, X359, N359, Z359, K359, KK359, hf359_0, hf359_1, hp359_0, pre359⟩ : ∃ (T359 : State) (L359 : List Loc) (fk19 : Nat → Int32), Stand p l e room_1 (s.setVm s.vm) m #[(.long va), (.int ra), (.int rb), (.int rx), (.int se)] below meth c T359 L359 21 400 ∧ Fr n0 L359 ∧ n0 ≤ T359.heap.size ∧ Keep h0 T359.heap [] ∧ Keep h0 T359.heap [] ∧ Old Z n0 T359.heap ∧ owAI Z T359.heap ac .char nn fk19 ∧ own_fill (own_F ln ca cb cx qq mm nn) nn fk19 19 ∧ ∀ t, Steps p.tables e below (T359.setTop (mkF m 641 #[.val (.long va), .second, .val (.int ra), .val (.int rb), .val (.int rx), .val (.int se), .val (.int ln), .val (.int ub), .val (.int qq), .val (.int ca), .val (.int cb), .val (.int cx), .val (.long mm), .second, .val (.ref ac), .unset, .unset, .unset, .unset, .unset, .unset, .unset, .unset, .unset, .unset, .unset, .unset] [])) t → Steps p.tables e below (s₁.setTop (entryFrame m #[(.long va), (.int ra), (.int rb), (.int rx), (.int se)] maxLocals)) t := by
    by_cases hc616_360 : (18 : Int32) < ln
    · skip
      obtain ⟨_, _, ⟨T361, L361, k361, n361⟩, -, X361, ⟨Lc361, hQ361, l361, y361, z361⟩, st361⟩ := Jvm.LawKit.callS X341 hx (y := (⟨"com/example/relent/relent/WholeNumbersUnsignedPinLaw", "at", "(IICCCIJ)C"⟩ : MethodName)) hown (mvT hZ (hw _ (List.mem_of_getElem? (i := 28) rfl))) (mvT hZ (hw _ (List.mem_of_getElem? (i := 29) rfl))) (mvT hZ (hw _ (List.mem_of_getElem? (i := 2) rfl))) (mvT hZ (hw _ (List.mem_of_getElem? (i := 30) rfl))) (by decide) (backOf (W := 2) (rm3 l Z a0 hw [] (18 : Int32) ln ca cb cx qq mm (nn - 2 - 18) T341.heap n0 Z341 (own_kk hln hn20 (kz := (18 : Int32)) (k := 18) rfl hc616_360)) hZ (hw _ (List.mem_of_getElem? (i := 30) rfl)) (hw _ (List.mem_of_getElem? (i := 2) rfl)) (by decide) (by decide)) (g := (mkF m 637 #[.val (.long va), .second, .val (.int ra), .val (.int rb), .val (.int rx), .val (.int se), .val (.int ln), .val (.int ub), .val (.int qq), .val (.int ca), .val (.int cb), .val (.int cx), .val (.long mm), .second, .val (.ref ac), .unset, .unset, .unset, .unset, .unset, .unset, .unset, .unset, .unset, .unset, .unset, .unset] [(.long mm), (.int qq), (.int cx), (.int cb), (.int ca), (.int ln), (.int (18 : Int32)), (.int (18 : Int32)), (.ref ac)])) rfl (by rw [hml]; rfl) (argsL := [(.int (18 : Int32)), (.int ln), (.int ca), (.int cb), (.int cx), (.int qq), (.long mm)]) (rest := [(.int (18 : Int32)), (.ref ac)]) (lenOf pd_15 rfl) rfl (by show 2 * 0 + _ ≤ _; exact Nat.le_of_eq rfl) (hb hby at_637) (fun _ _ => ⟨rfl, rfl, (by decide : 20 + 1 ≤ _), (by decide : 381 + 19 ≤ _)⟩)
      dsimp only [Pt.U, Pt.locs, Pt.cells, Pt.slots] at X361 l361 y361 z361 st361 hQ361
      subst l361 y361 z361
      obtain ⟨rfl, N361q, K361⟩ := hQ361
      have N361 := Fr.app N341 N361q
      have f362 := hf341_0.keep K361 all0
      have f363 := hf341_1.keep K361 nin0
      have Z364 := Nat.le_trans Z341 K361.1
      have K365 := K341.trans K361 all0
      have K366 := KK341.trans K361 all0
      obtain ⟨T367, gh367, X367, hE367, W367, V367, st367⟩ := owStC X361 hx hZ rfl f363 (k := 18) (j := (18 : Int32)) rfl ((own_lt (i := (18 : Int32)) (a := 18) rfl hln).mp hc616_360) (g := (mkF m 640 #[.val (.long va), .second, .val (.int ra), .val (.int rb), .val (.int rx), .val (.int se), .val (.int ln), .val (.int ub), .val (.int qq), .val (.int ca), .val (.int cb), .val (.int cx), .val (.long mm), .second, .val (.ref ac), .unset, .unset, .unset, .unset, .unset, .unset, .unset, .unset, .unset, .unset, .unset, .unset] [(.int (fn3 (18 : Int32) ln ca cb cx qq mm (nn - 2 - 18))), (.int (18 : Int32)), (.ref ac)])) rfl rfl (hb hby at_640)
      have f368 := f362.wr W367 g_ac
      have Z370 := Nat.le_trans Z364 (Keep.of_wr W367).1
      have N371 := Fr.snoc X367 N361 g_ac
      have K372 := K365.wr W367 (Or.inr sz_ac)
      have K373 := K366.wr W367 (Or.inr sz_ac)
      have pre374 : ∀ t, Steps p.tables e below (T367.setTop (mkF m 641 #[.val (.long va), .second, .val (.int ra), .val (.int rb), .val (.int rx), .val (.int se), .val (.int ln), .val (.int ub), .val (.int qq), .val (.int ca), .val (.int cb), .val (.int cx), .val (.long mm), .second, .val (.ref ac), .unset, .unset, .unset, .unset, .unset, .unset, .unset, .unset, .unset, .unset, .unset, .unset] [])) t → Steps p.tables e below (s₁.setTop (entryFrame m #[(.long va), (.int ra), (.int rb), (.int rx), (.int se)] maxLocals)) t := by
        intro t kt
        refine pre358 _ ?_
        show Steps p.tables e below (T341.setTop (mkF m 616 #[.val (.long va), .second, .val (.int ra), .val (.int rb), .val (.int rx), .val (.int se), .val (.int ln), .val (.int ub), .val (.int qq), .val (.int ca), .val (.int cb), .val (.int cx), .val (.long mm), .second, .val (.ref ac), .unset, .unset, .unset, .unset, .unset, .unset, .unset, .unset, .unset, .unset, .unset, .unset] [(.int (18 : Int32)), (.int ln)])) _
        refine XS.icmpNo X341.here hx rfl (hb hby at_616) rfl (XT.ii_le_f hc616_360) ?_
        refine XS.aload X341.here hx rfl (hb hby at_619) rfl rfl ?_
        refine XS.bipush X341.here hx rfl (hb hby at_621) ?_
        refine XS.bipush X341.here hx rfl (hb hby at_623) ?_
        show Steps p.tables e below (T341.setTop (mkF m 625 #[.val (.long va), .second, .val (.int ra), .val (.int rb), .val (.int rx), .val (.int se), .val (.int ln), .val (.int ub), .val (.int qq), .val (.int ca), .val (.int cb), .val (.int cx), .val (.long mm), .second, .val (.ref ac), .unset, .unset, .unset, .unset, .unset, .unset, .unset, .unset, .unset, .unset, .unset, .unset] [(.int (18 : Int32)), (.int (18 : Int32)), (.ref ac)])) _
        refine XS.iload X341.here hx rfl (hb hby at_625) rfl ?_
        refine XS.iload X341.here hx rfl (hb hby at_627) rfl ?_
        refine XS.iload X341.here hx rfl (hb hby at_629) rfl ?_
        refine XS.iload X341.here hx rfl (hb hby at_631) rfl ?_
        show Steps p.tables e below (T341.setTop (mkF m 633 #[.val (.long va), .second, .val (.int ra), .val (.int rb), .val (.int rx), .val (.int se), .val (.int ln), .val (.int ub), .val (.int qq), .val (.int ca), .val (.int cb), .val (.int cx), .val (.long mm), .second, .val (.ref ac), .unset, .unset, .unset, .unset, .unset, .unset, .unset, .unset, .unset, .unset, .unset, .unset] [(.int cx), (.int cb), (.int ca), (.int ln), (.int (18 : Int32)), (.int (18 : Int32)), (.ref ac)])) _
        refine XS.iload X341.here hx rfl (hb hby at_633) rfl ?_
        refine XS.lload X341.here hx rfl (hb hby at_635) rfl ?_
        show Steps p.tables e below (T341.setTop (mkF m 637 #[.val (.long va), .second, .val (.int ra), .val (.int rb), .val (.int rx), .val (.int se), .val (.int ln), .val (.int ub), .val (.int qq), .val (.int ca), .val (.int cb), .val (.int cx), .val (.long mm), .second, .val (.ref ac), .unset, .unset, .unset, .unset, .unset, .unset, .unset, .unset, .unset, .unset, .unset, .unset] [(.long mm), (.int qq), (.int cx), (.int cb), (.int ca), (.int ln), (.int (18 : Int32)), (.int (18 : Int32)), (.ref ac)])) _
        refine st361 _ ?_
        show Steps p.tables e below (T361.setTop (mkF m 640 #[.val (.long va), .second, .val (.int ra), .val (.int rb), .val (.int rx), .val (.int se), .val (.int ln), .val (.int ub), .val (.int qq), .val (.int ca), .val (.int cb), .val (.int cx), .val (.long mm), .second, .val (.ref ac), .unset, .unset, .unset, .unset, .unset, .unset, .unset, .unset, .unset, .unset, .unset, .unset] [(.int (fn3 (18 : Int32) ln ca cb cx qq mm (nn - 2 - 18))), (.int (18 : Int32)), (.ref ac)])) _
        refine st367 _ ?_
        exact kt
      have eJ : T367.heap = gh367 := hE367
      exact ⟨T367, _, (owUp fk18 18 ((fn3 (18 : Int32) ln ca cb cx qq mm (nn - 2 - 18)).toUInt32.toUInt16.toUInt32.toInt32)), X367.mono (by decide) (by decide), N371, (by rw [eJ]; exact Z370), (by rw [eJ]; exact K372), (by rw [eJ]; exact K373), (by rw [eJ]; exact f368), (by rw [eJ]; exact V367), (own_fillS (k := 18) hl18), fun t kt => pre374 _ kt⟩
    · skip
      have pre375 : ∀ t, Steps p.tables e below (T341.setTop (mkF m 641 #[.val (.long va), .second, .val (.int ra), .val (.int rb), .val (.int rx), .val (.int se), .val (.int ln), .val (.int ub), .val (.int qq), .val (.int ca), .val (.int cb), .val (.int cx), .val (.long mm), .second, .val (.ref ac), .unset, .unset, .unset, .unset, .unset, .unset, .unset, .unset, .unset, .unset, .unset, .unset] [])) t → Steps p.tables e below (s₁.setTop (entryFrame m #[(.long va), (.int ra), (.int rb), (.int rx), (.int se)] maxLocals)) t := by
        intro t kt
        refine pre358 _ ?_
        show Steps p.tables e below (T341.setTop (mkF m 616 #[.val (.long va), .second, .val (.int ra), .val (.int rb), .val (.int rx), .val (.int se), .val (.int ln), .val (.int ub), .val (.int qq), .val (.int ca), .val (.int cb), .val (.int cx), .val (.long mm), .second, .val (.ref ac), .unset, .unset, .unset, .unset, .unset, .unset, .unset, .unset, .unset, .unset, .unset, .unset] [(.int (18 : Int32)), (.int ln)])) _
        refine XS.icmpYes X341.here hx rfl (pc0 := 616) (pc' := 641) rfl (hb hby at_616) rfl (XT.ii_le_t hc616_360) (by decide) (by decide) ?_
        exact kt
      have eJ : T341.heap = T341.heap := rfl
      exact ⟨T341, _, fk18, X341.mono (by decide) (by decide), N341, (by rw [eJ]; exact Z341), (by rw [eJ]; exact K341), (by rw [eJ]; exact KK341), (by rw [eJ]; exact hf341_0), (by rw [eJ]; exact hf341_1), (own_fillN hln (kz := (18 : Int32)) (k := 18) rfl hc616_360 hl18), fun t kt => pre375 _ kt⟩
  have hl19 := hp359_0
  have pre376 : ∀ t, Steps p.tables e below (T359.setTop (mkF m 645 #[.val (.long va), .second, .val (.int ra), .val (.int rb), .val (.int rx), .val (.int se), .val (.int ln), .val (.int ub), .val (.int qq), .val (.int ca), .val (.int cb), .val (.int cx), .val (.long mm), .second, .val (.ref ac), .unset, .unset, .unset, .unset, .unset, .unset, .unset, .unset, .unset, .unset, .unset, .unset] [(.int (19 : Int32)), (.int ln)])) t → Steps p.tables e below (s₁.setTop (entryFrame m #[(.long va), (.int ra), (.int rb), (.int rx), (.int se)] maxLocals)) t := by
    intro t kt
    refine pre359 _ ?_
    refine XS.iload X359.here hx rfl (hb hby at_641) rfl ?_
    show Steps p.tables e below (T359.setTop (mkF m 643 #[.val (.long va), .second, .val (.int ra), .val (.int rb), .val (.int rx), .val (.int se), .val (.int ln), .val (.int ub), .val (.int qq), .val (.int ca), .val (.int cb), .val (.int cx), .val (.long mm), .second, .val (.ref ac), .unset, .unset, .unset, .unset, .unset, .unset, .unset, .unset, .unset, .unset, .unset, .unset] [(.int ln)])) _
    refine XS.bipush X359.here hx rfl (hb hby at_643) ?_
    exact kt
  obtain ⟨T377, L377, fcc, X377, N377, Z377, K377, KK377, hf377_0, hf377_1, hp377_0, pre377⟩ : ∃ (T377 : State) (L377 : List Loc) (fcc : Nat → Int32), Stand p l e room_1 (s.setVm s.vm) m #[(.long va), (.int ra), (.int rb), (.int rx), (.int se)] below meth c T377 L377 22 419 ∧ Fr n0 L377 ∧ n0 ≤ T377.heap.size ∧ Keep h0 T377.heap [] ∧ Keep h0 T377.heap [] ∧ Old Z n0 T377.heap ∧ owAI Z T377.heap ac .char nn fcc ∧ own_fill (own_F ln ca cb cx qq mm nn) nn fcc 20 ∧ ∀ t, Steps p.tables e below (T377.setTop (mkF m 670 #[.val (.long va), .second, .val (.int ra), .val (.int rb), .val (.int rx), .val (.int se), .val (.int ln), .val (.int ub), .val (.int qq), .val (.int ca), .val (.int cb), .val (.int cx), .val (.long mm), .second, .val (.ref ac), .unset, .unset, .unset, .unset, .unset, .unset, .unset, .unset, .unset, .unset, .unset, .unset] [])) t → Steps p.tables e below (s₁.setTop (entryFrame m #[(.long va), (.int ra), (.int rb), (.int rx), (.int se)] maxLocals)) t := by
    by_cases hc645_378 : (19 : Int32) < ln
    · skip
      obtain ⟨_, _, ⟨T379, L379, k379, n379⟩, -, X379, ⟨Lc379, hQ379, l379, y379, z379⟩, st379⟩ := Jvm.LawKit.callS X359 hx (y := (⟨"com/example/relent/relent/WholeNumbersUnsignedPinLaw", "at", "(IICCCIJ)C"⟩ : MethodName)) hown (mvT hZ (hw _ (List.mem_of_getElem? (i := 28) rfl))) (mvT hZ (hw _ (List.mem_of_getElem? (i := 29) rfl))) (mvT hZ (hw _ (List.mem_of_getElem? (i := 2) rfl))) (mvT hZ (hw _ (List.mem_of_getElem? (i := 30) rfl))) (by decide) (backOf (W := 2) (rm3 l Z a0 hw [] (19 : Int32) ln ca cb cx qq mm (nn - 2 - 19) T359.heap n0 Z359 (own_kk hln hn20 (kz := (19 : Int32)) (k := 19) rfl hc645_378)) hZ (hw _ (List.mem_of_getElem? (i := 30) rfl)) (hw _ (List.mem_of_getElem? (i := 2) rfl)) (by decide) (by decide)) (g := (mkF m 666 #[.val (.long va), .second, .val (.int ra), .val (.int rb), .val (.int rx), .val (.int se), .val (.int ln), .val (.int ub), .val (.int qq), .val (.int ca), .val (.int cb), .val (.int cx), .val (.long mm), .second, .val (.ref ac), .unset, .unset, .unset, .unset, .unset, .unset, .unset, .unset, .unset, .unset, .unset, .unset] [(.long mm), (.int qq), (.int cx), (.int cb), (.int ca), (.int ln), (.int (19 : Int32)), (.int (19 : Int32)), (.ref ac)])) rfl (by rw [hml]; rfl) (argsL := [(.int (19 : Int32)), (.int ln), (.int ca), (.int cb), (.int cx), (.int qq), (.long mm)]) (rest := [(.int (19 : Int32)), (.ref ac)]) (lenOf pd_15 rfl) rfl (by show 2 * 0 + _ ≤ _; exact Nat.le_of_eq rfl) (hb hby at_666) (fun _ _ => ⟨rfl, rfl, (by decide : 21 + 1 ≤ _), (by decide : 400 + 19 ≤ _)⟩)
      dsimp only [Pt.U, Pt.locs, Pt.cells, Pt.slots] at X379 l379 y379 z379 st379 hQ379
      subst l379 y379 z379
      obtain ⟨rfl, N379q, K379⟩ := hQ379
      have N379 := Fr.app N359 N379q
      have f380 := hf359_0.keep K379 all0
      have f381 := hf359_1.keep K379 nin0
      have Z382 := Nat.le_trans Z359 K379.1
      have K383 := K359.trans K379 all0
      have K384 := KK359.trans K379 all0
      obtain ⟨T385, gh385, X385, hE385, W385, V385, st385⟩ := owStC X379 hx hZ rfl f381 (k := 19) (j := (19 : Int32)) rfl ((own_lt (i := (19 : Int32)) (a := 19) rfl hln).mp hc645_378) (g := (mkF m 669 #[.val (.long va), .second, .val (.int ra), .val (.int rb), .val (.int rx), .val (.int se), .val (.int ln), .val (.int ub), .val (.int qq), .val (.int ca), .val (.int cb), .val (.int cx), .val (.long mm), .second, .val (.ref ac), .unset, .unset, .unset, .unset, .unset, .unset, .unset, .unset, .unset, .unset, .unset, .unset] [(.int (fn3 (19 : Int32) ln ca cb cx qq mm (nn - 2 - 19))), (.int (19 : Int32)), (.ref ac)])) rfl rfl (hb hby at_669)
      have f386 := f380.wr W385 g_ac
      have Z388 := Nat.le_trans Z382 (Keep.of_wr W385).1
      have N389 := Fr.snoc X385 N379 g_ac
      have K390 := K383.wr W385 (Or.inr sz_ac)
      have K391 := K384.wr W385 (Or.inr sz_ac)
      have pre392 : ∀ t, Steps p.tables e below (T385.setTop (mkF m 670 #[.val (.long va), .second, .val (.int ra), .val (.int rb), .val (.int rx), .val (.int se), .val (.int ln), .val (.int ub), .val (.int qq), .val (.int ca), .val (.int cb), .val (.int cx), .val (.long mm), .second, .val (.ref ac), .unset, .unset, .unset, .unset, .unset, .unset, .unset, .unset, .unset, .unset, .unset, .unset] [])) t → Steps p.tables e below (s₁.setTop (entryFrame m #[(.long va), (.int ra), (.int rb), (.int rx), (.int se)] maxLocals)) t := by
        intro t kt
        refine pre376 _ ?_
        show Steps p.tables e below (T359.setTop (mkF m 645 #[.val (.long va), .second, .val (.int ra), .val (.int rb), .val (.int rx), .val (.int se), .val (.int ln), .val (.int ub), .val (.int qq), .val (.int ca), .val (.int cb), .val (.int cx), .val (.long mm), .second, .val (.ref ac), .unset, .unset, .unset, .unset, .unset, .unset, .unset, .unset, .unset, .unset, .unset, .unset] [(.int (19 : Int32)), (.int ln)])) _
        refine XS.icmpNo X359.here hx rfl (hb hby at_645) rfl (XT.ii_le_f hc645_378) ?_
        refine XS.aload X359.here hx rfl (hb hby at_648) rfl rfl ?_
        refine XS.bipush X359.here hx rfl (hb hby at_650) ?_
        refine XS.bipush X359.here hx rfl (hb hby at_652) ?_
        show Steps p.tables e below (T359.setTop (mkF m 654 #[.val (.long va), .second, .val (.int ra), .val (.int rb), .val (.int rx), .val (.int se), .val (.int ln), .val (.int ub), .val (.int qq), .val (.int ca), .val (.int cb), .val (.int cx), .val (.long mm), .second, .val (.ref ac), .unset, .unset, .unset, .unset, .unset, .unset, .unset, .unset, .unset, .unset, .unset, .unset] [(.int (19 : Int32)), (.int (19 : Int32)), (.ref ac)])) _
        refine XS.iload X359.here hx rfl (hb hby at_654) rfl ?_
        refine XS.iload X359.here hx rfl (hb hby at_656) rfl ?_
        refine XS.iload X359.here hx rfl (hb hby at_658) rfl ?_
        refine XS.iload X359.here hx rfl (hb hby at_660) rfl ?_
        show Steps p.tables e below (T359.setTop (mkF m 662 #[.val (.long va), .second, .val (.int ra), .val (.int rb), .val (.int rx), .val (.int se), .val (.int ln), .val (.int ub), .val (.int qq), .val (.int ca), .val (.int cb), .val (.int cx), .val (.long mm), .second, .val (.ref ac), .unset, .unset, .unset, .unset, .unset, .unset, .unset, .unset, .unset, .unset, .unset, .unset] [(.int cx), (.int cb), (.int ca), (.int ln), (.int (19 : Int32)), (.int (19 : Int32)), (.ref ac)])) _
        refine XS.iload X359.here hx rfl (hb hby at_662) rfl ?_
        refine XS.lload X359.here hx rfl (hb hby at_664) rfl ?_
        show Steps p.tables e below (T359.setTop (mkF m 666 #[.val (.long va), .second, .val (.int ra), .val (.int rb), .val (.int rx), .val (.int se), .val (.int ln), .val (.int ub), .val (.int qq), .val (.int ca), .val (.int cb), .val (.int cx), .val (.long mm), .second, .val (.ref ac), .unset, .unset, .unset, .unset, .unset, .unset, .unset, .unset, .unset, .unset, .unset, .unset] [(.long mm), (.int qq), (.int cx), (.int cb), (.int ca), (.int ln), (.int (19 : Int32)), (.int (19 : Int32)), (.ref ac)])) _
        refine st379 _ ?_
        show Steps p.tables e below (T379.setTop (mkF m 669 #[.val (.long va), .second, .val (.int ra), .val (.int rb), .val (.int rx), .val (.int se), .val (.int ln), .val (.int ub), .val (.int qq), .val (.int ca), .val (.int cb), .val (.int cx), .val (.long mm), .second, .val (.ref ac), .unset, .unset, .unset, .unset, .unset, .unset, .unset, .unset, .unset, .unset, .unset, .unset] [(.int (fn3 (19 : Int32) ln ca cb cx qq mm (nn - 2 - 19))), (.int (19 : Int32)), (.ref ac)])) _
        refine st385 _ ?_
        exact kt
      have eJ : T385.heap = gh385 := hE385
      exact ⟨T385, _, (owUp fk19 19 ((fn3 (19 : Int32) ln ca cb cx qq mm (nn - 2 - 19)).toUInt32.toUInt16.toUInt32.toInt32)), X385.mono (by decide) (by decide), N389, (by rw [eJ]; exact Z388), (by rw [eJ]; exact K390), (by rw [eJ]; exact K391), (by rw [eJ]; exact f386), (by rw [eJ]; exact V385), (own_fillS (k := 19) hl19), fun t kt => pre392 _ kt⟩
    · skip
      have pre393 : ∀ t, Steps p.tables e below (T359.setTop (mkF m 670 #[.val (.long va), .second, .val (.int ra), .val (.int rb), .val (.int rx), .val (.int se), .val (.int ln), .val (.int ub), .val (.int qq), .val (.int ca), .val (.int cb), .val (.int cx), .val (.long mm), .second, .val (.ref ac), .unset, .unset, .unset, .unset, .unset, .unset, .unset, .unset, .unset, .unset, .unset, .unset] [])) t → Steps p.tables e below (s₁.setTop (entryFrame m #[(.long va), (.int ra), (.int rb), (.int rx), (.int se)] maxLocals)) t := by
        intro t kt
        refine pre376 _ ?_
        show Steps p.tables e below (T359.setTop (mkF m 645 #[.val (.long va), .second, .val (.int ra), .val (.int rb), .val (.int rx), .val (.int se), .val (.int ln), .val (.int ub), .val (.int qq), .val (.int ca), .val (.int cb), .val (.int cx), .val (.long mm), .second, .val (.ref ac), .unset, .unset, .unset, .unset, .unset, .unset, .unset, .unset, .unset, .unset, .unset, .unset] [(.int (19 : Int32)), (.int ln)])) _
        refine XS.icmpYes X359.here hx rfl (pc0 := 645) (pc' := 670) rfl (hb hby at_645) rfl (XT.ii_le_t hc645_378) (by decide) (by decide) ?_
        exact kt
      have eJ : T359.heap = T359.heap := rfl
      exact ⟨T359, _, fk19, X359.mono (by decide) (by decide), N359, (by rw [eJ]; exact Z359), (by rw [eJ]; exact K359), (by rw [eJ]; exact KK359), (by rw [eJ]; exact hf359_0), (by rw [eJ]; exact hf359_1), (own_fillN hln (kz := (19 : Int32)) (k := 19) rfl hc645_378 hl19), fun t kt => pre393 _ kt⟩
  have hl20 := hp377_0
  have hO : own_O nn ca cb cx qq mm fcc := own_hfc hln hn20 hM (own_dr h_ca) (own_dr h_cb) (own_dr h_cx) hl20
  have hfc := hO.1
  obtain ⟨T394, gh394, X394, hE394, E394, A394, D394, -, st394⟩ := newO X377 hx hZ hown (hw _ (List.mem_of_getElem? (i := 31) rfl)) (hw _ (List.mem_of_getElem? (i := 32) rfl)) (hw _ (List.mem_of_getElem? (i := 33) rfl)) rfl (g := (mkF m 670 #[.val (.long va), .second, .val (.int ra), .val (.int rb), .val (.int rx), .val (.int se), .val (.int ln), .val (.int ub), .val (.int qq), .val (.int ca), .val (.int cb), .val (.int cx), .val (.long mm), .second, .val (.ref ac), .unset, .unset, .unset, .unset, .unset, .unset, .unset, .unset, .unset, .unset, .unset, .unset] [])) rfl (hb hby at_670) (by decide) (by decide)
  obtain ⟨so, g394⟩ : ∃ z, z = T377.heap.size := ⟨_, rfl⟩
  rw [← g394] at A394 D394 st394
  have ne_ac_so : ac ≠ so := Nat.ne_of_lt (Nat.lt_of_lt_of_le hf377_1.lt (Nat.le_of_eq g394.symm))
  have g_so : n0 ≤ so := Nat.le_trans Z377 (Nat.le_of_eq g394.symm)
  have sz_so : h0.size ≤ so := Nat.le_trans K377.1 (Nat.le_of_eq g394.symm)
  have f395 := hf377_0.ext E394
  have f396 := hf377_1.ext E394
  have Z397 := Nat.le_trans Z377 E394.1
  have K398 := K377.ext E394
  have K399 := KK377.ext E394
  have F_coder_so : Fld Z gh394 so "java/lang/String" "coder" "B" (.int (0 : Int32)) := D394 (Or.inr (hw _ (List.mem_of_getElem? (i := 57) rfl))) (ty := .byte) (by decide)
  have F_value_so : Fld Z gh394 so "java/lang/String" "value" "[B" .null := D394 (Or.inr (hw _ (List.mem_of_getElem? (i := 59) rfl))) (ty := (.array .byte)) (by decide)
  have pre401 : ∀ t, Steps p.tables e below (T394.setTop (mkF m 676 #[.val (.long va), .second, .val (.int ra), .val (.int rb), .val (.int rx), .val (.int se), .val (.int ln), .val (.int ub), .val (.int qq), .val (.int ca), .val (.int cb), .val (.int cx), .val (.long mm), .second, .val (.ref ac), .unset, .unset, .unset, .unset, .unset, .unset, .unset, .unset, .unset, .unset, .unset, .unset] [(.ref ac), (.ref so), (.ref so)])) t → Steps p.tables e below (s₁.setTop (entryFrame m #[(.long va), (.int ra), (.int rb), (.int rx), (.int se)] maxLocals)) t := by
    intro t kt
    refine pre377 _ ?_
    show Steps p.tables e below (T377.setTop (mkF m 670 #[.val (.long va), .second, .val (.int ra), .val (.int rb), .val (.int rx), .val (.int se), .val (.int ln), .val (.int ub), .val (.int qq), .val (.int ca), .val (.int cb), .val (.int cx), .val (.long mm), .second, .val (.ref ac), .unset, .unset, .unset, .unset, .unset, .unset, .unset, .unset, .unset, .unset, .unset, .unset] [])) _
    refine st394 _ ?_
    refine XS.dup X394.here hx rfl (hb hby at_673) rfl rfl ?_
    refine XS.aload X394.here hx rfl (hb hby at_674) rfl rfl ?_
    exact kt
  have CK402 := CHr.keep (Z := Z) (EL := EL1) K399 sf0 CH0
  obtain ⟨_, _, ⟨T400, L400, k400, n400⟩, -, X400, hSn, hgr, ⟨Lc400, hQ400, l400, y400, z400, CC400⟩, st400⟩ := X394.specialBackS hx (y := (⟨"java/lang/String", "<init>", "([C)V"⟩ : MethodName)) rfl hown (mvT hZ (hw _ (List.mem_of_getElem? (i := 34) rfl))) (mvT hZ (hw _ (List.mem_of_getElem? (i := 35) rfl))) (mvT hZ (hw _ (List.mem_of_getElem? (i := 36) rfl))) (by decide) (backOfSH (s := s) (vm0 := s.vm) (W := 1) (rm4 l Z a0 hw [] so ac nn fcc cs fmv ln gh394 n0 Z397 A394 F_value_so F_coder_so f396 g_so (Ne.symm ne_ac_so) hfc f395 hst hln) hZ (hw _ (List.mem_of_getElem? (i := 36) rfl)) (hw _ (List.mem_of_getElem? (i := 33) rfl)) (by decide) (by decide) hEL CK402.1) (g := (mkF m 676 #[.val (.long va), .second, .val (.int ra), .val (.int rb), .val (.int rx), .val (.int se), .val (.int ln), .val (.int ub), .val (.int qq), .val (.int ca), .val (.int cb), .val (.int cx), .val (.long mm), .second, .val (.ref ac), .unset, .unset, .unset, .unset, .unset, .unset, .unset, .unset, .unset, .unset, .unset, .unset] [(.ref ac), (.ref so), (.ref so)])) rfl (by rw [hml]; rfl) (Steps.refl _) (a := so) (argsL := [(.ref ac)]) (rest := [(.ref so)]) (lenOf pd_16 rfl) rfl (by show 2 * 0 + _ ≤ _; exact Nat.le_of_eq rfl) (hb hby at_676) (fun _ _ => ⟨rfl, hE394, (by decide : 23 + 4 ≤ _), (by decide : 423 + 20 ≤ _)⟩)
  dsimp only [Pt.U, Pt.locs, Pt.cells, Pt.slots] at X400 l400 y400 z400 st400 hQ400
  subst l400 y400 z400
  dsimp only [Pt.U, Pt.locs, Pt.cells, Pt.slots] at hSn hgr CC400
  obtain ⟨X400, hS, hZ, hown⟩ := rebS hS (n1 := T394.heap.size) (by rw [hE394]; exact Nat.le_trans hk K399.1) X400 hSn hgr hZ hown
  have hk : T400.heap.size ≤ T400.heap.size := Nat.le_refl _
  obtain ⟨vb, rfl, N400q, K400, p400_E, p400_v, p400_c, p400_A⟩ := hQ400
  have N400 := Fr.app N377 N400q
  have f403 := f395.keep K400 (allS g_so all0)
  have f404 := f396.keep K400 (ninS ne_ac_so nin0)
  have f405 := A394.keep K400
  have Z408 := Nat.le_trans Z397 K400.1
  have K409 := K398.trans K400 (allS (Or.inr sz_so) all0)
  have K410 := K399.trans K400 (allS (Or.inr sz_so) all0)
  have CR411 := CK402.trans CC400
  obtain ⟨_, _, ⟨T412, L412, k412, n412⟩, -, X412, ⟨Lc412, hQ412, l412, y412, z412⟩, st412⟩ := Jvm.LawKit.callS X400 hx (y := (⟨"com/example/relent/relent/WholeNumbers", "unsigned", "(Ljava/lang/String;)Ljava/util/OptionalLong;"⟩ : MethodName)) hown (mvT hZ (hw _ (List.mem_of_getElem? (i := 60) rfl))) (mvT hZ (hw _ (List.mem_of_getElem? (i := 61) rfl))) (mvT hZ (hw _ (List.mem_of_getElem? (i := 62) rfl))) (mvT hZ (hw _ (List.mem_of_getElem? (i := 63) rfl))) (by decide) (backOf (W := 0) (rm10 l Z a0 hw [] so vb ln nn fcc cs fmv em T400.heap n0 Z408 p400_E p400_v p400_c p400_A hln hfc f403 hst hem) hZ (hw _ (List.mem_of_getElem? (i := 63) rfl)) (hw _ (List.mem_of_getElem? (i := 62) rfl)) (by decide) (by decide)) (g := (mkF m 679 #[.val (.long va), .second, .val (.int ra), .val (.int rb), .val (.int rx), .val (.int se), .val (.int ln), .val (.int ub), .val (.int qq), .val (.int ca), .val (.int cb), .val (.int cx), .val (.long mm), .second, .val (.ref ac), .unset, .unset, .unset, .unset, .unset, .unset, .unset, .unset, .unset, .unset, .unset, .unset] [(.ref so)])) rfl (by rw [hml]; rfl) (argsL := [(.ref so)]) (rest := []) (lenOf pd_17 rfl) rfl (by show 2 * 0 + _ ≤ _; exact Nat.le_of_eq rfl) (hb hby at_679) (fun _ _ => ⟨rfl, rfl, (by decide : 27 + 1 ≤ _), (by decide : 443 + 2 ≤ _)⟩)
  dsimp only [Pt.U, Pt.locs, Pt.cells, Pt.slots] at X412 l412 y412 z412 st412 hQ412
  subst l412 y412 z412
  obtain ⟨ol, rfl, N412q, K412, p412_E, p412_i, p412_v⟩ := hQ412
  have N412 := Fr.app N400 N412q
  have f413 := f403.keep K412 all0
  have f414 := f404.keep K412 nin0
  have f415 := p400_E.keep K412
  have f416 := p400_v.keep K412 nin0
  have f417 := p400_c.keep K412 nin0
  have f418 := p400_A.keep K412 nin0
  have Z419 := Nat.le_trans Z408 K412.1
  have K420 := K409.trans K412 all0
  have K421 := (Keep.refl T400.heap []).trans K412 all0
  have pre422 : ∀ t, Steps p.tables e below (T412.setTop (mkF m 687 #[.val (.long va), .second, .val (.int ra), .val (.int rb), .val (.int rx), .val (.int se), .val (.int ln), .val (.int ub), .val (.int qq), .val (.int ca), .val (.int cb), .val (.int cx), .val (.long mm), .second, .val (.ref ac), .val (.ref ol), .unset, .unset, .unset, .unset, .unset, .unset, .unset, .unset, .unset, .unset, .unset] [(.int (1 : Int32)), (.int ln)])) t → Steps p.tables e below (s₁.setTop (entryFrame m #[(.long va), (.int ra), (.int rb), (.int rx), (.int se)] maxLocals)) t := by
    intro t kt
    refine pre401 _ ?_
    show Steps p.tables e below (T394.setTop (mkF m 676 #[.val (.long va), .second, .val (.int ra), .val (.int rb), .val (.int rx), .val (.int se), .val (.int ln), .val (.int ub), .val (.int qq), .val (.int ca), .val (.int cb), .val (.int cx), .val (.long mm), .second, .val (.ref ac), .unset, .unset, .unset, .unset, .unset, .unset, .unset, .unset, .unset, .unset, .unset, .unset] [(.ref ac), (.ref so), (.ref so)])) _
    refine st400.trans ?_
    show Steps p.tables e below (T400.setTop (mkF m 679 #[.val (.long va), .second, .val (.int ra), .val (.int rb), .val (.int rx), .val (.int se), .val (.int ln), .val (.int ub), .val (.int qq), .val (.int ca), .val (.int cb), .val (.int cx), .val (.long mm), .second, .val (.ref ac), .unset, .unset, .unset, .unset, .unset, .unset, .unset, .unset, .unset, .unset, .unset, .unset] [(.ref so)])) _
    refine st412 _ ?_
    refine XS.astore X412.here hx rfl (hb hby at_682) rfl rfl (l' := #[.val (.long va), .second, .val (.int ra), .val (.int rb), .val (.int rx), .val (.int se), .val (.int ln), .val (.int ub), .val (.int qq), .val (.int ca), .val (.int cb), .val (.int cx), .val (.long mm), .second, .val (.ref ac), .val (.ref ol), .unset, .unset, .unset, .unset, .unset, .unset, .unset, .unset, .unset, .unset, .unset]) rfl ?_
    refine XS.iload X412.here hx rfl (hb hby at_684) rfl ?_
    refine XS.iconst X412.here hx rfl (hb hby at_686) ?_
    exact kt
  obtain ⟨T423, L423, vd, X423, N423, Z423, K423, KK423, hf423_0, hf423_1, hf423_2, hf423_3, hf423_4, hf423_5, hf423_6, hf423_7, hf423_8, hp423_0, pre423⟩ : ∃ (T423 : State) (L423 : List Loc) (vd : Int32), Stand p l e room_1 (s.setVm T400.vm) m #[(.long va), (.int ra), (.int rb), (.int rx), (.int se)] below meth c T423 L423 28 445 ∧ Fr n0 L423 ∧ n0 ≤ T423.heap.size ∧ Keep h0 T423.heap [] ∧ Keep T400.heap T423.heap [] ∧ Old Z n0 T423.heap ∧ owAI Z T423.heap ac .char nn fcc ∧ Exa Z T423.heap so "java/lang/String" ∧ Fld Z T423.heap so "java/lang/String" "value" "[B" (.ref vb) ∧ Fld Z T423.heap so "java/lang/String" "coder" "B" (.int (0 : Int32)) ∧ owAI Z T423.heap vb .byte nn (fun i => (fcc i).toInt8.toInt32) ∧ Exa Z T423.heap ol "java/util/OptionalLong" ∧ Fld Z T423.heap ol "java/util/OptionalLong" "isPresent" "Z" (.int (own_res fcc nn).1) ∧ Fld Z T423.heap ol "java/util/OptionalLong" "value" "J" (.long (own_res fcc nn).2) ∧ own_VD ln ub ca cb cx vd ∧ ∀ t, Steps p.tables e below (T423.setTop (mkF m 730 #[.val (.long va), .second, .val (.int ra), .val (.int rb), .val (.int rx), .val (.int se), .val (.int ln), .val (.int ub), .val (.int qq), .val (.int ca), .val (.int cb), .val (.int cx), .val (.long mm), .second, .val (.ref ac), .val (.ref ol), .unset, .unset, .unset, .unset, .unset, .unset, .unset, .unset, .unset, .unset, .unset] [(.int vd)])) t → Steps p.tables e below (s₁.setTop (entryFrame m #[(.long va), (.int ra), (.int rb), (.int rx), (.int se)] maxLocals)) t := by
    by_cases hc687_424 : ln < (1 : Int32)
    · skip
      have pre425 : ∀ t, Steps p.tables e below (T412.setTop (mkF m 730 #[.val (.long va), .second, .val (.int ra), .val (.int rb), .val (.int rx), .val (.int se), .val (.int ln), .val (.int ub), .val (.int qq), .val (.int ca), .val (.int cb), .val (.int cx), .val (.long mm), .second, .val (.ref ac), .val (.ref ol), .unset, .unset, .unset, .unset, .unset, .unset, .unset, .unset, .unset, .unset, .unset] [(.int (0 : Int32))])) t → Steps p.tables e below (s₁.setTop (entryFrame m #[(.long va), (.int ra), (.int rb), (.int rx), (.int se)] maxLocals)) t := by
        intro t kt
        refine pre422 _ ?_
        show Steps p.tables e below (T412.setTop (mkF m 687 #[.val (.long va), .second, .val (.int ra), .val (.int rb), .val (.int rx), .val (.int se), .val (.int ln), .val (.int ub), .val (.int qq), .val (.int ca), .val (.int cb), .val (.int cx), .val (.long mm), .second, .val (.ref ac), .val (.ref ol), .unset, .unset, .unset, .unset, .unset, .unset, .unset, .unset, .unset, .unset, .unset] [(.int (1 : Int32)), (.int ln)])) _
        refine XS.icmpYes X412.here hx rfl (pc0 := 687) (pc' := 729) rfl (hb hby at_687) rfl (XT.ii_lt_t hc687_424) (by decide) (by decide) ?_
        refine XS.iconst X412.here hx rfl (hb hby at_729) ?_
        exact kt
      have eJ : T412.heap = T412.heap := rfl
      exact ⟨T412, _, (0 : Int32), X412.mono (by decide) (by decide), N412, (by rw [eJ]; exact Z419), (by rw [eJ]; exact K420), (by rw [eJ]; exact K421), (by rw [eJ]; exact f413), (by rw [eJ]; exact f414), (by rw [eJ]; exact f415), (by rw [eJ]; exact f416), (by rw [eJ]; exact f417), (by rw [eJ]; exact f418), (by rw [eJ]; exact p412_E), (by rw [eJ]; exact p412_i), (by rw [eJ]; exact p412_v), (by unfold own_VD; rw [if_pos hc687_424]), fun t kt => pre425 _ kt⟩
    · skip
      obtain ⟨_, _, ⟨T426, L426, k426, n426⟩, -, X426, ⟨Lc426, hQ426, l426, y426, z426⟩, st426⟩ := Jvm.LawKit.callS X412 hx (y := (⟨"com/example/relent/relent/WholeNumbersUnsignedPinLaw", "isDigit", "(C)Z"⟩ : MethodName)) hown (mvT hZ (hw _ (List.mem_of_getElem? (i := 118) rfl))) (mvT hZ (hw _ (List.mem_of_getElem? (i := 119) rfl))) (mvT hZ (hw _ (List.mem_of_getElem? (i := 2) rfl))) (mvT hZ (hw _ (List.mem_of_getElem? (i := 120) rfl))) (by decide) (backOf (W := 0) (rm21 l Z a0 hw [] cx T412.heap n0 Z419) hZ (hw _ (List.mem_of_getElem? (i := 120) rfl)) (hw _ (List.mem_of_getElem? (i := 2) rfl)) (by decide) (by decide)) (g := (mkF m 692 #[.val (.long va), .second, .val (.int ra), .val (.int rb), .val (.int rx), .val (.int se), .val (.int ln), .val (.int ub), .val (.int qq), .val (.int ca), .val (.int cb), .val (.int cx), .val (.long mm), .second, .val (.ref ac), .val (.ref ol), .unset, .unset, .unset, .unset, .unset, .unset, .unset, .unset, .unset, .unset, .unset] [(.int cx)])) rfl (by rw [hml]; rfl) (argsL := [(.int cx)]) (rest := []) (lenOf pd_18 rfl) rfl (by show 2 * 0 + _ ≤ _; exact Nat.le_of_eq rfl) (hb hby at_692) (fun _ _ => ⟨rfl, rfl, (by decide : 28 + 0 ≤ _), (by decide : 445 + 0 ≤ _)⟩)
      dsimp only [Pt.U, Pt.locs, Pt.cells, Pt.slots] at X426 l426 y426 z426 st426 hQ426
      subst l426 y426 z426
      obtain ⟨rfl, N426q, hE426⟩ := hQ426
      have N426 := Fr.app N412 N426q
      have pre427 : ∀ t, Steps p.tables e below (T426.setTop (mkF m 695 #[.val (.long va), .second, .val (.int ra), .val (.int rb), .val (.int rx), .val (.int se), .val (.int ln), .val (.int ub), .val (.int qq), .val (.int ca), .val (.int cb), .val (.int cx), .val (.long mm), .second, .val (.ref ac), .val (.ref ol), .unset, .unset, .unset, .unset, .unset, .unset, .unset, .unset, .unset, .unset, .unset] [(.int (fn21 cx))])) t → Steps p.tables e below (s₁.setTop (entryFrame m #[(.long va), (.int ra), (.int rb), (.int rx), (.int se)] maxLocals)) t := by
        intro t kt
        refine pre422 _ ?_
        show Steps p.tables e below (T412.setTop (mkF m 687 #[.val (.long va), .second, .val (.int ra), .val (.int rb), .val (.int rx), .val (.int se), .val (.int ln), .val (.int ub), .val (.int qq), .val (.int ca), .val (.int cb), .val (.int cx), .val (.long mm), .second, .val (.ref ac), .val (.ref ol), .unset, .unset, .unset, .unset, .unset, .unset, .unset, .unset, .unset, .unset, .unset] [(.int (1 : Int32)), (.int ln)])) _
        refine XS.icmpNo X412.here hx rfl (hb hby at_687) rfl (XT.ii_lt_f hc687_424) ?_
        refine XS.iload X412.here hx rfl (hb hby at_690) rfl ?_
        show Steps p.tables e below (T412.setTop (mkF m 692 #[.val (.long va), .second, .val (.int ra), .val (.int rb), .val (.int rx), .val (.int se), .val (.int ln), .val (.int ub), .val (.int qq), .val (.int ca), .val (.int cb), .val (.int cx), .val (.long mm), .second, .val (.ref ac), .val (.ref ol), .unset, .unset, .unset, .unset, .unset, .unset, .unset, .unset, .unset, .unset, .unset] [(.int cx)])) _
        refine st426 _ ?_
        exact kt
      by_cases hc695_428 : (fn21 cx) = (0 : Int32)
      · skip
        have pre429 : ∀ t, Steps p.tables e below (T426.setTop (mkF m 730 #[.val (.long va), .second, .val (.int ra), .val (.int rb), .val (.int rx), .val (.int se), .val (.int ln), .val (.int ub), .val (.int qq), .val (.int ca), .val (.int cb), .val (.int cx), .val (.long mm), .second, .val (.ref ac), .val (.ref ol), .unset, .unset, .unset, .unset, .unset, .unset, .unset, .unset, .unset, .unset, .unset] [(.int (0 : Int32))])) t → Steps p.tables e below (s₁.setTop (entryFrame m #[(.long va), (.int ra), (.int rb), (.int rx), (.int se)] maxLocals)) t := by
          intro t kt
          refine pre427 _ ?_
          show Steps p.tables e below (T426.setTop (mkF m 695 #[.val (.long va), .second, .val (.int ra), .val (.int rb), .val (.int rx), .val (.int se), .val (.int ln), .val (.int ub), .val (.int qq), .val (.int ca), .val (.int cb), .val (.int cx), .val (.long mm), .second, .val (.ref ac), .val (.ref ol), .unset, .unset, .unset, .unset, .unset, .unset, .unset, .unset, .unset, .unset, .unset] [(.int (fn21 cx))])) _
          refine XS.ifYes X426.here hx rfl (pc0 := 695) (pc' := 729) rfl (hb hby at_695) rfl (XT.i0_eq_t hc695_428) (by decide) (by decide) ?_
          refine XS.iconst X426.here hx rfl (hb hby at_729) ?_
          exact kt
        have eJ : T426.heap = T412.heap := hE426
        exact ⟨T426, _, (0 : Int32), X426.mono (by decide) (by decide), N426, (by rw [eJ]; exact Z419), (by rw [eJ]; exact K420), (by rw [eJ]; exact K421), (by rw [eJ]; exact f413), (by rw [eJ]; exact f414), (by rw [eJ]; exact f415), (by rw [eJ]; exact f416), (by rw [eJ]; exact f417), (by rw [eJ]; exact f418), (by rw [eJ]; exact p412_E), (by rw [eJ]; exact p412_i), (by rw [eJ]; exact p412_v), (by unfold own_VD; rw [if_neg hc687_424, if_pos hc695_428]), fun t kt => pre429 _ kt⟩
      · skip
        have pre430 : ∀ t, Steps p.tables e below (T426.setTop (mkF m 701 #[.val (.long va), .second, .val (.int ra), .val (.int rb), .val (.int rx), .val (.int se), .val (.int ln), .val (.int ub), .val (.int qq), .val (.int ca), .val (.int cb), .val (.int cx), .val (.long mm), .second, .val (.ref ac), .val (.ref ol), .unset, .unset, .unset, .unset, .unset, .unset, .unset, .unset, .unset, .unset, .unset] [(.int (1 : Int32)), (.int ln)])) t → Steps p.tables e below (s₁.setTop (entryFrame m #[(.long va), (.int ra), (.int rb), (.int rx), (.int se)] maxLocals)) t := by
          intro t kt
          refine pre427 _ ?_
          show Steps p.tables e below (T426.setTop (mkF m 695 #[.val (.long va), .second, .val (.int ra), .val (.int rb), .val (.int rx), .val (.int se), .val (.int ln), .val (.int ub), .val (.int qq), .val (.int ca), .val (.int cb), .val (.int cx), .val (.long mm), .second, .val (.ref ac), .val (.ref ol), .unset, .unset, .unset, .unset, .unset, .unset, .unset, .unset, .unset, .unset, .unset] [(.int (fn21 cx))])) _
          refine XS.ifNo X426.here hx rfl (hb hby at_695) rfl (XT.i0_eq_f hc695_428) ?_
          refine XS.iload X426.here hx rfl (hb hby at_698) rfl ?_
          refine XS.iconst X426.here hx rfl (hb hby at_700) ?_
          exact kt
        by_cases hc701_431 : ln = (1 : Int32)
        · skip
          have pre432 : ∀ t, Steps p.tables e below (T426.setTop (mkF m 714 #[.val (.long va), .second, .val (.int ra), .val (.int rb), .val (.int rx), .val (.int se), .val (.int ln), .val (.int ub), .val (.int qq), .val (.int ca), .val (.int cb), .val (.int cx), .val (.long mm), .second, .val (.ref ac), .val (.ref ol), .unset, .unset, .unset, .unset, .unset, .unset, .unset, .unset, .unset, .unset, .unset] [(.int ub)])) t → Steps p.tables e below (s₁.setTop (entryFrame m #[(.long va), (.int ra), (.int rb), (.int rx), (.int se)] maxLocals)) t := by
            intro t kt
            refine pre430 _ ?_
            show Steps p.tables e below (T426.setTop (mkF m 701 #[.val (.long va), .second, .val (.int ra), .val (.int rb), .val (.int rx), .val (.int se), .val (.int ln), .val (.int ub), .val (.int qq), .val (.int ca), .val (.int cb), .val (.int cx), .val (.long mm), .second, .val (.ref ac), .val (.ref ol), .unset, .unset, .unset, .unset, .unset, .unset, .unset, .unset, .unset, .unset, .unset] [(.int (1 : Int32)), (.int ln)])) _
            refine XS.icmpYes X426.here hx rfl (pc0 := 701) (pc' := 712) rfl (hb hby at_701) rfl (XT.ii_eq_t hc701_431) (by decide) (by decide) ?_
            refine XS.iload X426.here hx rfl (hb hby at_712) rfl ?_
            exact kt
          by_cases hc714_433 : ub = (0 : Int32)
          · skip
            have pre434 : ∀ t, Steps p.tables e below (T426.setTop (mkF m 730 #[.val (.long va), .second, .val (.int ra), .val (.int rb), .val (.int rx), .val (.int se), .val (.int ln), .val (.int ub), .val (.int qq), .val (.int ca), .val (.int cb), .val (.int cx), .val (.long mm), .second, .val (.ref ac), .val (.ref ol), .unset, .unset, .unset, .unset, .unset, .unset, .unset, .unset, .unset, .unset, .unset] [(.int (1 : Int32))])) t → Steps p.tables e below (s₁.setTop (entryFrame m #[(.long va), (.int ra), (.int rb), (.int rx), (.int se)] maxLocals)) t := by
              intro t kt
              refine pre432 _ ?_
              show Steps p.tables e below (T426.setTop (mkF m 714 #[.val (.long va), .second, .val (.int ra), .val (.int rb), .val (.int rx), .val (.int se), .val (.int ln), .val (.int ub), .val (.int qq), .val (.int ca), .val (.int cb), .val (.int cx), .val (.long mm), .second, .val (.ref ac), .val (.ref ol), .unset, .unset, .unset, .unset, .unset, .unset, .unset, .unset, .unset, .unset, .unset] [(.int ub)])) _
              refine XS.ifYes X426.here hx rfl (pc0 := 714) (pc' := 725) rfl (hb hby at_714) rfl (XT.i0_eq_t hc714_433) (by decide) (by decide) ?_
              refine XS.iconst X426.here hx rfl (hb hby at_725) ?_
              refine XS.goto X426.here hx rfl (pc0 := 726) (pc' := 730) rfl (hb hby at_726) (by decide) (by decide) ?_
              exact kt
            have eJ : T426.heap = T412.heap := hE426
            exact ⟨T426, _, (1 : Int32), X426.mono (by decide) (by decide), N426, (by rw [eJ]; exact Z419), (by rw [eJ]; exact K420), (by rw [eJ]; exact K421), (by rw [eJ]; exact f413), (by rw [eJ]; exact f414), (by rw [eJ]; exact f415), (by rw [eJ]; exact f416), (by rw [eJ]; exact f417), (by rw [eJ]; exact f418), (by rw [eJ]; exact p412_E), (by rw [eJ]; exact p412_i), (by rw [eJ]; exact p412_v), (by unfold own_VD; rw [if_neg hc687_424, if_neg hc695_428, if_pos hc701_431, if_pos hc714_433]), fun t kt => pre434 _ kt⟩
          · skip
            obtain ⟨_, _, ⟨T435, L435, k435, n435⟩, -, X435, ⟨Lc435, hQ435, l435, y435, z435⟩, st435⟩ := Jvm.LawKit.callS X426 hx (y := (⟨"com/example/relent/relent/WholeNumbersUnsignedPinLaw", "isDigit", "(C)Z"⟩ : MethodName)) hown (mvT hZ (hw _ (List.mem_of_getElem? (i := 118) rfl))) (mvT hZ (hw _ (List.mem_of_getElem? (i := 119) rfl))) (mvT hZ (hw _ (List.mem_of_getElem? (i := 2) rfl))) (mvT hZ (hw _ (List.mem_of_getElem? (i := 120) rfl))) (by decide) (backOf (W := 0) (rm21 l Z a0 hw [] cb T412.heap n0 Z419) hZ (hw _ (List.mem_of_getElem? (i := 120) rfl)) (hw _ (List.mem_of_getElem? (i := 2) rfl)) (by decide) (by decide)) (g := (mkF m 719 #[.val (.long va), .second, .val (.int ra), .val (.int rb), .val (.int rx), .val (.int se), .val (.int ln), .val (.int ub), .val (.int qq), .val (.int ca), .val (.int cb), .val (.int cx), .val (.long mm), .second, .val (.ref ac), .val (.ref ol), .unset, .unset, .unset, .unset, .unset, .unset, .unset, .unset, .unset, .unset, .unset] [(.int cb)])) rfl (by rw [hml]; rfl) (argsL := [(.int cb)]) (rest := []) (lenOf pd_18 rfl) rfl (by show 2 * 0 + _ ≤ _; exact Nat.le_of_eq rfl) (hb hby at_719) (fun _ _ => ⟨rfl, hE426, (by decide : 28 + 0 ≤ _), (by decide : 445 + 0 ≤ _)⟩)
            dsimp only [Pt.U, Pt.locs, Pt.cells, Pt.slots] at X435 l435 y435 z435 st435 hQ435
            subst l435 y435 z435
            obtain ⟨rfl, N435q, hE435⟩ := hQ435
            have N435 := Fr.app N426 N435q
            have pre436 : ∀ t, Steps p.tables e below (T435.setTop (mkF m 722 #[.val (.long va), .second, .val (.int ra), .val (.int rb), .val (.int rx), .val (.int se), .val (.int ln), .val (.int ub), .val (.int qq), .val (.int ca), .val (.int cb), .val (.int cx), .val (.long mm), .second, .val (.ref ac), .val (.ref ol), .unset, .unset, .unset, .unset, .unset, .unset, .unset, .unset, .unset, .unset, .unset] [(.int (fn21 cb))])) t → Steps p.tables e below (s₁.setTop (entryFrame m #[(.long va), (.int ra), (.int rb), (.int rx), (.int se)] maxLocals)) t := by
              intro t kt
              refine pre432 _ ?_
              show Steps p.tables e below (T426.setTop (mkF m 714 #[.val (.long va), .second, .val (.int ra), .val (.int rb), .val (.int rx), .val (.int se), .val (.int ln), .val (.int ub), .val (.int qq), .val (.int ca), .val (.int cb), .val (.int cx), .val (.long mm), .second, .val (.ref ac), .val (.ref ol), .unset, .unset, .unset, .unset, .unset, .unset, .unset, .unset, .unset, .unset, .unset] [(.int ub)])) _
              refine XS.ifNo X426.here hx rfl (hb hby at_714) rfl (XT.i0_eq_f hc714_433) ?_
              refine XS.iload X426.here hx rfl (hb hby at_717) rfl ?_
              show Steps p.tables e below (T426.setTop (mkF m 719 #[.val (.long va), .second, .val (.int ra), .val (.int rb), .val (.int rx), .val (.int se), .val (.int ln), .val (.int ub), .val (.int qq), .val (.int ca), .val (.int cb), .val (.int cx), .val (.long mm), .second, .val (.ref ac), .val (.ref ol), .unset, .unset, .unset, .unset, .unset, .unset, .unset, .unset, .unset, .unset, .unset] [(.int cb)])) _
              refine st435 _ ?_
              exact kt
            by_cases hc722_437 : (fn21 cb) = (0 : Int32)
            · skip
              have pre438 : ∀ t, Steps p.tables e below (T435.setTop (mkF m 730 #[.val (.long va), .second, .val (.int ra), .val (.int rb), .val (.int rx), .val (.int se), .val (.int ln), .val (.int ub), .val (.int qq), .val (.int ca), .val (.int cb), .val (.int cx), .val (.long mm), .second, .val (.ref ac), .val (.ref ol), .unset, .unset, .unset, .unset, .unset, .unset, .unset, .unset, .unset, .unset, .unset] [(.int (0 : Int32))])) t → Steps p.tables e below (s₁.setTop (entryFrame m #[(.long va), (.int ra), (.int rb), (.int rx), (.int se)] maxLocals)) t := by
                intro t kt
                refine pre436 _ ?_
                show Steps p.tables e below (T435.setTop (mkF m 722 #[.val (.long va), .second, .val (.int ra), .val (.int rb), .val (.int rx), .val (.int se), .val (.int ln), .val (.int ub), .val (.int qq), .val (.int ca), .val (.int cb), .val (.int cx), .val (.long mm), .second, .val (.ref ac), .val (.ref ol), .unset, .unset, .unset, .unset, .unset, .unset, .unset, .unset, .unset, .unset, .unset] [(.int (fn21 cb))])) _
                refine XS.ifYes X435.here hx rfl (pc0 := 722) (pc' := 729) rfl (hb hby at_722) rfl (XT.i0_eq_t hc722_437) (by decide) (by decide) ?_
                refine XS.iconst X435.here hx rfl (hb hby at_729) ?_
                exact kt
              have eJ : T435.heap = T412.heap := hE435
              exact ⟨T435, _, (0 : Int32), X435.mono (by decide) (by decide), N435, (by rw [eJ]; exact Z419), (by rw [eJ]; exact K420), (by rw [eJ]; exact K421), (by rw [eJ]; exact f413), (by rw [eJ]; exact f414), (by rw [eJ]; exact f415), (by rw [eJ]; exact f416), (by rw [eJ]; exact f417), (by rw [eJ]; exact f418), (by rw [eJ]; exact p412_E), (by rw [eJ]; exact p412_i), (by rw [eJ]; exact p412_v), (by unfold own_VD; rw [if_neg hc687_424, if_neg hc695_428, if_pos hc701_431, if_neg hc714_433, if_pos hc722_437]), fun t kt => pre438 _ kt⟩
            · skip
              have pre439 : ∀ t, Steps p.tables e below (T435.setTop (mkF m 730 #[.val (.long va), .second, .val (.int ra), .val (.int rb), .val (.int rx), .val (.int se), .val (.int ln), .val (.int ub), .val (.int qq), .val (.int ca), .val (.int cb), .val (.int cx), .val (.long mm), .second, .val (.ref ac), .val (.ref ol), .unset, .unset, .unset, .unset, .unset, .unset, .unset, .unset, .unset, .unset, .unset] [(.int (1 : Int32))])) t → Steps p.tables e below (s₁.setTop (entryFrame m #[(.long va), (.int ra), (.int rb), (.int rx), (.int se)] maxLocals)) t := by
                intro t kt
                refine pre436 _ ?_
                show Steps p.tables e below (T435.setTop (mkF m 722 #[.val (.long va), .second, .val (.int ra), .val (.int rb), .val (.int rx), .val (.int se), .val (.int ln), .val (.int ub), .val (.int qq), .val (.int ca), .val (.int cb), .val (.int cx), .val (.long mm), .second, .val (.ref ac), .val (.ref ol), .unset, .unset, .unset, .unset, .unset, .unset, .unset, .unset, .unset, .unset, .unset] [(.int (fn21 cb))])) _
                refine XS.ifNo X435.here hx rfl (hb hby at_722) rfl (XT.i0_eq_f hc722_437) ?_
                refine XS.iconst X435.here hx rfl (hb hby at_725) ?_
                refine XS.goto X435.here hx rfl (pc0 := 726) (pc' := 730) rfl (hb hby at_726) (by decide) (by decide) ?_
                exact kt
              have eJ : T435.heap = T412.heap := hE435
              exact ⟨T435, _, (1 : Int32), X435.mono (by decide) (by decide), N435, (by rw [eJ]; exact Z419), (by rw [eJ]; exact K420), (by rw [eJ]; exact K421), (by rw [eJ]; exact f413), (by rw [eJ]; exact f414), (by rw [eJ]; exact f415), (by rw [eJ]; exact f416), (by rw [eJ]; exact f417), (by rw [eJ]; exact f418), (by rw [eJ]; exact p412_E), (by rw [eJ]; exact p412_i), (by rw [eJ]; exact p412_v), (by unfold own_VD; rw [if_neg hc687_424, if_neg hc695_428, if_pos hc701_431, if_neg hc714_433, if_neg hc722_437]), fun t kt => pre439 _ kt⟩
        · skip
          obtain ⟨_, _, ⟨T440, L440, k440, n440⟩, -, X440, ⟨Lc440, hQ440, l440, y440, z440⟩, st440⟩ := Jvm.LawKit.callS X426 hx (y := (⟨"com/example/relent/relent/WholeNumbersUnsignedPinLaw", "isDigit", "(C)Z"⟩ : MethodName)) hown (mvT hZ (hw _ (List.mem_of_getElem? (i := 118) rfl))) (mvT hZ (hw _ (List.mem_of_getElem? (i := 119) rfl))) (mvT hZ (hw _ (List.mem_of_getElem? (i := 2) rfl))) (mvT hZ (hw _ (List.mem_of_getElem? (i := 120) rfl))) (by decide) (backOf (W := 0) (rm21 l Z a0 hw [] ca T412.heap n0 Z419) hZ (hw _ (List.mem_of_getElem? (i := 120) rfl)) (hw _ (List.mem_of_getElem? (i := 2) rfl)) (by decide) (by decide)) (g := (mkF m 706 #[.val (.long va), .second, .val (.int ra), .val (.int rb), .val (.int rx), .val (.int se), .val (.int ln), .val (.int ub), .val (.int qq), .val (.int ca), .val (.int cb), .val (.int cx), .val (.long mm), .second, .val (.ref ac), .val (.ref ol), .unset, .unset, .unset, .unset, .unset, .unset, .unset, .unset, .unset, .unset, .unset] [(.int ca)])) rfl (by rw [hml]; rfl) (argsL := [(.int ca)]) (rest := []) (lenOf pd_18 rfl) rfl (by show 2 * 0 + _ ≤ _; exact Nat.le_of_eq rfl) (hb hby at_706) (fun _ _ => ⟨rfl, hE426, (by decide : 28 + 0 ≤ _), (by decide : 445 + 0 ≤ _)⟩)
          dsimp only [Pt.U, Pt.locs, Pt.cells, Pt.slots] at X440 l440 y440 z440 st440 hQ440
          subst l440 y440 z440
          obtain ⟨rfl, N440q, hE440⟩ := hQ440
          have N440 := Fr.app N426 N440q
          have pre441 : ∀ t, Steps p.tables e below (T440.setTop (mkF m 709 #[.val (.long va), .second, .val (.int ra), .val (.int rb), .val (.int rx), .val (.int se), .val (.int ln), .val (.int ub), .val (.int qq), .val (.int ca), .val (.int cb), .val (.int cx), .val (.long mm), .second, .val (.ref ac), .val (.ref ol), .unset, .unset, .unset, .unset, .unset, .unset, .unset, .unset, .unset, .unset, .unset] [(.int (fn21 ca))])) t → Steps p.tables e below (s₁.setTop (entryFrame m #[(.long va), (.int ra), (.int rb), (.int rx), (.int se)] maxLocals)) t := by
            intro t kt
            refine pre430 _ ?_
            show Steps p.tables e below (T426.setTop (mkF m 701 #[.val (.long va), .second, .val (.int ra), .val (.int rb), .val (.int rx), .val (.int se), .val (.int ln), .val (.int ub), .val (.int qq), .val (.int ca), .val (.int cb), .val (.int cx), .val (.long mm), .second, .val (.ref ac), .val (.ref ol), .unset, .unset, .unset, .unset, .unset, .unset, .unset, .unset, .unset, .unset, .unset] [(.int (1 : Int32)), (.int ln)])) _
            refine XS.icmpNo X426.here hx rfl (hb hby at_701) rfl (XT.ii_eq_f hc701_431) ?_
            refine XS.iload X426.here hx rfl (hb hby at_704) rfl ?_
            show Steps p.tables e below (T426.setTop (mkF m 706 #[.val (.long va), .second, .val (.int ra), .val (.int rb), .val (.int rx), .val (.int se), .val (.int ln), .val (.int ub), .val (.int qq), .val (.int ca), .val (.int cb), .val (.int cx), .val (.long mm), .second, .val (.ref ac), .val (.ref ol), .unset, .unset, .unset, .unset, .unset, .unset, .unset, .unset, .unset, .unset, .unset] [(.int ca)])) _
            refine st440 _ ?_
            exact kt
          by_cases hc709_442 : (fn21 ca) = (0 : Int32)
          · skip
            have pre443 : ∀ t, Steps p.tables e below (T440.setTop (mkF m 730 #[.val (.long va), .second, .val (.int ra), .val (.int rb), .val (.int rx), .val (.int se), .val (.int ln), .val (.int ub), .val (.int qq), .val (.int ca), .val (.int cb), .val (.int cx), .val (.long mm), .second, .val (.ref ac), .val (.ref ol), .unset, .unset, .unset, .unset, .unset, .unset, .unset, .unset, .unset, .unset, .unset] [(.int (0 : Int32))])) t → Steps p.tables e below (s₁.setTop (entryFrame m #[(.long va), (.int ra), (.int rb), (.int rx), (.int se)] maxLocals)) t := by
              intro t kt
              refine pre441 _ ?_
              show Steps p.tables e below (T440.setTop (mkF m 709 #[.val (.long va), .second, .val (.int ra), .val (.int rb), .val (.int rx), .val (.int se), .val (.int ln), .val (.int ub), .val (.int qq), .val (.int ca), .val (.int cb), .val (.int cx), .val (.long mm), .second, .val (.ref ac), .val (.ref ol), .unset, .unset, .unset, .unset, .unset, .unset, .unset, .unset, .unset, .unset, .unset] [(.int (fn21 ca))])) _
              refine XS.ifYes X440.here hx rfl (pc0 := 709) (pc' := 729) rfl (hb hby at_709) rfl (XT.i0_eq_t hc709_442) (by decide) (by decide) ?_
              refine XS.iconst X440.here hx rfl (hb hby at_729) ?_
              exact kt
            have eJ : T440.heap = T412.heap := hE440
            exact ⟨T440, _, (0 : Int32), X440.mono (by decide) (by decide), N440, (by rw [eJ]; exact Z419), (by rw [eJ]; exact K420), (by rw [eJ]; exact K421), (by rw [eJ]; exact f413), (by rw [eJ]; exact f414), (by rw [eJ]; exact f415), (by rw [eJ]; exact f416), (by rw [eJ]; exact f417), (by rw [eJ]; exact f418), (by rw [eJ]; exact p412_E), (by rw [eJ]; exact p412_i), (by rw [eJ]; exact p412_v), (by unfold own_VD; rw [if_neg hc687_424, if_neg hc695_428, if_neg hc701_431, if_pos hc709_442]), fun t kt => pre443 _ kt⟩
          · skip
            have pre444 : ∀ t, Steps p.tables e below (T440.setTop (mkF m 714 #[.val (.long va), .second, .val (.int ra), .val (.int rb), .val (.int rx), .val (.int se), .val (.int ln), .val (.int ub), .val (.int qq), .val (.int ca), .val (.int cb), .val (.int cx), .val (.long mm), .second, .val (.ref ac), .val (.ref ol), .unset, .unset, .unset, .unset, .unset, .unset, .unset, .unset, .unset, .unset, .unset] [(.int ub)])) t → Steps p.tables e below (s₁.setTop (entryFrame m #[(.long va), (.int ra), (.int rb), (.int rx), (.int se)] maxLocals)) t := by
              intro t kt
              refine pre441 _ ?_
              show Steps p.tables e below (T440.setTop (mkF m 709 #[.val (.long va), .second, .val (.int ra), .val (.int rb), .val (.int rx), .val (.int se), .val (.int ln), .val (.int ub), .val (.int qq), .val (.int ca), .val (.int cb), .val (.int cx), .val (.long mm), .second, .val (.ref ac), .val (.ref ol), .unset, .unset, .unset, .unset, .unset, .unset, .unset, .unset, .unset, .unset, .unset] [(.int (fn21 ca))])) _
              refine XS.ifNo X440.here hx rfl (hb hby at_709) rfl (XT.i0_eq_f hc709_442) ?_
              refine XS.iload X440.here hx rfl (hb hby at_712) rfl ?_
              exact kt
            by_cases hc714_445 : ub = (0 : Int32)
            · skip
              have pre446 : ∀ t, Steps p.tables e below (T440.setTop (mkF m 730 #[.val (.long va), .second, .val (.int ra), .val (.int rb), .val (.int rx), .val (.int se), .val (.int ln), .val (.int ub), .val (.int qq), .val (.int ca), .val (.int cb), .val (.int cx), .val (.long mm), .second, .val (.ref ac), .val (.ref ol), .unset, .unset, .unset, .unset, .unset, .unset, .unset, .unset, .unset, .unset, .unset] [(.int (1 : Int32))])) t → Steps p.tables e below (s₁.setTop (entryFrame m #[(.long va), (.int ra), (.int rb), (.int rx), (.int se)] maxLocals)) t := by
                intro t kt
                refine pre444 _ ?_
                show Steps p.tables e below (T440.setTop (mkF m 714 #[.val (.long va), .second, .val (.int ra), .val (.int rb), .val (.int rx), .val (.int se), .val (.int ln), .val (.int ub), .val (.int qq), .val (.int ca), .val (.int cb), .val (.int cx), .val (.long mm), .second, .val (.ref ac), .val (.ref ol), .unset, .unset, .unset, .unset, .unset, .unset, .unset, .unset, .unset, .unset, .unset] [(.int ub)])) _
                refine XS.ifYes X440.here hx rfl (pc0 := 714) (pc' := 725) rfl (hb hby at_714) rfl (XT.i0_eq_t hc714_445) (by decide) (by decide) ?_
                refine XS.iconst X440.here hx rfl (hb hby at_725) ?_
                refine XS.goto X440.here hx rfl (pc0 := 726) (pc' := 730) rfl (hb hby at_726) (by decide) (by decide) ?_
                exact kt
              have eJ : T440.heap = T412.heap := hE440
              exact ⟨T440, _, (1 : Int32), X440.mono (by decide) (by decide), N440, (by rw [eJ]; exact Z419), (by rw [eJ]; exact K420), (by rw [eJ]; exact K421), (by rw [eJ]; exact f413), (by rw [eJ]; exact f414), (by rw [eJ]; exact f415), (by rw [eJ]; exact f416), (by rw [eJ]; exact f417), (by rw [eJ]; exact f418), (by rw [eJ]; exact p412_E), (by rw [eJ]; exact p412_i), (by rw [eJ]; exact p412_v), (by unfold own_VD; rw [if_neg hc687_424, if_neg hc695_428, if_neg hc701_431, if_neg hc709_442, if_pos hc714_445]), fun t kt => pre446 _ kt⟩
            · skip
              obtain ⟨_, _, ⟨T447, L447, k447, n447⟩, -, X447, ⟨Lc447, hQ447, l447, y447, z447⟩, st447⟩ := Jvm.LawKit.callS X440 hx (y := (⟨"com/example/relent/relent/WholeNumbersUnsignedPinLaw", "isDigit", "(C)Z"⟩ : MethodName)) hown (mvT hZ (hw _ (List.mem_of_getElem? (i := 118) rfl))) (mvT hZ (hw _ (List.mem_of_getElem? (i := 119) rfl))) (mvT hZ (hw _ (List.mem_of_getElem? (i := 2) rfl))) (mvT hZ (hw _ (List.mem_of_getElem? (i := 120) rfl))) (by decide) (backOf (W := 0) (rm21 l Z a0 hw [] cb T412.heap n0 Z419) hZ (hw _ (List.mem_of_getElem? (i := 120) rfl)) (hw _ (List.mem_of_getElem? (i := 2) rfl)) (by decide) (by decide)) (g := (mkF m 719 #[.val (.long va), .second, .val (.int ra), .val (.int rb), .val (.int rx), .val (.int se), .val (.int ln), .val (.int ub), .val (.int qq), .val (.int ca), .val (.int cb), .val (.int cx), .val (.long mm), .second, .val (.ref ac), .val (.ref ol), .unset, .unset, .unset, .unset, .unset, .unset, .unset, .unset, .unset, .unset, .unset] [(.int cb)])) rfl (by rw [hml]; rfl) (argsL := [(.int cb)]) (rest := []) (lenOf pd_18 rfl) rfl (by show 2 * 0 + _ ≤ _; exact Nat.le_of_eq rfl) (hb hby at_719) (fun _ _ => ⟨rfl, hE440, (by decide : 28 + 0 ≤ _), (by decide : 445 + 0 ≤ _)⟩)
              dsimp only [Pt.U, Pt.locs, Pt.cells, Pt.slots] at X447 l447 y447 z447 st447 hQ447
              subst l447 y447 z447
              obtain ⟨rfl, N447q, hE447⟩ := hQ447
              have N447 := Fr.app N440 N447q
              have pre448 : ∀ t, Steps p.tables e below (T447.setTop (mkF m 722 #[.val (.long va), .second, .val (.int ra), .val (.int rb), .val (.int rx), .val (.int se), .val (.int ln), .val (.int ub), .val (.int qq), .val (.int ca), .val (.int cb), .val (.int cx), .val (.long mm), .second, .val (.ref ac), .val (.ref ol), .unset, .unset, .unset, .unset, .unset, .unset, .unset, .unset, .unset, .unset, .unset] [(.int (fn21 cb))])) t → Steps p.tables e below (s₁.setTop (entryFrame m #[(.long va), (.int ra), (.int rb), (.int rx), (.int se)] maxLocals)) t := by
                intro t kt
                refine pre444 _ ?_
                show Steps p.tables e below (T440.setTop (mkF m 714 #[.val (.long va), .second, .val (.int ra), .val (.int rb), .val (.int rx), .val (.int se), .val (.int ln), .val (.int ub), .val (.int qq), .val (.int ca), .val (.int cb), .val (.int cx), .val (.long mm), .second, .val (.ref ac), .val (.ref ol), .unset, .unset, .unset, .unset, .unset, .unset, .unset, .unset, .unset, .unset, .unset] [(.int ub)])) _
                refine XS.ifNo X440.here hx rfl (hb hby at_714) rfl (XT.i0_eq_f hc714_445) ?_
                refine XS.iload X440.here hx rfl (hb hby at_717) rfl ?_
                show Steps p.tables e below (T440.setTop (mkF m 719 #[.val (.long va), .second, .val (.int ra), .val (.int rb), .val (.int rx), .val (.int se), .val (.int ln), .val (.int ub), .val (.int qq), .val (.int ca), .val (.int cb), .val (.int cx), .val (.long mm), .second, .val (.ref ac), .val (.ref ol), .unset, .unset, .unset, .unset, .unset, .unset, .unset, .unset, .unset, .unset, .unset] [(.int cb)])) _
                refine st447 _ ?_
                exact kt
              by_cases hc722_449 : (fn21 cb) = (0 : Int32)
              · skip
                have pre450 : ∀ t, Steps p.tables e below (T447.setTop (mkF m 730 #[.val (.long va), .second, .val (.int ra), .val (.int rb), .val (.int rx), .val (.int se), .val (.int ln), .val (.int ub), .val (.int qq), .val (.int ca), .val (.int cb), .val (.int cx), .val (.long mm), .second, .val (.ref ac), .val (.ref ol), .unset, .unset, .unset, .unset, .unset, .unset, .unset, .unset, .unset, .unset, .unset] [(.int (0 : Int32))])) t → Steps p.tables e below (s₁.setTop (entryFrame m #[(.long va), (.int ra), (.int rb), (.int rx), (.int se)] maxLocals)) t := by
                  intro t kt
                  refine pre448 _ ?_
                  show Steps p.tables e below (T447.setTop (mkF m 722 #[.val (.long va), .second, .val (.int ra), .val (.int rb), .val (.int rx), .val (.int se), .val (.int ln), .val (.int ub), .val (.int qq), .val (.int ca), .val (.int cb), .val (.int cx), .val (.long mm), .second, .val (.ref ac), .val (.ref ol), .unset, .unset, .unset, .unset, .unset, .unset, .unset, .unset, .unset, .unset, .unset] [(.int (fn21 cb))])) _
                  refine XS.ifYes X447.here hx rfl (pc0 := 722) (pc' := 729) rfl (hb hby at_722) rfl (XT.i0_eq_t hc722_449) (by decide) (by decide) ?_
                  refine XS.iconst X447.here hx rfl (hb hby at_729) ?_
                  exact kt
                have eJ : T447.heap = T412.heap := hE447
                exact ⟨T447, _, (0 : Int32), X447.mono (by decide) (by decide), N447, (by rw [eJ]; exact Z419), (by rw [eJ]; exact K420), (by rw [eJ]; exact K421), (by rw [eJ]; exact f413), (by rw [eJ]; exact f414), (by rw [eJ]; exact f415), (by rw [eJ]; exact f416), (by rw [eJ]; exact f417), (by rw [eJ]; exact f418), (by rw [eJ]; exact p412_E), (by rw [eJ]; exact p412_i), (by rw [eJ]; exact p412_v), (by unfold own_VD; rw [if_neg hc687_424, if_neg hc695_428, if_neg hc701_431, if_neg hc709_442, if_neg hc714_445, if_pos hc722_449]), fun t kt => pre450 _ kt⟩
              · skip
                have pre451 : ∀ t, Steps p.tables e below (T447.setTop (mkF m 730 #[.val (.long va), .second, .val (.int ra), .val (.int rb), .val (.int rx), .val (.int se), .val (.int ln), .val (.int ub), .val (.int qq), .val (.int ca), .val (.int cb), .val (.int cx), .val (.long mm), .second, .val (.ref ac), .val (.ref ol), .unset, .unset, .unset, .unset, .unset, .unset, .unset, .unset, .unset, .unset, .unset] [(.int (1 : Int32))])) t → Steps p.tables e below (s₁.setTop (entryFrame m #[(.long va), (.int ra), (.int rb), (.int rx), (.int se)] maxLocals)) t := by
                  intro t kt
                  refine pre448 _ ?_
                  show Steps p.tables e below (T447.setTop (mkF m 722 #[.val (.long va), .second, .val (.int ra), .val (.int rb), .val (.int rx), .val (.int se), .val (.int ln), .val (.int ub), .val (.int qq), .val (.int ca), .val (.int cb), .val (.int cx), .val (.long mm), .second, .val (.ref ac), .val (.ref ol), .unset, .unset, .unset, .unset, .unset, .unset, .unset, .unset, .unset, .unset, .unset] [(.int (fn21 cb))])) _
                  refine XS.ifNo X447.here hx rfl (hb hby at_722) rfl (XT.i0_eq_f hc722_449) ?_
                  refine XS.iconst X447.here hx rfl (hb hby at_725) ?_
                  refine XS.goto X447.here hx rfl (pc0 := 726) (pc' := 730) rfl (hb hby at_726) (by decide) (by decide) ?_
                  exact kt
                have eJ : T447.heap = T412.heap := hE447
                exact ⟨T447, _, (1 : Int32), X447.mono (by decide) (by decide), N447, (by rw [eJ]; exact Z419), (by rw [eJ]; exact K420), (by rw [eJ]; exact K421), (by rw [eJ]; exact f413), (by rw [eJ]; exact f414), (by rw [eJ]; exact f415), (by rw [eJ]; exact f416), (by rw [eJ]; exact f417), (by rw [eJ]; exact f418), (by rw [eJ]; exact p412_E), (by rw [eJ]; exact p412_i), (by rw [eJ]; exact p412_v), (by unfold own_VD; rw [if_neg hc687_424, if_neg hc695_428, if_neg hc701_431, if_neg hc709_442, if_neg hc714_445, if_neg hc722_449]), fun t kt => pre451 _ kt⟩
  have hvd := hp423_0
  have pre452 : ∀ t, Steps p.tables e below (T423.setTop (mkF m 734 #[.val (.long va), .second, .val (.int ra), .val (.int rb), .val (.int rx), .val (.int se), .val (.int ln), .val (.int ub), .val (.int qq), .val (.int ca), .val (.int cb), .val (.int cx), .val (.long mm), .second, .val (.ref ac), .val (.ref ol), .val (.int vd), .unset, .unset, .unset, .unset, .unset, .unset, .unset, .unset, .unset, .unset] [(.int vd)])) t → Steps p.tables e below (s₁.setTop (entryFrame m #[(.long va), (.int ra), (.int rb), (.int rx), (.int se)] maxLocals)) t := by
    intro t kt
    refine pre423 _ ?_
    show Steps p.tables e below (T423.setTop (mkF m 730 #[.val (.long va), .second, .val (.int ra), .val (.int rb), .val (.int rx), .val (.int se), .val (.int ln), .val (.int ub), .val (.int qq), .val (.int ca), .val (.int cb), .val (.int cx), .val (.long mm), .second, .val (.ref ac), .val (.ref ol), .unset, .unset, .unset, .unset, .unset, .unset, .unset, .unset, .unset, .unset, .unset] [(.int vd)])) _
    refine XS.istore X423.here hx rfl (hb hby at_730) rfl (l' := #[.val (.long va), .second, .val (.int ra), .val (.int rb), .val (.int rx), .val (.int se), .val (.int ln), .val (.int ub), .val (.int qq), .val (.int ca), .val (.int cb), .val (.int cx), .val (.long mm), .second, .val (.ref ac), .val (.ref ol), .val (.int vd), .unset, .unset, .unset, .unset, .unset, .unset, .unset, .unset, .unset, .unset]) rfl ?_
    refine XS.iload X423.here hx rfl (hb hby at_732) rfl ?_
    exact kt
  by_cases hc734_453 : vd = (0 : Int32)
  · skip
    obtain ⟨cq454, kq454, q454a, q454b, q454c⟩ := isOf hZ rfl hf423_6
    obtain ⟨_, _, ⟨T454, L454, k454, n454⟩, -, X454, ⟨Lc454, hQ454, l454, y454, z454⟩, st454⟩ := X423.virtualBack hx (y := (⟨"java/util/OptionalLong", "isPresent", "()Z"⟩ : MethodName)) (z := (⟨"java/util/OptionalLong", "isPresent", "()Z"⟩ : MethodName)) hown (mvT hZ (hw _ (List.mem_of_getElem? (i := 121) rfl))) (mvT hZ (hw _ (List.mem_of_getElem? (i := 122) rfl))) (notFace_of_selects (args := #[]) (mvT hZ (hw _ (List.mem_of_getElem? (i := 124) rfl)))) (mvT hZ (hw _ (List.mem_of_getElem? (i := 124) rfl))) (mvT hZ (hw _ (List.mem_of_getElem? (i := 123) rfl))) (by decide) (backOf (W := 0) (rm22 l Z a0 hw [] ol (own_res fcc nn).1 (own_res fcc nn).2 T423.heap n0 Z423 hf423_6 hf423_7 hf423_8) hZ (hw _ (List.mem_of_getElem? (i := 125) rfl)) (hw _ (List.mem_of_getElem? (i := 105) rfl)) (by decide) (by decide)) q454a q454c (g := (mkF m 739 #[.val (.long va), .second, .val (.int ra), .val (.int rb), .val (.int rx), .val (.int se), .val (.int ln), .val (.int ub), .val (.int qq), .val (.int ca), .val (.int cb), .val (.int cx), .val (.long mm), .second, .val (.ref ac), .val (.ref ol), .val (.int vd), .unset, .unset, .unset, .unset, .unset, .unset, .unset, .unset, .unset, .unset] [(.ref ol)])) rfl (by rw [hml]; rfl) (Steps.refl _) (argsL := []) (rest := []) (lenOf pd_8 rfl) rfl (by show 2 * 0 + _ ≤ _; exact Nat.le_of_eq rfl) (hb hby at_739) (fun _ _ => ⟨rfl, rfl, (by decide : 28 + 0 ≤ _), (by decide : 445 + 0 ≤ _)⟩)
    dsimp only [Pt.U, Pt.locs, Pt.cells, Pt.slots] at X454 l454 y454 z454 st454 hQ454
    subst l454 y454 z454
    obtain ⟨rfl, N454q, hE454⟩ := hQ454
    have N454 := Fr.app N423 N454q
    have pre455 : ∀ t, Steps p.tables e below (T454.setTop (mkF m 750 #[.val (.long va), .second, .val (.int ra), .val (.int rb), .val (.int rx), .val (.int se), .val (.int ln), .val (.int ub), .val (.int qq), .val (.int ca), .val (.int cb), .val (.int cx), .val (.long mm), .second, .val (.ref ac), .val (.ref ol), .val (.int vd), .unset, .unset, .unset, .unset, .unset, .unset, .unset, .unset, .unset, .unset] [(.int (1 : Int32))])) t → Steps p.tables e below (s₁.setTop (entryFrame m #[(.long va), (.int ra), (.int rb), (.int rx), (.int se)] maxLocals)) t := by
      intro t kt
      refine pre452 _ ?_
      show Steps p.tables e below (T423.setTop (mkF m 734 #[.val (.long va), .second, .val (.int ra), .val (.int rb), .val (.int rx), .val (.int se), .val (.int ln), .val (.int ub), .val (.int qq), .val (.int ca), .val (.int cb), .val (.int cx), .val (.long mm), .second, .val (.ref ac), .val (.ref ol), .val (.int vd), .unset, .unset, .unset, .unset, .unset, .unset, .unset, .unset, .unset, .unset] [(.int vd)])) _
      refine XS.ifNo X423.here hx rfl (hb hby at_734) rfl (XT.i0_ne_f hc734_453) ?_
      refine XS.aload X423.here hx rfl (hb hby at_737) rfl rfl ?_
      show Steps p.tables e below (T423.setTop (mkF m 739 #[.val (.long va), .second, .val (.int ra), .val (.int rb), .val (.int rx), .val (.int se), .val (.int ln), .val (.int ub), .val (.int qq), .val (.int ca), .val (.int cb), .val (.int cx), .val (.long mm), .second, .val (.ref ac), .val (.ref ol), .val (.int vd), .unset, .unset, .unset, .unset, .unset, .unset, .unset, .unset, .unset, .unset] [(.ref ol)])) _
      refine st454.trans ?_
      show Steps p.tables e below (T454.setTop (mkF m 742 #[.val (.long va), .second, .val (.int ra), .val (.int rb), .val (.int rx), .val (.int se), .val (.int ln), .val (.int ub), .val (.int qq), .val (.int ca), .val (.int cb), .val (.int cx), .val (.long mm), .second, .val (.ref ac), .val (.ref ol), .val (.int vd), .unset, .unset, .unset, .unset, .unset, .unset, .unset, .unset, .unset, .unset] [(.int (nar .boolean (own_res fcc nn).1))])) _
      refine XS.ifNo X454.here hx rfl (hb hby at_742) rfl (XT.i0_ne_f (own_nb0 (own_gone hln hQ hO hvd hc734_453))) ?_
      refine XS.iconst X454.here hx rfl (hb hby at_745) ?_
      refine XS.goto X454.here hx rfl (pc0 := 746) (pc' := 750) rfl (hb hby at_746) (by decide) (by decide) ?_
      exact kt
    have CK456 := CHr.keep (Z := Z) (EL := EL1) KK423 sf0 CC400.1
    obtain ⟨fs, hr, hrun, hended, hEnd⟩ := X454.leaveW hS (by rw [hE454]; exact Nat.le_trans hk KK423.1) (v := some (.int (1 : Int32))) (fun h => by rw [Bd.returns] at h; cases h)
    have CT := CK456.trans (CHv.at (s := s) (vm0 := T400.vm) X454 hZ hEL CK456.1)
    refine ⟨_, _, pre455 _ ?_, hrun, hended, _, _, rfl, ?_, ?_, hEnd.1, hEnd.2.1, hEnd.2.2.1, hEnd.2.2.2.mono (by decide) (by decide)⟩
    · show Steps p.tables e below (T454.setTop (mkF m 750 #[.val (.long va), .second, .val (.int ra), .val (.int rb), .val (.int rx), .val (.int se), .val (.int ln), .val (.int ub), .val (.int qq), .val (.int ca), .val (.int cb), .val (.int cx), .val (.long mm), .second, .val (.ref ac), .val (.ref ol), .val (.int vd), .unset, .unset, .unset, .unset, .unset, .unset, .unset, .unset, .unset, .unset] [(.int (1 : Int32))])) _
      exact retN X454 hx (t := .boolean) Bd.returns (by simp) (hb hby at_750) hr
    · show Q0 Z va ra rb rx se cs fmv em h0 n0 _ T454.heap _
      rw [hE454]
      exact ⟨rfl, N454⟩
    · rw [hh]
      show CHr Z EL1 s.vm h0 T454.vm T454.heap
      rw [hE454]
      exact CR411.trans CT
  · skip
    have pre457 : ∀ t, Steps p.tables e below (T423.setTop (mkF m 751 #[.val (.long va), .second, .val (.int ra), .val (.int rb), .val (.int rx), .val (.int se), .val (.int ln), .val (.int ub), .val (.int qq), .val (.int ca), .val (.int cb), .val (.int cx), .val (.long mm), .second, .val (.ref ac), .val (.ref ol), .val (.int vd), .unset, .unset, .unset, .unset, .unset, .unset, .unset, .unset, .unset, .unset] [])) t → Steps p.tables e below (s₁.setTop (entryFrame m #[(.long va), (.int ra), (.int rb), (.int rx), (.int se)] maxLocals)) t := by
      intro t kt
      refine pre452 _ ?_
      show Steps p.tables e below (T423.setTop (mkF m 734 #[.val (.long va), .second, .val (.int ra), .val (.int rb), .val (.int rx), .val (.int se), .val (.int ln), .val (.int ub), .val (.int qq), .val (.int ca), .val (.int cb), .val (.int cx), .val (.long mm), .second, .val (.ref ac), .val (.ref ol), .val (.int vd), .unset, .unset, .unset, .unset, .unset, .unset, .unset, .unset, .unset, .unset] [(.int vd)])) _
      refine XS.ifYes X423.here hx rfl (pc0 := 734) (pc' := 751) rfl (hb hby at_734) rfl (XT.i0_ne_t hc734_453) (by decide) (by decide) ?_
      exact kt
    obtain ⟨hres, hG⟩ := own_good hln hM hQ hO hvd hc734_453
    have hip := own_z1 hres
    have pre458 : ∀ t, Steps p.tables e below (T423.setTop (mkF m 756 #[.val (.long va), .second, .val (.int ra), .val (.int rb), .val (.int rx), .val (.int se), .val (.int ln), .val (.int ub), .val (.int qq), .val (.int ca), .val (.int cb), .val (.int cx), .val (.long mm), .second, .val (.ref ac), .val (.ref ol), .val (.int vd), .unset, .unset, .unset, .unset, .unset, .unset, .unset, .unset, .unset, .unset] [(.int (cx - (48 : Int32)))])) t → Steps p.tables e below (s₁.setTop (entryFrame m #[(.long va), (.int ra), (.int rb), (.int rx), (.int se)] maxLocals)) t := by
      intro t kt
      refine pre457 _ ?_
      refine XS.iload X423.here hx rfl (hb hby at_751) rfl ?_
      refine XS.bipush X423.here hx rfl (hb hby at_753) ?_
      refine XS.isub X423.here hx rfl (hb hby at_755) rfl ?_
      exact kt
    obtain ⟨xd, h_xd⟩ : ∃ z : Int32, z = (cx - (48 : Int32)) := ⟨_, rfl⟩
    have pre459 : ∀ t, Steps p.tables e below (T423.setTop (mkF m 756 #[.val (.long va), .second, .val (.int ra), .val (.int rb), .val (.int rx), .val (.int se), .val (.int ln), .val (.int ub), .val (.int qq), .val (.int ca), .val (.int cb), .val (.int cx), .val (.long mm), .second, .val (.ref ac), .val (.ref ol), .val (.int vd), .unset, .unset, .unset, .unset, .unset, .unset, .unset, .unset, .unset, .unset] [(.int xd)])) t → Steps p.tables e below (s₁.setTop (entryFrame m #[(.long va), (.int ra), (.int rb), (.int rx), (.int se)] maxLocals)) t := by
      intro t kt
      rw [h_xd] at kt
      exact pre458 _ kt
    have pre460 : ∀ t, Steps p.tables e below (T423.setTop (mkF m 761 #[.val (.long va), .second, .val (.int ra), .val (.int rb), .val (.int rx), .val (.int se), .val (.int ln), .val (.int ub), .val (.int qq), .val (.int ca), .val (.int cb), .val (.int cx), .val (.long mm), .second, .val (.ref ac), .val (.ref ol), .val (.int vd), .unset, .unset, .val (.int xd), .unset, .unset, .unset, .unset, .unset, .unset, .unset] [(.int (1 : Int32)), (.int ln)])) t → Steps p.tables e below (s₁.setTop (entryFrame m #[(.long va), (.int ra), (.int rb), (.int rx), (.int se)] maxLocals)) t := by
      intro t kt
      refine pre459 _ ?_
      show Steps p.tables e below (T423.setTop (mkF m 756 #[.val (.long va), .second, .val (.int ra), .val (.int rb), .val (.int rx), .val (.int se), .val (.int ln), .val (.int ub), .val (.int qq), .val (.int ca), .val (.int cb), .val (.int cx), .val (.long mm), .second, .val (.ref ac), .val (.ref ol), .val (.int vd), .unset, .unset, .unset, .unset, .unset, .unset, .unset, .unset, .unset, .unset] [(.int xd)])) _
      refine XS.istore X423.here hx rfl (hb hby at_756) rfl (l' := #[.val (.long va), .second, .val (.int ra), .val (.int rb), .val (.int rx), .val (.int se), .val (.int ln), .val (.int ub), .val (.int qq), .val (.int ca), .val (.int cb), .val (.int cx), .val (.long mm), .second, .val (.ref ac), .val (.ref ol), .val (.int vd), .unset, .unset, .val (.int xd), .unset, .unset, .unset, .unset, .unset, .unset, .unset]) rfl ?_
      refine XS.iload X423.here hx rfl (hb hby at_758) rfl ?_
      refine XS.iconst X423.here hx rfl (hb hby at_760) ?_
      exact kt
    by_cases hc761_461 : ln = (1 : Int32)
    · skip
      obtain ⟨cq462, kq462, q462a, q462b, q462c⟩ := isOf hZ rfl hf423_6
      obtain ⟨_, _, ⟨T462, L462, k462, n462⟩, -, X462, ⟨Lc462, hQ462, l462, y462, z462⟩, st462⟩ := X423.virtualBack hx (y := (⟨"java/util/OptionalLong", "isPresent", "()Z"⟩ : MethodName)) (z := (⟨"java/util/OptionalLong", "isPresent", "()Z"⟩ : MethodName)) hown (mvT hZ (hw _ (List.mem_of_getElem? (i := 121) rfl))) (mvT hZ (hw _ (List.mem_of_getElem? (i := 122) rfl))) (notFace_of_selects (args := #[]) (mvT hZ (hw _ (List.mem_of_getElem? (i := 124) rfl)))) (mvT hZ (hw _ (List.mem_of_getElem? (i := 124) rfl))) (mvT hZ (hw _ (List.mem_of_getElem? (i := 123) rfl))) (by decide) (backOf (W := 0) (rm22 l Z a0 hw [] ol (own_res fcc nn).1 (own_res fcc nn).2 T423.heap n0 Z423 hf423_6 hf423_7 hf423_8) hZ (hw _ (List.mem_of_getElem? (i := 125) rfl)) (hw _ (List.mem_of_getElem? (i := 105) rfl)) (by decide) (by decide)) q462a q462c (g := (mkF m 941 #[.val (.long va), .second, .val (.int ra), .val (.int rb), .val (.int rx), .val (.int se), .val (.int ln), .val (.int ub), .val (.int qq), .val (.int ca), .val (.int cb), .val (.int cx), .val (.long mm), .second, .val (.ref ac), .val (.ref ol), .val (.int vd), .val (.long (xd.toInt64)), .second, .val (.int xd), .unset, .unset, .unset, .unset, .unset, .unset, .unset] [(.ref ol)])) rfl (by rw [hml]; rfl) (Steps.refl _) (argsL := []) (rest := []) (lenOf pd_8 rfl) rfl (by show 2 * 0 + _ ≤ _; exact Nat.le_of_eq rfl) (hb hby at_941) (fun _ _ => ⟨rfl, rfl, (by decide : 28 + 0 ≤ _), (by decide : 445 + 0 ≤ _)⟩)
      dsimp only [Pt.U, Pt.locs, Pt.cells, Pt.slots] at X462 l462 y462 z462 st462 hQ462
      subst l462 y462 z462
      obtain ⟨rfl, N462q, hE462⟩ := hQ462
      have N462 := Fr.app N423 N462q
      obtain ⟨cq463, kq463, q463a, q463b, q463c⟩ := isOf hZ hE462 hf423_6
      obtain ⟨_, _, ⟨T463, L463, k463, n463⟩, -, X463, ⟨Lc463, hQ463, l463, y463, z463⟩, st463⟩ := X462.virtualBack hx (y := (⟨"java/util/OptionalLong", "getAsLong", "()J"⟩ : MethodName)) (z := (⟨"java/util/OptionalLong", "getAsLong", "()J"⟩ : MethodName)) hown (mvT hZ (hw _ (List.mem_of_getElem? (i := 126) rfl))) (mvT hZ (hw _ (List.mem_of_getElem? (i := 127) rfl))) (notFace_of_selects (args := #[]) (mvT hZ (hw _ (List.mem_of_getElem? (i := 129) rfl)))) (mvT hZ (hw _ (List.mem_of_getElem? (i := 129) rfl))) (mvT hZ (hw _ (List.mem_of_getElem? (i := 128) rfl))) (by decide) (backOf (W := 0) (rm23 l Z a0 hw [] ol (own_res fcc nn).1 (own_res fcc nn).2 T423.heap n0 Z423 hf423_6 hf423_7 hf423_8 hip) hZ (hw _ (List.mem_of_getElem? (i := 130) rfl)) (hw _ (List.mem_of_getElem? (i := 105) rfl)) (by decide) (by decide)) q463a q463c (g := (mkF m 949 #[.val (.long va), .second, .val (.int ra), .val (.int rb), .val (.int rx), .val (.int se), .val (.int ln), .val (.int ub), .val (.int qq), .val (.int ca), .val (.int cb), .val (.int cx), .val (.long mm), .second, .val (.ref ac), .val (.ref ol), .val (.int vd), .val (.long (xd.toInt64)), .second, .val (.int xd), .unset, .unset, .unset, .unset, .unset, .unset, .unset] [(.ref ol)])) rfl (by rw [hml]; rfl) (Steps.refl _) (argsL := []) (rest := []) (lenOf pd_19 rfl) rfl (by show 2 * 0 + _ ≤ _; exact Nat.le_of_eq rfl) (hb hby at_949) (fun _ _ => ⟨rfl, hE462, (by decide : 28 + 0 ≤ _), (by decide : 445 + 0 ≤ _)⟩)
      dsimp only [Pt.U, Pt.locs, Pt.cells, Pt.slots] at X463 l463 y463 z463 st463 hQ463
      subst l463 y463 z463
      obtain ⟨rfl, N463q, hE463⟩ := hQ463
      have N463 := Fr.app N462 N463q
      have pre464 : ∀ t, Steps p.tables e below (T463.setTop (mkF m 963 #[.val (.long va), .second, .val (.int ra), .val (.int rb), .val (.int rx), .val (.int se), .val (.int ln), .val (.int ub), .val (.int qq), .val (.int ca), .val (.int cb), .val (.int cx), .val (.long mm), .second, .val (.ref ac), .val (.ref ol), .val (.int vd), .val (.long (xd.toInt64)), .second, .val (.int xd), .unset, .unset, .unset, .unset, .unset, .unset, .unset] [(.int (1 : Int32))])) t → Steps p.tables e below (s₁.setTop (entryFrame m #[(.long va), (.int ra), (.int rb), (.int rx), (.int se)] maxLocals)) t := by
        intro t kt
        refine pre460 _ ?_
        show Steps p.tables e below (T423.setTop (mkF m 761 #[.val (.long va), .second, .val (.int ra), .val (.int rb), .val (.int rx), .val (.int se), .val (.int ln), .val (.int ub), .val (.int qq), .val (.int ca), .val (.int cb), .val (.int cx), .val (.long mm), .second, .val (.ref ac), .val (.ref ol), .val (.int vd), .unset, .unset, .val (.int xd), .unset, .unset, .unset, .unset, .unset, .unset, .unset] [(.int (1 : Int32)), (.int ln)])) _
        refine XS.icmpNo X423.here hx rfl (hb hby at_761) rfl (XT.ii_ne_f hc761_461) ?_
        refine XS.iload X423.here hx rfl (hb hby at_764) rfl ?_
        refine XS.i2l X423.here hx rfl (hb hby at_766) rfl ?_
        refine XS.lstore X423.here hx rfl (hb hby at_767) rfl (l' := #[.val (.long va), .second, .val (.int ra), .val (.int rb), .val (.int rx), .val (.int se), .val (.int ln), .val (.int ub), .val (.int qq), .val (.int ca), .val (.int cb), .val (.int cx), .val (.long mm), .second, .val (.ref ac), .val (.ref ol), .val (.int vd), .val (.long (xd.toInt64)), .second, .val (.int xd), .unset, .unset, .unset, .unset, .unset, .unset, .unset]) rfl ?_
        show Steps p.tables e below (T423.setTop (mkF m 769 #[.val (.long va), .second, .val (.int ra), .val (.int rb), .val (.int rx), .val (.int se), .val (.int ln), .val (.int ub), .val (.int qq), .val (.int ca), .val (.int cb), .val (.int cx), .val (.long mm), .second, .val (.ref ac), .val (.ref ol), .val (.int vd), .val (.long (xd.toInt64)), .second, .val (.int xd), .unset, .unset, .unset, .unset, .unset, .unset, .unset] [])) _
        refine XS.goto X423.here hx rfl (pc0 := 769) (pc' := 939) rfl (hb hby at_769) (by decide) (by decide) ?_
        refine XS.aload X423.here hx rfl (hb hby at_939) rfl rfl ?_
        show Steps p.tables e below (T423.setTop (mkF m 941 #[.val (.long va), .second, .val (.int ra), .val (.int rb), .val (.int rx), .val (.int se), .val (.int ln), .val (.int ub), .val (.int qq), .val (.int ca), .val (.int cb), .val (.int cx), .val (.long mm), .second, .val (.ref ac), .val (.ref ol), .val (.int vd), .val (.long (xd.toInt64)), .second, .val (.int xd), .unset, .unset, .unset, .unset, .unset, .unset, .unset] [(.ref ol)])) _
        refine st462.trans ?_
        show Steps p.tables e below (T462.setTop (mkF m 944 #[.val (.long va), .second, .val (.int ra), .val (.int rb), .val (.int rx), .val (.int se), .val (.int ln), .val (.int ub), .val (.int qq), .val (.int ca), .val (.int cb), .val (.int cx), .val (.long mm), .second, .val (.ref ac), .val (.ref ol), .val (.int vd), .val (.long (xd.toInt64)), .second, .val (.int xd), .unset, .unset, .unset, .unset, .unset, .unset, .unset] [(.int (nar .boolean (own_res fcc nn).1))])) _
        refine XS.ifNo X462.here hx rfl (hb hby at_944) rfl (XT.i0_eq_f (own_nb1 hres)) ?_
        refine XS.aload X462.here hx rfl (hb hby at_947) rfl rfl ?_
        show Steps p.tables e below (T462.setTop (mkF m 949 #[.val (.long va), .second, .val (.int ra), .val (.int rb), .val (.int rx), .val (.int se), .val (.int ln), .val (.int ub), .val (.int qq), .val (.int ca), .val (.int cb), .val (.int cx), .val (.long mm), .second, .val (.ref ac), .val (.ref ol), .val (.int vd), .val (.long (xd.toInt64)), .second, .val (.int xd), .unset, .unset, .unset, .unset, .unset, .unset, .unset] [(.ref ol)])) _
        refine st463.trans ?_
        refine XS.lload X463.here hx rfl (hb hby at_952) rfl ?_
        refine XT.lcmp X463.here hx rfl (hb hby at_954) rfl ?_
        show Steps p.tables e below (T463.setTop (mkF m 955 #[.val (.long va), .second, .val (.int ra), .val (.int rb), .val (.int rx), .val (.int se), .val (.int ln), .val (.int ub), .val (.int qq), .val (.int ca), .val (.int cb), .val (.int cx), .val (.long mm), .second, .val (.ref ac), .val (.ref ol), .val (.int vd), .val (.long (xd.toInt64)), .second, .val (.int xd), .unset, .unset, .unset, .unset, .unset, .unset, .unset] [(.int (XT.cmpL (own_res fcc nn).2 (xd.toInt64)))])) _
        refine XS.ifNo X463.here hx rfl (hb hby at_955) rfl (XT.ll_ne_f (own_l1 hG hln hc761_461 h_xd)) ?_
        refine XS.iconst X463.here hx rfl (hb hby at_958) ?_
        refine XS.goto X463.here hx rfl (pc0 := 959) (pc' := 963) rfl (hb hby at_959) (by decide) (by decide) ?_
        exact kt
      have CK465 := CHr.keep (Z := Z) (EL := EL1) KK423 sf0 CC400.1
      obtain ⟨fs, hr, hrun, hended, hEnd⟩ := X463.leaveW hS (by rw [hE463]; exact Nat.le_trans hk KK423.1) (v := some (.int (1 : Int32))) (fun h => by rw [Bd.returns] at h; cases h)
      have CT := CK465.trans (CHv.at (s := s) (vm0 := T400.vm) X463 hZ hEL CK465.1)
      refine ⟨_, _, pre464 _ ?_, hrun, hended, _, _, rfl, ?_, ?_, hEnd.1, hEnd.2.1, hEnd.2.2.1, hEnd.2.2.2.mono (by decide) (by decide)⟩
      · show Steps p.tables e below (T463.setTop (mkF m 963 #[.val (.long va), .second, .val (.int ra), .val (.int rb), .val (.int rx), .val (.int se), .val (.int ln), .val (.int ub), .val (.int qq), .val (.int ca), .val (.int cb), .val (.int cx), .val (.long mm), .second, .val (.ref ac), .val (.ref ol), .val (.int vd), .val (.long (xd.toInt64)), .second, .val (.int xd), .unset, .unset, .unset, .unset, .unset, .unset, .unset] [(.int (1 : Int32))])) _
        exact retN X463 hx (t := .boolean) Bd.returns (by simp) (hb hby at_963) hr
      · show Q0 Z va ra rb rx se cs fmv em h0 n0 _ T463.heap _
        rw [hE463]
        exact ⟨rfl, N463⟩
      · rw [hh]
        show CHr Z EL1 s.vm h0 T463.vm T463.heap
        rw [hE463]
        exact CR411.trans CT
    · skip
      have pre466 : ∀ t, Steps p.tables e below (T423.setTop (mkF m 777 #[.val (.long va), .second, .val (.int ra), .val (.int rb), .val (.int rx), .val (.int se), .val (.int ln), .val (.int ub), .val (.int qq), .val (.int ca), .val (.int cb), .val (.int cx), .val (.long mm), .second, .val (.ref ac), .val (.ref ol), .val (.int vd), .unset, .unset, .val (.int xd), .unset, .unset, .unset, .unset, .unset, .unset, .unset] [(.int (ca - (48 : Int32)))])) t → Steps p.tables e below (s₁.setTop (entryFrame m #[(.long va), (.int ra), (.int rb), (.int rx), (.int se)] maxLocals)) t := by
        intro t kt
        refine pre460 _ ?_
        show Steps p.tables e below (T423.setTop (mkF m 761 #[.val (.long va), .second, .val (.int ra), .val (.int rb), .val (.int rx), .val (.int se), .val (.int ln), .val (.int ub), .val (.int qq), .val (.int ca), .val (.int cb), .val (.int cx), .val (.long mm), .second, .val (.ref ac), .val (.ref ol), .val (.int vd), .unset, .unset, .val (.int xd), .unset, .unset, .unset, .unset, .unset, .unset, .unset] [(.int (1 : Int32)), (.int ln)])) _
        refine XS.icmpYes X423.here hx rfl (pc0 := 761) (pc' := 772) rfl (hb hby at_761) rfl (XT.ii_ne_t hc761_461) (by decide) (by decide) ?_
        refine XS.iload X423.here hx rfl (hb hby at_772) rfl ?_
        refine XS.bipush X423.here hx rfl (hb hby at_774) ?_
        refine XS.isub X423.here hx rfl (hb hby at_776) rfl ?_
        exact kt
      obtain ⟨ad, h_ad⟩ : ∃ z : Int32, z = (ca - (48 : Int32)) := ⟨_, rfl⟩
      have pre467 : ∀ t, Steps p.tables e below (T423.setTop (mkF m 777 #[.val (.long va), .second, .val (.int ra), .val (.int rb), .val (.int rx), .val (.int se), .val (.int ln), .val (.int ub), .val (.int qq), .val (.int ca), .val (.int cb), .val (.int cx), .val (.long mm), .second, .val (.ref ac), .val (.ref ol), .val (.int vd), .unset, .unset, .val (.int xd), .unset, .unset, .unset, .unset, .unset, .unset, .unset] [(.int ad)])) t → Steps p.tables e below (s₁.setTop (entryFrame m #[(.long va), (.int ra), (.int rb), (.int rx), (.int se)] maxLocals)) t := by
        intro t kt
        rw [h_ad] at kt
        exact pre466 _ kt
      have pre468 : ∀ t, Steps p.tables e below (T423.setTop (mkF m 785 #[.val (.long va), .second, .val (.int ra), .val (.int rb), .val (.int rx), .val (.int se), .val (.int ln), .val (.int ub), .val (.int qq), .val (.int ca), .val (.int cb), .val (.int cx), .val (.long mm), .second, .val (.ref ac), .val (.ref ol), .val (.int vd), .unset, .unset, .val (.int xd), .val (.int ad), .val (.long mm), .second, .unset, .unset, .unset, .unset] [(.int ub)])) t → Steps p.tables e below (s₁.setTop (entryFrame m #[(.long va), (.int ra), (.int rb), (.int rx), (.int se)] maxLocals)) t := by
        intro t kt
        refine pre467 _ ?_
        show Steps p.tables e below (T423.setTop (mkF m 777 #[.val (.long va), .second, .val (.int ra), .val (.int rb), .val (.int rx), .val (.int se), .val (.int ln), .val (.int ub), .val (.int qq), .val (.int ca), .val (.int cb), .val (.int cx), .val (.long mm), .second, .val (.ref ac), .val (.ref ol), .val (.int vd), .unset, .unset, .val (.int xd), .unset, .unset, .unset, .unset, .unset, .unset, .unset] [(.int ad)])) _
        refine XS.istore X423.here hx rfl (hb hby at_777) rfl (l' := #[.val (.long va), .second, .val (.int ra), .val (.int rb), .val (.int rx), .val (.int se), .val (.int ln), .val (.int ub), .val (.int qq), .val (.int ca), .val (.int cb), .val (.int cx), .val (.long mm), .second, .val (.ref ac), .val (.ref ol), .val (.int vd), .unset, .unset, .val (.int xd), .val (.int ad), .unset, .unset, .unset, .unset, .unset, .unset]) rfl ?_
        refine XS.lload X423.here hx rfl (hb hby at_779) rfl ?_
        refine XS.lstore X423.here hx rfl (hb hby at_781) rfl (l' := #[.val (.long va), .second, .val (.int ra), .val (.int rb), .val (.int rx), .val (.int se), .val (.int ln), .val (.int ub), .val (.int qq), .val (.int ca), .val (.int cb), .val (.int cx), .val (.long mm), .second, .val (.ref ac), .val (.ref ol), .val (.int vd), .unset, .unset, .val (.int xd), .val (.int ad), .val (.long mm), .second, .unset, .unset, .unset, .unset]) rfl ?_
        refine XS.iload X423.here hx rfl (hb hby at_783) rfl ?_
        exact kt
      by_cases hc785_469 : ub = (0 : Int32)
      · skip
        have pre470 : ∀ t, Steps p.tables e below (T423.setTop (mkF m 835 #[.val (.long va), .second, .val (.int ra), .val (.int rb), .val (.int rx), .val (.int se), .val (.int ln), .val (.int ub), .val (.int qq), .val (.int ca), .val (.int cb), .val (.int cx), .val (.long mm), .second, .val (.ref ac), .val (.ref ol), .val (.int vd), .unset, .unset, .val (.int xd), .val (.int ad), .val (.long mm), .second, .unset, .unset, .unset, .unset] [(.int (19 : Int32)), (.int ln)])) t → Steps p.tables e below (s₁.setTop (entryFrame m #[(.long va), (.int ra), (.int rb), (.int rx), (.int se)] maxLocals)) t := by
          intro t kt
          refine pre468 _ ?_
          show Steps p.tables e below (T423.setTop (mkF m 785 #[.val (.long va), .second, .val (.int ra), .val (.int rb), .val (.int rx), .val (.int se), .val (.int ln), .val (.int ub), .val (.int qq), .val (.int ca), .val (.int cb), .val (.int cx), .val (.long mm), .second, .val (.ref ac), .val (.ref ol), .val (.int vd), .unset, .unset, .val (.int xd), .val (.int ad), .val (.long mm), .second, .unset, .unset, .unset, .unset] [(.int ub)])) _
          refine XS.ifYes X423.here hx rfl (pc0 := 785) (pc' := 831) rfl (hb hby at_785) rfl (XT.i0_eq_t hc785_469) (by decide) (by decide) ?_
          refine XS.iload X423.here hx rfl (hb hby at_831) rfl ?_
          refine XS.bipush X423.here hx rfl (hb hby at_833) ?_
          exact kt
        by_cases hc835_471 : (19 : Int32) < ln
        · skip
          have pre472 : ∀ t, Steps p.tables e below (T423.setTop (mkF m 893 #[.val (.long va), .second, .val (.int ra), .val (.int rb), .val (.int rx), .val (.int se), .val (.int ln), .val (.int ub), .val (.int qq), .val (.int ca), .val (.int cb), .val (.int cx), .val (.long mm), .second, .val (.ref ac), .val (.ref ol), .val (.int vd), .unset, .unset, .val (.int xd), .val (.int ad), .val (.long mm), .second, .unset, .unset, .unset, .unset] [(.int ad)])) t → Steps p.tables e below (s₁.setTop (entryFrame m #[(.long va), (.int ra), (.int rb), (.int rx), (.int se)] maxLocals)) t := by
            intro t kt
            refine pre470 _ ?_
            show Steps p.tables e below (T423.setTop (mkF m 835 #[.val (.long va), .second, .val (.int ra), .val (.int rb), .val (.int rx), .val (.int se), .val (.int ln), .val (.int ub), .val (.int qq), .val (.int ca), .val (.int cb), .val (.int cx), .val (.long mm), .second, .val (.ref ac), .val (.ref ol), .val (.int vd), .unset, .unset, .val (.int xd), .val (.int ad), .val (.long mm), .second, .unset, .unset, .unset, .unset] [(.int (19 : Int32)), (.int ln)])) _
            refine XS.icmpYes X423.here hx rfl (pc0 := 835) (pc' := 891) rfl (hb hby at_835) rfl (XT.ii_gt_t hc835_471) (by decide) (by decide) ?_
            refine XS.iload X423.here hx rfl (hb hby at_891) rfl ?_
            exact kt
          by_cases hc893_473 : (0 : Int32) < ad
          · skip
            obtain ⟨cq474, kq474, q474a, q474b, q474c⟩ := isOf hZ rfl hf423_6
            obtain ⟨_, _, ⟨T474, L474, k474, n474⟩, -, X474, ⟨Lc474, hQ474, l474, y474, z474⟩, st474⟩ := X423.virtualBack hx (y := (⟨"java/util/OptionalLong", "isPresent", "()Z"⟩ : MethodName)) (z := (⟨"java/util/OptionalLong", "isPresent", "()Z"⟩ : MethodName)) hown (mvT hZ (hw _ (List.mem_of_getElem? (i := 121) rfl))) (mvT hZ (hw _ (List.mem_of_getElem? (i := 122) rfl))) (notFace_of_selects (args := #[]) (mvT hZ (hw _ (List.mem_of_getElem? (i := 124) rfl)))) (mvT hZ (hw _ (List.mem_of_getElem? (i := 124) rfl))) (mvT hZ (hw _ (List.mem_of_getElem? (i := 123) rfl))) (by decide) (backOf (W := 0) (rm22 l Z a0 hw [] ol (own_res fcc nn).1 (own_res fcc nn).2 T423.heap n0 Z423 hf423_6 hf423_7 hf423_8) hZ (hw _ (List.mem_of_getElem? (i := 125) rfl)) (hw _ (List.mem_of_getElem? (i := 105) rfl)) (by decide) (by decide)) q474a q474c (g := (mkF m 941 #[.val (.long va), .second, .val (.int ra), .val (.int rb), .val (.int rx), .val (.int se), .val (.int ln), .val (.int ub), .val (.int qq), .val (.int ca), .val (.int cb), .val (.int cx), .val (.long mm), .second, .val (.ref ac), .val (.ref ol), .val (.int vd), .val (.long (9223372036854775807 : Int64)), .second, .val (.int xd), .val (.int ad), .val (.long mm), .second, .unset, .unset, .unset, .unset] [(.ref ol)])) rfl (by rw [hml]; rfl) (Steps.refl _) (argsL := []) (rest := []) (lenOf pd_8 rfl) rfl (by show 2 * 0 + _ ≤ _; exact Nat.le_of_eq rfl) (hb hby at_941) (fun _ _ => ⟨rfl, rfl, (by decide : 28 + 0 ≤ _), (by decide : 445 + 0 ≤ _)⟩)
            dsimp only [Pt.U, Pt.locs, Pt.cells, Pt.slots] at X474 l474 y474 z474 st474 hQ474
            subst l474 y474 z474
            obtain ⟨rfl, N474q, hE474⟩ := hQ474
            have N474 := Fr.app N423 N474q
            obtain ⟨cq475, kq475, q475a, q475b, q475c⟩ := isOf hZ hE474 hf423_6
            obtain ⟨_, _, ⟨T475, L475, k475, n475⟩, -, X475, ⟨Lc475, hQ475, l475, y475, z475⟩, st475⟩ := X474.virtualBack hx (y := (⟨"java/util/OptionalLong", "getAsLong", "()J"⟩ : MethodName)) (z := (⟨"java/util/OptionalLong", "getAsLong", "()J"⟩ : MethodName)) hown (mvT hZ (hw _ (List.mem_of_getElem? (i := 126) rfl))) (mvT hZ (hw _ (List.mem_of_getElem? (i := 127) rfl))) (notFace_of_selects (args := #[]) (mvT hZ (hw _ (List.mem_of_getElem? (i := 129) rfl)))) (mvT hZ (hw _ (List.mem_of_getElem? (i := 129) rfl))) (mvT hZ (hw _ (List.mem_of_getElem? (i := 128) rfl))) (by decide) (backOf (W := 0) (rm23 l Z a0 hw [] ol (own_res fcc nn).1 (own_res fcc nn).2 T423.heap n0 Z423 hf423_6 hf423_7 hf423_8 hip) hZ (hw _ (List.mem_of_getElem? (i := 130) rfl)) (hw _ (List.mem_of_getElem? (i := 105) rfl)) (by decide) (by decide)) q475a q475c (g := (mkF m 949 #[.val (.long va), .second, .val (.int ra), .val (.int rb), .val (.int rx), .val (.int se), .val (.int ln), .val (.int ub), .val (.int qq), .val (.int ca), .val (.int cb), .val (.int cx), .val (.long mm), .second, .val (.ref ac), .val (.ref ol), .val (.int vd), .val (.long (9223372036854775807 : Int64)), .second, .val (.int xd), .val (.int ad), .val (.long mm), .second, .unset, .unset, .unset, .unset] [(.ref ol)])) rfl (by rw [hml]; rfl) (Steps.refl _) (argsL := []) (rest := []) (lenOf pd_19 rfl) rfl (by show 2 * 0 + _ ≤ _; exact Nat.le_of_eq rfl) (hb hby at_949) (fun _ _ => ⟨rfl, hE474, (by decide : 28 + 0 ≤ _), (by decide : 445 + 0 ≤ _)⟩)
            dsimp only [Pt.U, Pt.locs, Pt.cells, Pt.slots] at X475 l475 y475 z475 st475 hQ475
            subst l475 y475 z475
            obtain ⟨rfl, N475q, hE475⟩ := hQ475
            have N475 := Fr.app N474 N475q
            have pre476 : ∀ t, Steps p.tables e below (T475.setTop (mkF m 963 #[.val (.long va), .second, .val (.int ra), .val (.int rb), .val (.int rx), .val (.int se), .val (.int ln), .val (.int ub), .val (.int qq), .val (.int ca), .val (.int cb), .val (.int cx), .val (.long mm), .second, .val (.ref ac), .val (.ref ol), .val (.int vd), .val (.long (9223372036854775807 : Int64)), .second, .val (.int xd), .val (.int ad), .val (.long mm), .second, .unset, .unset, .unset, .unset] [(.int (1 : Int32))])) t → Steps p.tables e below (s₁.setTop (entryFrame m #[(.long va), (.int ra), (.int rb), (.int rx), (.int se)] maxLocals)) t := by
              intro t kt
              refine pre472 _ ?_
              show Steps p.tables e below (T423.setTop (mkF m 893 #[.val (.long va), .second, .val (.int ra), .val (.int rb), .val (.int rx), .val (.int se), .val (.int ln), .val (.int ub), .val (.int qq), .val (.int ca), .val (.int cb), .val (.int cx), .val (.long mm), .second, .val (.ref ac), .val (.ref ol), .val (.int vd), .unset, .unset, .val (.int xd), .val (.int ad), .val (.long mm), .second, .unset, .unset, .unset, .unset] [(.int ad)])) _
              refine XS.ifYes X423.here hx rfl (pc0 := 893) (pc' := 921) rfl (hb hby at_893) rfl (XT.i0_gt_t hc893_473) (by decide) (by decide) ?_
              refine Stand.ldc2J (g := (mkF m 921 #[.val (.long va), .second, .val (.int ra), .val (.int rb), .val (.int rx), .val (.int se), .val (.int ln), .val (.int ub), .val (.int qq), .val (.int ca), .val (.int cb), .val (.int cx), .val (.long mm), .second, .val (.ref ac), .val (.ref ol), .val (.int vd), .unset, .unset, .val (.int xd), .val (.int ad), .val (.long mm), .second, .unset, .unset, .unset, .unset] [])) X423 hx hown (mvT hZ (hw _ (List.mem_of_getElem? (i := 4) rfl))) rfl (hb hby at_921) ?_
              refine XS.goto X423.here hx rfl (pc0 := 924) (pc' := 937) rfl (hb hby at_924) (by decide) (by decide) ?_
              refine XS.lstore X423.here hx rfl (hb hby at_937) rfl (l' := #[.val (.long va), .second, .val (.int ra), .val (.int rb), .val (.int rx), .val (.int se), .val (.int ln), .val (.int ub), .val (.int qq), .val (.int ca), .val (.int cb), .val (.int cx), .val (.long mm), .second, .val (.ref ac), .val (.ref ol), .val (.int vd), .val (.long (9223372036854775807 : Int64)), .second, .val (.int xd), .val (.int ad), .val (.long mm), .second, .unset, .unset, .unset, .unset]) rfl ?_
              show Steps p.tables e below (T423.setTop (mkF m 939 #[.val (.long va), .second, .val (.int ra), .val (.int rb), .val (.int rx), .val (.int se), .val (.int ln), .val (.int ub), .val (.int qq), .val (.int ca), .val (.int cb), .val (.int cx), .val (.long mm), .second, .val (.ref ac), .val (.ref ol), .val (.int vd), .val (.long (9223372036854775807 : Int64)), .second, .val (.int xd), .val (.int ad), .val (.long mm), .second, .unset, .unset, .unset, .unset] [])) _
              refine XS.aload X423.here hx rfl (hb hby at_939) rfl rfl ?_
              show Steps p.tables e below (T423.setTop (mkF m 941 #[.val (.long va), .second, .val (.int ra), .val (.int rb), .val (.int rx), .val (.int se), .val (.int ln), .val (.int ub), .val (.int qq), .val (.int ca), .val (.int cb), .val (.int cx), .val (.long mm), .second, .val (.ref ac), .val (.ref ol), .val (.int vd), .val (.long (9223372036854775807 : Int64)), .second, .val (.int xd), .val (.int ad), .val (.long mm), .second, .unset, .unset, .unset, .unset] [(.ref ol)])) _
              refine st474.trans ?_
              show Steps p.tables e below (T474.setTop (mkF m 944 #[.val (.long va), .second, .val (.int ra), .val (.int rb), .val (.int rx), .val (.int se), .val (.int ln), .val (.int ub), .val (.int qq), .val (.int ca), .val (.int cb), .val (.int cx), .val (.long mm), .second, .val (.ref ac), .val (.ref ol), .val (.int vd), .val (.long (9223372036854775807 : Int64)), .second, .val (.int xd), .val (.int ad), .val (.long mm), .second, .unset, .unset, .unset, .unset] [(.int (nar .boolean (own_res fcc nn).1))])) _
              refine XS.ifNo X474.here hx rfl (hb hby at_944) rfl (XT.i0_eq_f (own_nb1 hres)) ?_
              refine XS.aload X474.here hx rfl (hb hby at_947) rfl rfl ?_
              show Steps p.tables e below (T474.setTop (mkF m 949 #[.val (.long va), .second, .val (.int ra), .val (.int rb), .val (.int rx), .val (.int se), .val (.int ln), .val (.int ub), .val (.int qq), .val (.int ca), .val (.int cb), .val (.int cx), .val (.long mm), .second, .val (.ref ac), .val (.ref ol), .val (.int vd), .val (.long (9223372036854775807 : Int64)), .second, .val (.int xd), .val (.int ad), .val (.long mm), .second, .unset, .unset, .unset, .unset] [(.ref ol)])) _
              refine st475.trans ?_
              refine XS.lload X475.here hx rfl (hb hby at_952) rfl ?_
              refine XT.lcmp X475.here hx rfl (hb hby at_954) rfl ?_
              show Steps p.tables e below (T475.setTop (mkF m 955 #[.val (.long va), .second, .val (.int ra), .val (.int rb), .val (.int rx), .val (.int se), .val (.int ln), .val (.int ub), .val (.int qq), .val (.int ca), .val (.int cb), .val (.int cx), .val (.long mm), .second, .val (.ref ac), .val (.ref ol), .val (.int vd), .val (.long (9223372036854775807 : Int64)), .second, .val (.int xd), .val (.int ad), .val (.long mm), .second, .unset, .unset, .unset, .unset] [(.int (XT.cmpL (own_res fcc nn).2 (9223372036854775807 : Int64)))])) _
              refine XS.ifNo X475.here hx rfl (hb hby at_955) rfl (XT.ll_ne_f ((own_20 hG hln hc761_461 (own_mid0 hG hc785_469) h_xd h_ad hc835_471).1 (Or.inl hc893_473))) ?_
              refine XS.iconst X475.here hx rfl (hb hby at_958) ?_
              refine XS.goto X475.here hx rfl (pc0 := 959) (pc' := 963) rfl (hb hby at_959) (by decide) (by decide) ?_
              exact kt
            have CK477 := CHr.keep (Z := Z) (EL := EL1) KK423 sf0 CC400.1
            obtain ⟨fs, hr, hrun, hended, hEnd⟩ := X475.leaveW hS (by rw [hE475]; exact Nat.le_trans hk KK423.1) (v := some (.int (1 : Int32))) (fun h => by rw [Bd.returns] at h; cases h)
            have CT := CK477.trans (CHv.at (s := s) (vm0 := T400.vm) X475 hZ hEL CK477.1)
            refine ⟨_, _, pre476 _ ?_, hrun, hended, _, _, rfl, ?_, ?_, hEnd.1, hEnd.2.1, hEnd.2.2.1, hEnd.2.2.2.mono (by decide) (by decide)⟩
            · show Steps p.tables e below (T475.setTop (mkF m 963 #[.val (.long va), .second, .val (.int ra), .val (.int rb), .val (.int rx), .val (.int se), .val (.int ln), .val (.int ub), .val (.int qq), .val (.int ca), .val (.int cb), .val (.int cx), .val (.long mm), .second, .val (.ref ac), .val (.ref ol), .val (.int vd), .val (.long (9223372036854775807 : Int64)), .second, .val (.int xd), .val (.int ad), .val (.long mm), .second, .unset, .unset, .unset, .unset] [(.int (1 : Int32))])) _
              exact retN X475 hx (t := .boolean) Bd.returns (by simp) (hb hby at_963) hr
            · show Q0 Z va ra rb rx se cs fmv em h0 n0 _ T475.heap _
              rw [hE475]
              exact ⟨rfl, N475⟩
            · rw [hh]
              show CHr Z EL1 s.vm h0 T475.vm T475.heap
              rw [hE475]
              exact CR411.trans CT
          · skip
            have pre478 : ∀ t, Steps p.tables e below (T423.setTop (mkF m 902 #[.val (.long va), .second, .val (.int ra), .val (.int rb), .val (.int rx), .val (.int se), .val (.int ln), .val (.int ub), .val (.int qq), .val (.int ca), .val (.int cb), .val (.int cx), .val (.long mm), .second, .val (.ref ac), .val (.ref ol), .val (.int vd), .unset, .unset, .val (.int xd), .val (.int ad), .val (.long mm), .second, .unset, .unset, .unset, .unset] [(.int (XT.cmpL mm (922337203685477580 : Int64)))])) t → Steps p.tables e below (s₁.setTop (entryFrame m #[(.long va), (.int ra), (.int rb), (.int rx), (.int se)] maxLocals)) t := by
              intro t kt
              refine pre472 _ ?_
              show Steps p.tables e below (T423.setTop (mkF m 893 #[.val (.long va), .second, .val (.int ra), .val (.int rb), .val (.int rx), .val (.int se), .val (.int ln), .val (.int ub), .val (.int qq), .val (.int ca), .val (.int cb), .val (.int cx), .val (.long mm), .second, .val (.ref ac), .val (.ref ol), .val (.int vd), .unset, .unset, .val (.int xd), .val (.int ad), .val (.long mm), .second, .unset, .unset, .unset, .unset] [(.int ad)])) _
              refine XS.ifNo X423.here hx rfl (hb hby at_893) rfl (XT.i0_gt_f hc893_473) ?_
              refine XS.lload X423.here hx rfl (hb hby at_896) rfl ?_
              refine Stand.ldc2J (g := (mkF m 898 #[.val (.long va), .second, .val (.int ra), .val (.int rb), .val (.int rx), .val (.int se), .val (.int ln), .val (.int ub), .val (.int qq), .val (.int ca), .val (.int cb), .val (.int cx), .val (.long mm), .second, .val (.ref ac), .val (.ref ol), .val (.int vd), .unset, .unset, .val (.int xd), .val (.int ad), .val (.long mm), .second, .unset, .unset, .unset, .unset] [(.long mm)])) X423 hx hown (mvT hZ (hw _ (List.mem_of_getElem? (i := 138) rfl))) rfl (hb hby at_898) ?_
              refine XT.lcmp X423.here hx rfl (hb hby at_901) rfl ?_
              exact kt
            by_cases hc902_479 : (922337203685477580 : Int64) < mm
            · skip
              obtain ⟨cq480, kq480, q480a, q480b, q480c⟩ := isOf hZ rfl hf423_6
              obtain ⟨_, _, ⟨T480, L480, k480, n480⟩, -, X480, ⟨Lc480, hQ480, l480, y480, z480⟩, st480⟩ := X423.virtualBack hx (y := (⟨"java/util/OptionalLong", "isPresent", "()Z"⟩ : MethodName)) (z := (⟨"java/util/OptionalLong", "isPresent", "()Z"⟩ : MethodName)) hown (mvT hZ (hw _ (List.mem_of_getElem? (i := 121) rfl))) (mvT hZ (hw _ (List.mem_of_getElem? (i := 122) rfl))) (notFace_of_selects (args := #[]) (mvT hZ (hw _ (List.mem_of_getElem? (i := 124) rfl)))) (mvT hZ (hw _ (List.mem_of_getElem? (i := 124) rfl))) (mvT hZ (hw _ (List.mem_of_getElem? (i := 123) rfl))) (by decide) (backOf (W := 0) (rm22 l Z a0 hw [] ol (own_res fcc nn).1 (own_res fcc nn).2 T423.heap n0 Z423 hf423_6 hf423_7 hf423_8) hZ (hw _ (List.mem_of_getElem? (i := 125) rfl)) (hw _ (List.mem_of_getElem? (i := 105) rfl)) (by decide) (by decide)) q480a q480c (g := (mkF m 941 #[.val (.long va), .second, .val (.int ra), .val (.int rb), .val (.int rx), .val (.int se), .val (.int ln), .val (.int ub), .val (.int qq), .val (.int ca), .val (.int cb), .val (.int cx), .val (.long mm), .second, .val (.ref ac), .val (.ref ol), .val (.int vd), .val (.long (9223372036854775807 : Int64)), .second, .val (.int xd), .val (.int ad), .val (.long mm), .second, .unset, .unset, .unset, .unset] [(.ref ol)])) rfl (by rw [hml]; rfl) (Steps.refl _) (argsL := []) (rest := []) (lenOf pd_8 rfl) rfl (by show 2 * 0 + _ ≤ _; exact Nat.le_of_eq rfl) (hb hby at_941) (fun _ _ => ⟨rfl, rfl, (by decide : 28 + 0 ≤ _), (by decide : 445 + 0 ≤ _)⟩)
              dsimp only [Pt.U, Pt.locs, Pt.cells, Pt.slots] at X480 l480 y480 z480 st480 hQ480
              subst l480 y480 z480
              obtain ⟨rfl, N480q, hE480⟩ := hQ480
              have N480 := Fr.app N423 N480q
              obtain ⟨cq481, kq481, q481a, q481b, q481c⟩ := isOf hZ hE480 hf423_6
              obtain ⟨_, _, ⟨T481, L481, k481, n481⟩, -, X481, ⟨Lc481, hQ481, l481, y481, z481⟩, st481⟩ := X480.virtualBack hx (y := (⟨"java/util/OptionalLong", "getAsLong", "()J"⟩ : MethodName)) (z := (⟨"java/util/OptionalLong", "getAsLong", "()J"⟩ : MethodName)) hown (mvT hZ (hw _ (List.mem_of_getElem? (i := 126) rfl))) (mvT hZ (hw _ (List.mem_of_getElem? (i := 127) rfl))) (notFace_of_selects (args := #[]) (mvT hZ (hw _ (List.mem_of_getElem? (i := 129) rfl)))) (mvT hZ (hw _ (List.mem_of_getElem? (i := 129) rfl))) (mvT hZ (hw _ (List.mem_of_getElem? (i := 128) rfl))) (by decide) (backOf (W := 0) (rm23 l Z a0 hw [] ol (own_res fcc nn).1 (own_res fcc nn).2 T423.heap n0 Z423 hf423_6 hf423_7 hf423_8 hip) hZ (hw _ (List.mem_of_getElem? (i := 130) rfl)) (hw _ (List.mem_of_getElem? (i := 105) rfl)) (by decide) (by decide)) q481a q481c (g := (mkF m 949 #[.val (.long va), .second, .val (.int ra), .val (.int rb), .val (.int rx), .val (.int se), .val (.int ln), .val (.int ub), .val (.int qq), .val (.int ca), .val (.int cb), .val (.int cx), .val (.long mm), .second, .val (.ref ac), .val (.ref ol), .val (.int vd), .val (.long (9223372036854775807 : Int64)), .second, .val (.int xd), .val (.int ad), .val (.long mm), .second, .unset, .unset, .unset, .unset] [(.ref ol)])) rfl (by rw [hml]; rfl) (Steps.refl _) (argsL := []) (rest := []) (lenOf pd_19 rfl) rfl (by show 2 * 0 + _ ≤ _; exact Nat.le_of_eq rfl) (hb hby at_949) (fun _ _ => ⟨rfl, hE480, (by decide : 28 + 0 ≤ _), (by decide : 445 + 0 ≤ _)⟩)
              dsimp only [Pt.U, Pt.locs, Pt.cells, Pt.slots] at X481 l481 y481 z481 st481 hQ481
              subst l481 y481 z481
              obtain ⟨rfl, N481q, hE481⟩ := hQ481
              have N481 := Fr.app N480 N481q
              have pre482 : ∀ t, Steps p.tables e below (T481.setTop (mkF m 963 #[.val (.long va), .second, .val (.int ra), .val (.int rb), .val (.int rx), .val (.int se), .val (.int ln), .val (.int ub), .val (.int qq), .val (.int ca), .val (.int cb), .val (.int cx), .val (.long mm), .second, .val (.ref ac), .val (.ref ol), .val (.int vd), .val (.long (9223372036854775807 : Int64)), .second, .val (.int xd), .val (.int ad), .val (.long mm), .second, .unset, .unset, .unset, .unset] [(.int (1 : Int32))])) t → Steps p.tables e below (s₁.setTop (entryFrame m #[(.long va), (.int ra), (.int rb), (.int rx), (.int se)] maxLocals)) t := by
                intro t kt
                refine pre478 _ ?_
                show Steps p.tables e below (T423.setTop (mkF m 902 #[.val (.long va), .second, .val (.int ra), .val (.int rb), .val (.int rx), .val (.int se), .val (.int ln), .val (.int ub), .val (.int qq), .val (.int ca), .val (.int cb), .val (.int cx), .val (.long mm), .second, .val (.ref ac), .val (.ref ol), .val (.int vd), .unset, .unset, .val (.int xd), .val (.int ad), .val (.long mm), .second, .unset, .unset, .unset, .unset] [(.int (XT.cmpL mm (922337203685477580 : Int64)))])) _
                refine XS.ifYes X423.here hx rfl (pc0 := 902) (pc' := 921) rfl (hb hby at_902) rfl (XT.ll_gt_t hc902_479) (by decide) (by decide) ?_
                refine Stand.ldc2J (g := (mkF m 921 #[.val (.long va), .second, .val (.int ra), .val (.int rb), .val (.int rx), .val (.int se), .val (.int ln), .val (.int ub), .val (.int qq), .val (.int ca), .val (.int cb), .val (.int cx), .val (.long mm), .second, .val (.ref ac), .val (.ref ol), .val (.int vd), .unset, .unset, .val (.int xd), .val (.int ad), .val (.long mm), .second, .unset, .unset, .unset, .unset] [])) X423 hx hown (mvT hZ (hw _ (List.mem_of_getElem? (i := 4) rfl))) rfl (hb hby at_921) ?_
                refine XS.goto X423.here hx rfl (pc0 := 924) (pc' := 937) rfl (hb hby at_924) (by decide) (by decide) ?_
                refine XS.lstore X423.here hx rfl (hb hby at_937) rfl (l' := #[.val (.long va), .second, .val (.int ra), .val (.int rb), .val (.int rx), .val (.int se), .val (.int ln), .val (.int ub), .val (.int qq), .val (.int ca), .val (.int cb), .val (.int cx), .val (.long mm), .second, .val (.ref ac), .val (.ref ol), .val (.int vd), .val (.long (9223372036854775807 : Int64)), .second, .val (.int xd), .val (.int ad), .val (.long mm), .second, .unset, .unset, .unset, .unset]) rfl ?_
                show Steps p.tables e below (T423.setTop (mkF m 939 #[.val (.long va), .second, .val (.int ra), .val (.int rb), .val (.int rx), .val (.int se), .val (.int ln), .val (.int ub), .val (.int qq), .val (.int ca), .val (.int cb), .val (.int cx), .val (.long mm), .second, .val (.ref ac), .val (.ref ol), .val (.int vd), .val (.long (9223372036854775807 : Int64)), .second, .val (.int xd), .val (.int ad), .val (.long mm), .second, .unset, .unset, .unset, .unset] [])) _
                refine XS.aload X423.here hx rfl (hb hby at_939) rfl rfl ?_
                show Steps p.tables e below (T423.setTop (mkF m 941 #[.val (.long va), .second, .val (.int ra), .val (.int rb), .val (.int rx), .val (.int se), .val (.int ln), .val (.int ub), .val (.int qq), .val (.int ca), .val (.int cb), .val (.int cx), .val (.long mm), .second, .val (.ref ac), .val (.ref ol), .val (.int vd), .val (.long (9223372036854775807 : Int64)), .second, .val (.int xd), .val (.int ad), .val (.long mm), .second, .unset, .unset, .unset, .unset] [(.ref ol)])) _
                refine st480.trans ?_
                show Steps p.tables e below (T480.setTop (mkF m 944 #[.val (.long va), .second, .val (.int ra), .val (.int rb), .val (.int rx), .val (.int se), .val (.int ln), .val (.int ub), .val (.int qq), .val (.int ca), .val (.int cb), .val (.int cx), .val (.long mm), .second, .val (.ref ac), .val (.ref ol), .val (.int vd), .val (.long (9223372036854775807 : Int64)), .second, .val (.int xd), .val (.int ad), .val (.long mm), .second, .unset, .unset, .unset, .unset] [(.int (nar .boolean (own_res fcc nn).1))])) _
                refine XS.ifNo X480.here hx rfl (hb hby at_944) rfl (XT.i0_eq_f (own_nb1 hres)) ?_
                refine XS.aload X480.here hx rfl (hb hby at_947) rfl rfl ?_
                show Steps p.tables e below (T480.setTop (mkF m 949 #[.val (.long va), .second, .val (.int ra), .val (.int rb), .val (.int rx), .val (.int se), .val (.int ln), .val (.int ub), .val (.int qq), .val (.int ca), .val (.int cb), .val (.int cx), .val (.long mm), .second, .val (.ref ac), .val (.ref ol), .val (.int vd), .val (.long (9223372036854775807 : Int64)), .second, .val (.int xd), .val (.int ad), .val (.long mm), .second, .unset, .unset, .unset, .unset] [(.ref ol)])) _
                refine st481.trans ?_
                refine XS.lload X481.here hx rfl (hb hby at_952) rfl ?_
                refine XT.lcmp X481.here hx rfl (hb hby at_954) rfl ?_
                show Steps p.tables e below (T481.setTop (mkF m 955 #[.val (.long va), .second, .val (.int ra), .val (.int rb), .val (.int rx), .val (.int se), .val (.int ln), .val (.int ub), .val (.int qq), .val (.int ca), .val (.int cb), .val (.int cx), .val (.long mm), .second, .val (.ref ac), .val (.ref ol), .val (.int vd), .val (.long (9223372036854775807 : Int64)), .second, .val (.int xd), .val (.int ad), .val (.long mm), .second, .unset, .unset, .unset, .unset] [(.int (XT.cmpL (own_res fcc nn).2 (9223372036854775807 : Int64)))])) _
                refine XS.ifNo X481.here hx rfl (hb hby at_955) rfl (XT.ll_ne_f ((own_20 hG hln hc761_461 (own_mid0 hG hc785_469) h_xd h_ad hc835_471).1 (Or.inr (Or.inl hc902_479)))) ?_
                refine XS.iconst X481.here hx rfl (hb hby at_958) ?_
                refine XS.goto X481.here hx rfl (pc0 := 959) (pc' := 963) rfl (hb hby at_959) (by decide) (by decide) ?_
                exact kt
              have CK483 := CHr.keep (Z := Z) (EL := EL1) KK423 sf0 CC400.1
              obtain ⟨fs, hr, hrun, hended, hEnd⟩ := X481.leaveW hS (by rw [hE481]; exact Nat.le_trans hk KK423.1) (v := some (.int (1 : Int32))) (fun h => by rw [Bd.returns] at h; cases h)
              have CT := CK483.trans (CHv.at (s := s) (vm0 := T400.vm) X481 hZ hEL CK483.1)
              refine ⟨_, _, pre482 _ ?_, hrun, hended, _, _, rfl, ?_, ?_, hEnd.1, hEnd.2.1, hEnd.2.2.1, hEnd.2.2.2.mono (by decide) (by decide)⟩
              · show Steps p.tables e below (T481.setTop (mkF m 963 #[.val (.long va), .second, .val (.int ra), .val (.int rb), .val (.int rx), .val (.int se), .val (.int ln), .val (.int ub), .val (.int qq), .val (.int ca), .val (.int cb), .val (.int cx), .val (.long mm), .second, .val (.ref ac), .val (.ref ol), .val (.int vd), .val (.long (9223372036854775807 : Int64)), .second, .val (.int xd), .val (.int ad), .val (.long mm), .second, .unset, .unset, .unset, .unset] [(.int (1 : Int32))])) _
                exact retN X481 hx (t := .boolean) Bd.returns (by simp) (hb hby at_963) hr
              · show Q0 Z va ra rb rx se cs fmv em h0 n0 _ T481.heap _
                rw [hE481]
                exact ⟨rfl, N481⟩
              · rw [hh]
                show CHr Z EL1 s.vm h0 T481.vm T481.heap
                rw [hE481]
                exact CR411.trans CT
            · skip
              have pre484 : ∀ t, Steps p.tables e below (T423.setTop (mkF m 911 #[.val (.long va), .second, .val (.int ra), .val (.int rb), .val (.int rx), .val (.int se), .val (.int ln), .val (.int ub), .val (.int qq), .val (.int ca), .val (.int cb), .val (.int cx), .val (.long mm), .second, .val (.ref ac), .val (.ref ol), .val (.int vd), .unset, .unset, .val (.int xd), .val (.int ad), .val (.long mm), .second, .unset, .unset, .unset, .unset] [(.int (XT.cmpL mm (922337203685477580 : Int64)))])) t → Steps p.tables e below (s₁.setTop (entryFrame m #[(.long va), (.int ra), (.int rb), (.int rx), (.int se)] maxLocals)) t := by
                intro t kt
                refine pre478 _ ?_
                show Steps p.tables e below (T423.setTop (mkF m 902 #[.val (.long va), .second, .val (.int ra), .val (.int rb), .val (.int rx), .val (.int se), .val (.int ln), .val (.int ub), .val (.int qq), .val (.int ca), .val (.int cb), .val (.int cx), .val (.long mm), .second, .val (.ref ac), .val (.ref ol), .val (.int vd), .unset, .unset, .val (.int xd), .val (.int ad), .val (.long mm), .second, .unset, .unset, .unset, .unset] [(.int (XT.cmpL mm (922337203685477580 : Int64)))])) _
                refine XS.ifNo X423.here hx rfl (hb hby at_902) rfl (XT.ll_gt_f hc902_479) ?_
                refine XS.lload X423.here hx rfl (hb hby at_905) rfl ?_
                refine Stand.ldc2J (g := (mkF m 907 #[.val (.long va), .second, .val (.int ra), .val (.int rb), .val (.int rx), .val (.int se), .val (.int ln), .val (.int ub), .val (.int qq), .val (.int ca), .val (.int cb), .val (.int cx), .val (.long mm), .second, .val (.ref ac), .val (.ref ol), .val (.int vd), .unset, .unset, .val (.int xd), .val (.int ad), .val (.long mm), .second, .unset, .unset, .unset, .unset] [(.long mm)])) X423 hx hown (mvT hZ (hw _ (List.mem_of_getElem? (i := 138) rfl))) rfl (hb hby at_907) ?_
                refine XT.lcmp X423.here hx rfl (hb hby at_910) rfl ?_
                exact kt
              by_cases hc911_485 : mm = (922337203685477580 : Int64)
              · skip
                have pre486 : ∀ t, Steps p.tables e below (T423.setTop (mkF m 918 #[.val (.long va), .second, .val (.int ra), .val (.int rb), .val (.int rx), .val (.int se), .val (.int ln), .val (.int ub), .val (.int qq), .val (.int ca), .val (.int cb), .val (.int cx), .val (.long mm), .second, .val (.ref ac), .val (.ref ol), .val (.int vd), .unset, .unset, .val (.int xd), .val (.int ad), .val (.long mm), .second, .unset, .unset, .unset, .unset] [(.int (7 : Int32)), (.int xd)])) t → Steps p.tables e below (s₁.setTop (entryFrame m #[(.long va), (.int ra), (.int rb), (.int rx), (.int se)] maxLocals)) t := by
                  intro t kt
                  refine pre484 _ ?_
                  show Steps p.tables e below (T423.setTop (mkF m 911 #[.val (.long va), .second, .val (.int ra), .val (.int rb), .val (.int rx), .val (.int se), .val (.int ln), .val (.int ub), .val (.int qq), .val (.int ca), .val (.int cb), .val (.int cx), .val (.long mm), .second, .val (.ref ac), .val (.ref ol), .val (.int vd), .unset, .unset, .val (.int xd), .val (.int ad), .val (.long mm), .second, .unset, .unset, .unset, .unset] [(.int (XT.cmpL mm (922337203685477580 : Int64)))])) _
                  refine XS.ifNo X423.here hx rfl (hb hby at_911) rfl (XT.ll_ne_f hc911_485) ?_
                  refine XS.iload X423.here hx rfl (hb hby at_914) rfl ?_
                  refine XS.bipush X423.here hx rfl (hb hby at_916) ?_
                  exact kt
                by_cases hc918_487 : (7 : Int32) < xd
                · skip
                  obtain ⟨cq488, kq488, q488a, q488b, q488c⟩ := isOf hZ rfl hf423_6
                  obtain ⟨_, _, ⟨T488, L488, k488, n488⟩, -, X488, ⟨Lc488, hQ488, l488, y488, z488⟩, st488⟩ := X423.virtualBack hx (y := (⟨"java/util/OptionalLong", "isPresent", "()Z"⟩ : MethodName)) (z := (⟨"java/util/OptionalLong", "isPresent", "()Z"⟩ : MethodName)) hown (mvT hZ (hw _ (List.mem_of_getElem? (i := 121) rfl))) (mvT hZ (hw _ (List.mem_of_getElem? (i := 122) rfl))) (notFace_of_selects (args := #[]) (mvT hZ (hw _ (List.mem_of_getElem? (i := 124) rfl)))) (mvT hZ (hw _ (List.mem_of_getElem? (i := 124) rfl))) (mvT hZ (hw _ (List.mem_of_getElem? (i := 123) rfl))) (by decide) (backOf (W := 0) (rm22 l Z a0 hw [] ol (own_res fcc nn).1 (own_res fcc nn).2 T423.heap n0 Z423 hf423_6 hf423_7 hf423_8) hZ (hw _ (List.mem_of_getElem? (i := 125) rfl)) (hw _ (List.mem_of_getElem? (i := 105) rfl)) (by decide) (by decide)) q488a q488c (g := (mkF m 941 #[.val (.long va), .second, .val (.int ra), .val (.int rb), .val (.int rx), .val (.int se), .val (.int ln), .val (.int ub), .val (.int qq), .val (.int ca), .val (.int cb), .val (.int cx), .val (.long mm), .second, .val (.ref ac), .val (.ref ol), .val (.int vd), .val (.long (9223372036854775807 : Int64)), .second, .val (.int xd), .val (.int ad), .val (.long mm), .second, .unset, .unset, .unset, .unset] [(.ref ol)])) rfl (by rw [hml]; rfl) (Steps.refl _) (argsL := []) (rest := []) (lenOf pd_8 rfl) rfl (by show 2 * 0 + _ ≤ _; exact Nat.le_of_eq rfl) (hb hby at_941) (fun _ _ => ⟨rfl, rfl, (by decide : 28 + 0 ≤ _), (by decide : 445 + 0 ≤ _)⟩)
                  dsimp only [Pt.U, Pt.locs, Pt.cells, Pt.slots] at X488 l488 y488 z488 st488 hQ488
                  subst l488 y488 z488
                  obtain ⟨rfl, N488q, hE488⟩ := hQ488
                  have N488 := Fr.app N423 N488q
                  obtain ⟨cq489, kq489, q489a, q489b, q489c⟩ := isOf hZ hE488 hf423_6
                  obtain ⟨_, _, ⟨T489, L489, k489, n489⟩, -, X489, ⟨Lc489, hQ489, l489, y489, z489⟩, st489⟩ := X488.virtualBack hx (y := (⟨"java/util/OptionalLong", "getAsLong", "()J"⟩ : MethodName)) (z := (⟨"java/util/OptionalLong", "getAsLong", "()J"⟩ : MethodName)) hown (mvT hZ (hw _ (List.mem_of_getElem? (i := 126) rfl))) (mvT hZ (hw _ (List.mem_of_getElem? (i := 127) rfl))) (notFace_of_selects (args := #[]) (mvT hZ (hw _ (List.mem_of_getElem? (i := 129) rfl)))) (mvT hZ (hw _ (List.mem_of_getElem? (i := 129) rfl))) (mvT hZ (hw _ (List.mem_of_getElem? (i := 128) rfl))) (by decide) (backOf (W := 0) (rm23 l Z a0 hw [] ol (own_res fcc nn).1 (own_res fcc nn).2 T423.heap n0 Z423 hf423_6 hf423_7 hf423_8 hip) hZ (hw _ (List.mem_of_getElem? (i := 130) rfl)) (hw _ (List.mem_of_getElem? (i := 105) rfl)) (by decide) (by decide)) q489a q489c (g := (mkF m 949 #[.val (.long va), .second, .val (.int ra), .val (.int rb), .val (.int rx), .val (.int se), .val (.int ln), .val (.int ub), .val (.int qq), .val (.int ca), .val (.int cb), .val (.int cx), .val (.long mm), .second, .val (.ref ac), .val (.ref ol), .val (.int vd), .val (.long (9223372036854775807 : Int64)), .second, .val (.int xd), .val (.int ad), .val (.long mm), .second, .unset, .unset, .unset, .unset] [(.ref ol)])) rfl (by rw [hml]; rfl) (Steps.refl _) (argsL := []) (rest := []) (lenOf pd_19 rfl) rfl (by show 2 * 0 + _ ≤ _; exact Nat.le_of_eq rfl) (hb hby at_949) (fun _ _ => ⟨rfl, hE488, (by decide : 28 + 0 ≤ _), (by decide : 445 + 0 ≤ _)⟩)
                  dsimp only [Pt.U, Pt.locs, Pt.cells, Pt.slots] at X489 l489 y489 z489 st489 hQ489
                  subst l489 y489 z489
                  obtain ⟨rfl, N489q, hE489⟩ := hQ489
                  have N489 := Fr.app N488 N489q
                  have pre490 : ∀ t, Steps p.tables e below (T489.setTop (mkF m 963 #[.val (.long va), .second, .val (.int ra), .val (.int rb), .val (.int rx), .val (.int se), .val (.int ln), .val (.int ub), .val (.int qq), .val (.int ca), .val (.int cb), .val (.int cx), .val (.long mm), .second, .val (.ref ac), .val (.ref ol), .val (.int vd), .val (.long (9223372036854775807 : Int64)), .second, .val (.int xd), .val (.int ad), .val (.long mm), .second, .unset, .unset, .unset, .unset] [(.int (1 : Int32))])) t → Steps p.tables e below (s₁.setTop (entryFrame m #[(.long va), (.int ra), (.int rb), (.int rx), (.int se)] maxLocals)) t := by
                    intro t kt
                    refine pre486 _ ?_
                    show Steps p.tables e below (T423.setTop (mkF m 918 #[.val (.long va), .second, .val (.int ra), .val (.int rb), .val (.int rx), .val (.int se), .val (.int ln), .val (.int ub), .val (.int qq), .val (.int ca), .val (.int cb), .val (.int cx), .val (.long mm), .second, .val (.ref ac), .val (.ref ol), .val (.int vd), .unset, .unset, .val (.int xd), .val (.int ad), .val (.long mm), .second, .unset, .unset, .unset, .unset] [(.int (7 : Int32)), (.int xd)])) _
                    refine XS.icmpNo X423.here hx rfl (hb hby at_918) rfl (XT.ii_le_f hc918_487) ?_
                    refine Stand.ldc2J (g := (mkF m 921 #[.val (.long va), .second, .val (.int ra), .val (.int rb), .val (.int rx), .val (.int se), .val (.int ln), .val (.int ub), .val (.int qq), .val (.int ca), .val (.int cb), .val (.int cx), .val (.long mm), .second, .val (.ref ac), .val (.ref ol), .val (.int vd), .unset, .unset, .val (.int xd), .val (.int ad), .val (.long mm), .second, .unset, .unset, .unset, .unset] [])) X423 hx hown (mvT hZ (hw _ (List.mem_of_getElem? (i := 4) rfl))) rfl (hb hby at_921) ?_
                    refine XS.goto X423.here hx rfl (pc0 := 924) (pc' := 937) rfl (hb hby at_924) (by decide) (by decide) ?_
                    refine XS.lstore X423.here hx rfl (hb hby at_937) rfl (l' := #[.val (.long va), .second, .val (.int ra), .val (.int rb), .val (.int rx), .val (.int se), .val (.int ln), .val (.int ub), .val (.int qq), .val (.int ca), .val (.int cb), .val (.int cx), .val (.long mm), .second, .val (.ref ac), .val (.ref ol), .val (.int vd), .val (.long (9223372036854775807 : Int64)), .second, .val (.int xd), .val (.int ad), .val (.long mm), .second, .unset, .unset, .unset, .unset]) rfl ?_
                    show Steps p.tables e below (T423.setTop (mkF m 939 #[.val (.long va), .second, .val (.int ra), .val (.int rb), .val (.int rx), .val (.int se), .val (.int ln), .val (.int ub), .val (.int qq), .val (.int ca), .val (.int cb), .val (.int cx), .val (.long mm), .second, .val (.ref ac), .val (.ref ol), .val (.int vd), .val (.long (9223372036854775807 : Int64)), .second, .val (.int xd), .val (.int ad), .val (.long mm), .second, .unset, .unset, .unset, .unset] [])) _
                    refine XS.aload X423.here hx rfl (hb hby at_939) rfl rfl ?_
                    show Steps p.tables e below (T423.setTop (mkF m 941 #[.val (.long va), .second, .val (.int ra), .val (.int rb), .val (.int rx), .val (.int se), .val (.int ln), .val (.int ub), .val (.int qq), .val (.int ca), .val (.int cb), .val (.int cx), .val (.long mm), .second, .val (.ref ac), .val (.ref ol), .val (.int vd), .val (.long (9223372036854775807 : Int64)), .second, .val (.int xd), .val (.int ad), .val (.long mm), .second, .unset, .unset, .unset, .unset] [(.ref ol)])) _
                    refine st488.trans ?_
                    show Steps p.tables e below (T488.setTop (mkF m 944 #[.val (.long va), .second, .val (.int ra), .val (.int rb), .val (.int rx), .val (.int se), .val (.int ln), .val (.int ub), .val (.int qq), .val (.int ca), .val (.int cb), .val (.int cx), .val (.long mm), .second, .val (.ref ac), .val (.ref ol), .val (.int vd), .val (.long (9223372036854775807 : Int64)), .second, .val (.int xd), .val (.int ad), .val (.long mm), .second, .unset, .unset, .unset, .unset] [(.int (nar .boolean (own_res fcc nn).1))])) _
                    refine XS.ifNo X488.here hx rfl (hb hby at_944) rfl (XT.i0_eq_f (own_nb1 hres)) ?_
                    refine XS.aload X488.here hx rfl (hb hby at_947) rfl rfl ?_
                    show Steps p.tables e below (T488.setTop (mkF m 949 #[.val (.long va), .second, .val (.int ra), .val (.int rb), .val (.int rx), .val (.int se), .val (.int ln), .val (.int ub), .val (.int qq), .val (.int ca), .val (.int cb), .val (.int cx), .val (.long mm), .second, .val (.ref ac), .val (.ref ol), .val (.int vd), .val (.long (9223372036854775807 : Int64)), .second, .val (.int xd), .val (.int ad), .val (.long mm), .second, .unset, .unset, .unset, .unset] [(.ref ol)])) _
                    refine st489.trans ?_
                    refine XS.lload X489.here hx rfl (hb hby at_952) rfl ?_
                    refine XT.lcmp X489.here hx rfl (hb hby at_954) rfl ?_
                    show Steps p.tables e below (T489.setTop (mkF m 955 #[.val (.long va), .second, .val (.int ra), .val (.int rb), .val (.int rx), .val (.int se), .val (.int ln), .val (.int ub), .val (.int qq), .val (.int ca), .val (.int cb), .val (.int cx), .val (.long mm), .second, .val (.ref ac), .val (.ref ol), .val (.int vd), .val (.long (9223372036854775807 : Int64)), .second, .val (.int xd), .val (.int ad), .val (.long mm), .second, .unset, .unset, .unset, .unset] [(.int (XT.cmpL (own_res fcc nn).2 (9223372036854775807 : Int64)))])) _
                    refine XS.ifNo X489.here hx rfl (hb hby at_955) rfl (XT.ll_ne_f ((own_20 hG hln hc761_461 (own_mid0 hG hc785_469) h_xd h_ad hc835_471).1 (Or.inr (Or.inr ⟨hc911_485, hc918_487⟩)))) ?_
                    refine XS.iconst X489.here hx rfl (hb hby at_958) ?_
                    refine XS.goto X489.here hx rfl (pc0 := 959) (pc' := 963) rfl (hb hby at_959) (by decide) (by decide) ?_
                    exact kt
                  have CK491 := CHr.keep (Z := Z) (EL := EL1) KK423 sf0 CC400.1
                  obtain ⟨fs, hr, hrun, hended, hEnd⟩ := X489.leaveW hS (by rw [hE489]; exact Nat.le_trans hk KK423.1) (v := some (.int (1 : Int32))) (fun h => by rw [Bd.returns] at h; cases h)
                  have CT := CK491.trans (CHv.at (s := s) (vm0 := T400.vm) X489 hZ hEL CK491.1)
                  refine ⟨_, _, pre490 _ ?_, hrun, hended, _, _, rfl, ?_, ?_, hEnd.1, hEnd.2.1, hEnd.2.2.1, hEnd.2.2.2.mono (by decide) (by decide)⟩
                  · show Steps p.tables e below (T489.setTop (mkF m 963 #[.val (.long va), .second, .val (.int ra), .val (.int rb), .val (.int rx), .val (.int se), .val (.int ln), .val (.int ub), .val (.int qq), .val (.int ca), .val (.int cb), .val (.int cx), .val (.long mm), .second, .val (.ref ac), .val (.ref ol), .val (.int vd), .val (.long (9223372036854775807 : Int64)), .second, .val (.int xd), .val (.int ad), .val (.long mm), .second, .unset, .unset, .unset, .unset] [(.int (1 : Int32))])) _
                    exact retN X489 hx (t := .boolean) Bd.returns (by simp) (hb hby at_963) hr
                  · show Q0 Z va ra rb rx se cs fmv em h0 n0 _ T489.heap _
                    rw [hE489]
                    exact ⟨rfl, N489⟩
                  · rw [hh]
                    show CHr Z EL1 s.vm h0 T489.vm T489.heap
                    rw [hE489]
                    exact CR411.trans CT
                · skip
                  obtain ⟨cq492, kq492, q492a, q492b, q492c⟩ := isOf hZ rfl hf423_6
                  obtain ⟨_, _, ⟨T492, L492, k492, n492⟩, -, X492, ⟨Lc492, hQ492, l492, y492, z492⟩, st492⟩ := X423.virtualBack hx (y := (⟨"java/util/OptionalLong", "isPresent", "()Z"⟩ : MethodName)) (z := (⟨"java/util/OptionalLong", "isPresent", "()Z"⟩ : MethodName)) hown (mvT hZ (hw _ (List.mem_of_getElem? (i := 121) rfl))) (mvT hZ (hw _ (List.mem_of_getElem? (i := 122) rfl))) (notFace_of_selects (args := #[]) (mvT hZ (hw _ (List.mem_of_getElem? (i := 124) rfl)))) (mvT hZ (hw _ (List.mem_of_getElem? (i := 124) rfl))) (mvT hZ (hw _ (List.mem_of_getElem? (i := 123) rfl))) (by decide) (backOf (W := 0) (rm22 l Z a0 hw [] ol (own_res fcc nn).1 (own_res fcc nn).2 T423.heap n0 Z423 hf423_6 hf423_7 hf423_8) hZ (hw _ (List.mem_of_getElem? (i := 125) rfl)) (hw _ (List.mem_of_getElem? (i := 105) rfl)) (by decide) (by decide)) q492a q492c (g := (mkF m 941 #[.val (.long va), .second, .val (.int ra), .val (.int rb), .val (.int rx), .val (.int se), .val (.int ln), .val (.int ub), .val (.int qq), .val (.int ca), .val (.int cb), .val (.int cx), .val (.long mm), .second, .val (.ref ac), .val (.ref ol), .val (.int vd), .val (.long ((mm * (10 : Int64)) + (xd.toInt64))), .second, .val (.int xd), .val (.int ad), .val (.long mm), .second, .unset, .unset, .unset, .unset] [(.ref ol)])) rfl (by rw [hml]; rfl) (Steps.refl _) (argsL := []) (rest := []) (lenOf pd_8 rfl) rfl (by show 2 * 0 + _ ≤ _; exact Nat.le_of_eq rfl) (hb hby at_941) (fun _ _ => ⟨rfl, rfl, (by decide : 28 + 0 ≤ _), (by decide : 445 + 0 ≤ _)⟩)
                  dsimp only [Pt.U, Pt.locs, Pt.cells, Pt.slots] at X492 l492 y492 z492 st492 hQ492
                  subst l492 y492 z492
                  obtain ⟨rfl, N492q, hE492⟩ := hQ492
                  have N492 := Fr.app N423 N492q
                  obtain ⟨cq493, kq493, q493a, q493b, q493c⟩ := isOf hZ hE492 hf423_6
                  obtain ⟨_, _, ⟨T493, L493, k493, n493⟩, -, X493, ⟨Lc493, hQ493, l493, y493, z493⟩, st493⟩ := X492.virtualBack hx (y := (⟨"java/util/OptionalLong", "getAsLong", "()J"⟩ : MethodName)) (z := (⟨"java/util/OptionalLong", "getAsLong", "()J"⟩ : MethodName)) hown (mvT hZ (hw _ (List.mem_of_getElem? (i := 126) rfl))) (mvT hZ (hw _ (List.mem_of_getElem? (i := 127) rfl))) (notFace_of_selects (args := #[]) (mvT hZ (hw _ (List.mem_of_getElem? (i := 129) rfl)))) (mvT hZ (hw _ (List.mem_of_getElem? (i := 129) rfl))) (mvT hZ (hw _ (List.mem_of_getElem? (i := 128) rfl))) (by decide) (backOf (W := 0) (rm23 l Z a0 hw [] ol (own_res fcc nn).1 (own_res fcc nn).2 T423.heap n0 Z423 hf423_6 hf423_7 hf423_8 hip) hZ (hw _ (List.mem_of_getElem? (i := 130) rfl)) (hw _ (List.mem_of_getElem? (i := 105) rfl)) (by decide) (by decide)) q493a q493c (g := (mkF m 949 #[.val (.long va), .second, .val (.int ra), .val (.int rb), .val (.int rx), .val (.int se), .val (.int ln), .val (.int ub), .val (.int qq), .val (.int ca), .val (.int cb), .val (.int cx), .val (.long mm), .second, .val (.ref ac), .val (.ref ol), .val (.int vd), .val (.long ((mm * (10 : Int64)) + (xd.toInt64))), .second, .val (.int xd), .val (.int ad), .val (.long mm), .second, .unset, .unset, .unset, .unset] [(.ref ol)])) rfl (by rw [hml]; rfl) (Steps.refl _) (argsL := []) (rest := []) (lenOf pd_19 rfl) rfl (by show 2 * 0 + _ ≤ _; exact Nat.le_of_eq rfl) (hb hby at_949) (fun _ _ => ⟨rfl, hE492, (by decide : 28 + 0 ≤ _), (by decide : 445 + 0 ≤ _)⟩)
                  dsimp only [Pt.U, Pt.locs, Pt.cells, Pt.slots] at X493 l493 y493 z493 st493 hQ493
                  subst l493 y493 z493
                  obtain ⟨rfl, N493q, hE493⟩ := hQ493
                  have N493 := Fr.app N492 N493q
                  have pre494 : ∀ t, Steps p.tables e below (T493.setTop (mkF m 963 #[.val (.long va), .second, .val (.int ra), .val (.int rb), .val (.int rx), .val (.int se), .val (.int ln), .val (.int ub), .val (.int qq), .val (.int ca), .val (.int cb), .val (.int cx), .val (.long mm), .second, .val (.ref ac), .val (.ref ol), .val (.int vd), .val (.long ((mm * (10 : Int64)) + (xd.toInt64))), .second, .val (.int xd), .val (.int ad), .val (.long mm), .second, .unset, .unset, .unset, .unset] [(.int (1 : Int32))])) t → Steps p.tables e below (s₁.setTop (entryFrame m #[(.long va), (.int ra), (.int rb), (.int rx), (.int se)] maxLocals)) t := by
                    intro t kt
                    refine pre486 _ ?_
                    show Steps p.tables e below (T423.setTop (mkF m 918 #[.val (.long va), .second, .val (.int ra), .val (.int rb), .val (.int rx), .val (.int se), .val (.int ln), .val (.int ub), .val (.int qq), .val (.int ca), .val (.int cb), .val (.int cx), .val (.long mm), .second, .val (.ref ac), .val (.ref ol), .val (.int vd), .unset, .unset, .val (.int xd), .val (.int ad), .val (.long mm), .second, .unset, .unset, .unset, .unset] [(.int (7 : Int32)), (.int xd)])) _
                    refine XS.icmpYes X423.here hx rfl (pc0 := 918) (pc' := 927) rfl (hb hby at_918) rfl (XT.ii_le_t hc918_487) (by decide) (by decide) ?_
                    refine XS.lload X423.here hx rfl (hb hby at_927) rfl ?_
                    refine Stand.ldc2J (g := (mkF m 929 #[.val (.long va), .second, .val (.int ra), .val (.int rb), .val (.int rx), .val (.int se), .val (.int ln), .val (.int ub), .val (.int qq), .val (.int ca), .val (.int cb), .val (.int cx), .val (.long mm), .second, .val (.ref ac), .val (.ref ol), .val (.int vd), .unset, .unset, .val (.int xd), .val (.int ad), .val (.long mm), .second, .unset, .unset, .unset, .unset] [(.long mm)])) X423 hx hown (mvT hZ (hw _ (List.mem_of_getElem? (i := 9) rfl))) rfl (hb hby at_929) ?_
                    refine XS.lmul X423.here hx rfl (hb hby at_932) rfl ?_
                    show Steps p.tables e below (T423.setTop (mkF m 933 #[.val (.long va), .second, .val (.int ra), .val (.int rb), .val (.int rx), .val (.int se), .val (.int ln), .val (.int ub), .val (.int qq), .val (.int ca), .val (.int cb), .val (.int cx), .val (.long mm), .second, .val (.ref ac), .val (.ref ol), .val (.int vd), .unset, .unset, .val (.int xd), .val (.int ad), .val (.long mm), .second, .unset, .unset, .unset, .unset] [(.long (mm * (10 : Int64)))])) _
                    refine XS.iload X423.here hx rfl (hb hby at_933) rfl ?_
                    refine XS.i2l X423.here hx rfl (hb hby at_935) rfl ?_
                    refine XS.ladd X423.here hx rfl (hb hby at_936) rfl ?_
                    refine XS.lstore X423.here hx rfl (hb hby at_937) rfl (l' := #[.val (.long va), .second, .val (.int ra), .val (.int rb), .val (.int rx), .val (.int se), .val (.int ln), .val (.int ub), .val (.int qq), .val (.int ca), .val (.int cb), .val (.int cx), .val (.long mm), .second, .val (.ref ac), .val (.ref ol), .val (.int vd), .val (.long ((mm * (10 : Int64)) + (xd.toInt64))), .second, .val (.int xd), .val (.int ad), .val (.long mm), .second, .unset, .unset, .unset, .unset]) rfl ?_
                    show Steps p.tables e below (T423.setTop (mkF m 939 #[.val (.long va), .second, .val (.int ra), .val (.int rb), .val (.int rx), .val (.int se), .val (.int ln), .val (.int ub), .val (.int qq), .val (.int ca), .val (.int cb), .val (.int cx), .val (.long mm), .second, .val (.ref ac), .val (.ref ol), .val (.int vd), .val (.long ((mm * (10 : Int64)) + (xd.toInt64))), .second, .val (.int xd), .val (.int ad), .val (.long mm), .second, .unset, .unset, .unset, .unset] [])) _
                    refine XS.aload X423.here hx rfl (hb hby at_939) rfl rfl ?_
                    show Steps p.tables e below (T423.setTop (mkF m 941 #[.val (.long va), .second, .val (.int ra), .val (.int rb), .val (.int rx), .val (.int se), .val (.int ln), .val (.int ub), .val (.int qq), .val (.int ca), .val (.int cb), .val (.int cx), .val (.long mm), .second, .val (.ref ac), .val (.ref ol), .val (.int vd), .val (.long ((mm * (10 : Int64)) + (xd.toInt64))), .second, .val (.int xd), .val (.int ad), .val (.long mm), .second, .unset, .unset, .unset, .unset] [(.ref ol)])) _
                    refine st492.trans ?_
                    show Steps p.tables e below (T492.setTop (mkF m 944 #[.val (.long va), .second, .val (.int ra), .val (.int rb), .val (.int rx), .val (.int se), .val (.int ln), .val (.int ub), .val (.int qq), .val (.int ca), .val (.int cb), .val (.int cx), .val (.long mm), .second, .val (.ref ac), .val (.ref ol), .val (.int vd), .val (.long ((mm * (10 : Int64)) + (xd.toInt64))), .second, .val (.int xd), .val (.int ad), .val (.long mm), .second, .unset, .unset, .unset, .unset] [(.int (nar .boolean (own_res fcc nn).1))])) _
                    refine XS.ifNo X492.here hx rfl (hb hby at_944) rfl (XT.i0_eq_f (own_nb1 hres)) ?_
                    refine XS.aload X492.here hx rfl (hb hby at_947) rfl rfl ?_
                    show Steps p.tables e below (T492.setTop (mkF m 949 #[.val (.long va), .second, .val (.int ra), .val (.int rb), .val (.int rx), .val (.int se), .val (.int ln), .val (.int ub), .val (.int qq), .val (.int ca), .val (.int cb), .val (.int cx), .val (.long mm), .second, .val (.ref ac), .val (.ref ol), .val (.int vd), .val (.long ((mm * (10 : Int64)) + (xd.toInt64))), .second, .val (.int xd), .val (.int ad), .val (.long mm), .second, .unset, .unset, .unset, .unset] [(.ref ol)])) _
                    refine st493.trans ?_
                    refine XS.lload X493.here hx rfl (hb hby at_952) rfl ?_
                    refine XT.lcmp X493.here hx rfl (hb hby at_954) rfl ?_
                    show Steps p.tables e below (T493.setTop (mkF m 955 #[.val (.long va), .second, .val (.int ra), .val (.int rb), .val (.int rx), .val (.int se), .val (.int ln), .val (.int ub), .val (.int qq), .val (.int ca), .val (.int cb), .val (.int cx), .val (.long mm), .second, .val (.ref ac), .val (.ref ol), .val (.int vd), .val (.long ((mm * (10 : Int64)) + (xd.toInt64))), .second, .val (.int xd), .val (.int ad), .val (.long mm), .second, .unset, .unset, .unset, .unset] [(.int (XT.cmpL (own_res fcc nn).2 ((mm * (10 : Int64)) + (xd.toInt64))))])) _
                    refine XS.ifNo X493.here hx rfl (hb hby at_955) rfl (XT.ll_ne_f ((own_20 hG hln hc761_461 (own_mid0 hG hc785_469) h_xd h_ad hc835_471).2 hc893_473 hc902_479 (Or.inr hc918_487))) ?_
                    refine XS.iconst X493.here hx rfl (hb hby at_958) ?_
                    refine XS.goto X493.here hx rfl (pc0 := 959) (pc' := 963) rfl (hb hby at_959) (by decide) (by decide) ?_
                    exact kt
                  have CK495 := CHr.keep (Z := Z) (EL := EL1) KK423 sf0 CC400.1
                  obtain ⟨fs, hr, hrun, hended, hEnd⟩ := X493.leaveW hS (by rw [hE493]; exact Nat.le_trans hk KK423.1) (v := some (.int (1 : Int32))) (fun h => by rw [Bd.returns] at h; cases h)
                  have CT := CK495.trans (CHv.at (s := s) (vm0 := T400.vm) X493 hZ hEL CK495.1)
                  refine ⟨_, _, pre494 _ ?_, hrun, hended, _, _, rfl, ?_, ?_, hEnd.1, hEnd.2.1, hEnd.2.2.1, hEnd.2.2.2.mono (by decide) (by decide)⟩
                  · show Steps p.tables e below (T493.setTop (mkF m 963 #[.val (.long va), .second, .val (.int ra), .val (.int rb), .val (.int rx), .val (.int se), .val (.int ln), .val (.int ub), .val (.int qq), .val (.int ca), .val (.int cb), .val (.int cx), .val (.long mm), .second, .val (.ref ac), .val (.ref ol), .val (.int vd), .val (.long ((mm * (10 : Int64)) + (xd.toInt64))), .second, .val (.int xd), .val (.int ad), .val (.long mm), .second, .unset, .unset, .unset, .unset] [(.int (1 : Int32))])) _
                    exact retN X493 hx (t := .boolean) Bd.returns (by simp) (hb hby at_963) hr
                  · show Q0 Z va ra rb rx se cs fmv em h0 n0 _ T493.heap _
                    rw [hE493]
                    exact ⟨rfl, N493⟩
                  · rw [hh]
                    show CHr Z EL1 s.vm h0 T493.vm T493.heap
                    rw [hE493]
                    exact CR411.trans CT
              · skip
                obtain ⟨cq496, kq496, q496a, q496b, q496c⟩ := isOf hZ rfl hf423_6
                obtain ⟨_, _, ⟨T496, L496, k496, n496⟩, -, X496, ⟨Lc496, hQ496, l496, y496, z496⟩, st496⟩ := X423.virtualBack hx (y := (⟨"java/util/OptionalLong", "isPresent", "()Z"⟩ : MethodName)) (z := (⟨"java/util/OptionalLong", "isPresent", "()Z"⟩ : MethodName)) hown (mvT hZ (hw _ (List.mem_of_getElem? (i := 121) rfl))) (mvT hZ (hw _ (List.mem_of_getElem? (i := 122) rfl))) (notFace_of_selects (args := #[]) (mvT hZ (hw _ (List.mem_of_getElem? (i := 124) rfl)))) (mvT hZ (hw _ (List.mem_of_getElem? (i := 124) rfl))) (mvT hZ (hw _ (List.mem_of_getElem? (i := 123) rfl))) (by decide) (backOf (W := 0) (rm22 l Z a0 hw [] ol (own_res fcc nn).1 (own_res fcc nn).2 T423.heap n0 Z423 hf423_6 hf423_7 hf423_8) hZ (hw _ (List.mem_of_getElem? (i := 125) rfl)) (hw _ (List.mem_of_getElem? (i := 105) rfl)) (by decide) (by decide)) q496a q496c (g := (mkF m 941 #[.val (.long va), .second, .val (.int ra), .val (.int rb), .val (.int rx), .val (.int se), .val (.int ln), .val (.int ub), .val (.int qq), .val (.int ca), .val (.int cb), .val (.int cx), .val (.long mm), .second, .val (.ref ac), .val (.ref ol), .val (.int vd), .val (.long ((mm * (10 : Int64)) + (xd.toInt64))), .second, .val (.int xd), .val (.int ad), .val (.long mm), .second, .unset, .unset, .unset, .unset] [(.ref ol)])) rfl (by rw [hml]; rfl) (Steps.refl _) (argsL := []) (rest := []) (lenOf pd_8 rfl) rfl (by show 2 * 0 + _ ≤ _; exact Nat.le_of_eq rfl) (hb hby at_941) (fun _ _ => ⟨rfl, rfl, (by decide : 28 + 0 ≤ _), (by decide : 445 + 0 ≤ _)⟩)
                dsimp only [Pt.U, Pt.locs, Pt.cells, Pt.slots] at X496 l496 y496 z496 st496 hQ496
                subst l496 y496 z496
                obtain ⟨rfl, N496q, hE496⟩ := hQ496
                have N496 := Fr.app N423 N496q
                obtain ⟨cq497, kq497, q497a, q497b, q497c⟩ := isOf hZ hE496 hf423_6
                obtain ⟨_, _, ⟨T497, L497, k497, n497⟩, -, X497, ⟨Lc497, hQ497, l497, y497, z497⟩, st497⟩ := X496.virtualBack hx (y := (⟨"java/util/OptionalLong", "getAsLong", "()J"⟩ : MethodName)) (z := (⟨"java/util/OptionalLong", "getAsLong", "()J"⟩ : MethodName)) hown (mvT hZ (hw _ (List.mem_of_getElem? (i := 126) rfl))) (mvT hZ (hw _ (List.mem_of_getElem? (i := 127) rfl))) (notFace_of_selects (args := #[]) (mvT hZ (hw _ (List.mem_of_getElem? (i := 129) rfl)))) (mvT hZ (hw _ (List.mem_of_getElem? (i := 129) rfl))) (mvT hZ (hw _ (List.mem_of_getElem? (i := 128) rfl))) (by decide) (backOf (W := 0) (rm23 l Z a0 hw [] ol (own_res fcc nn).1 (own_res fcc nn).2 T423.heap n0 Z423 hf423_6 hf423_7 hf423_8 hip) hZ (hw _ (List.mem_of_getElem? (i := 130) rfl)) (hw _ (List.mem_of_getElem? (i := 105) rfl)) (by decide) (by decide)) q497a q497c (g := (mkF m 949 #[.val (.long va), .second, .val (.int ra), .val (.int rb), .val (.int rx), .val (.int se), .val (.int ln), .val (.int ub), .val (.int qq), .val (.int ca), .val (.int cb), .val (.int cx), .val (.long mm), .second, .val (.ref ac), .val (.ref ol), .val (.int vd), .val (.long ((mm * (10 : Int64)) + (xd.toInt64))), .second, .val (.int xd), .val (.int ad), .val (.long mm), .second, .unset, .unset, .unset, .unset] [(.ref ol)])) rfl (by rw [hml]; rfl) (Steps.refl _) (argsL := []) (rest := []) (lenOf pd_19 rfl) rfl (by show 2 * 0 + _ ≤ _; exact Nat.le_of_eq rfl) (hb hby at_949) (fun _ _ => ⟨rfl, hE496, (by decide : 28 + 0 ≤ _), (by decide : 445 + 0 ≤ _)⟩)
                dsimp only [Pt.U, Pt.locs, Pt.cells, Pt.slots] at X497 l497 y497 z497 st497 hQ497
                subst l497 y497 z497
                obtain ⟨rfl, N497q, hE497⟩ := hQ497
                have N497 := Fr.app N496 N497q
                have pre498 : ∀ t, Steps p.tables e below (T497.setTop (mkF m 963 #[.val (.long va), .second, .val (.int ra), .val (.int rb), .val (.int rx), .val (.int se), .val (.int ln), .val (.int ub), .val (.int qq), .val (.int ca), .val (.int cb), .val (.int cx), .val (.long mm), .second, .val (.ref ac), .val (.ref ol), .val (.int vd), .val (.long ((mm * (10 : Int64)) + (xd.toInt64))), .second, .val (.int xd), .val (.int ad), .val (.long mm), .second, .unset, .unset, .unset, .unset] [(.int (1 : Int32))])) t → Steps p.tables e below (s₁.setTop (entryFrame m #[(.long va), (.int ra), (.int rb), (.int rx), (.int se)] maxLocals)) t := by
                  intro t kt
                  refine pre484 _ ?_
                  show Steps p.tables e below (T423.setTop (mkF m 911 #[.val (.long va), .second, .val (.int ra), .val (.int rb), .val (.int rx), .val (.int se), .val (.int ln), .val (.int ub), .val (.int qq), .val (.int ca), .val (.int cb), .val (.int cx), .val (.long mm), .second, .val (.ref ac), .val (.ref ol), .val (.int vd), .unset, .unset, .val (.int xd), .val (.int ad), .val (.long mm), .second, .unset, .unset, .unset, .unset] [(.int (XT.cmpL mm (922337203685477580 : Int64)))])) _
                  refine XS.ifYes X423.here hx rfl (pc0 := 911) (pc' := 927) rfl (hb hby at_911) rfl (XT.ll_ne_t hc911_485) (by decide) (by decide) ?_
                  refine XS.lload X423.here hx rfl (hb hby at_927) rfl ?_
                  refine Stand.ldc2J (g := (mkF m 929 #[.val (.long va), .second, .val (.int ra), .val (.int rb), .val (.int rx), .val (.int se), .val (.int ln), .val (.int ub), .val (.int qq), .val (.int ca), .val (.int cb), .val (.int cx), .val (.long mm), .second, .val (.ref ac), .val (.ref ol), .val (.int vd), .unset, .unset, .val (.int xd), .val (.int ad), .val (.long mm), .second, .unset, .unset, .unset, .unset] [(.long mm)])) X423 hx hown (mvT hZ (hw _ (List.mem_of_getElem? (i := 9) rfl))) rfl (hb hby at_929) ?_
                  refine XS.lmul X423.here hx rfl (hb hby at_932) rfl ?_
                  show Steps p.tables e below (T423.setTop (mkF m 933 #[.val (.long va), .second, .val (.int ra), .val (.int rb), .val (.int rx), .val (.int se), .val (.int ln), .val (.int ub), .val (.int qq), .val (.int ca), .val (.int cb), .val (.int cx), .val (.long mm), .second, .val (.ref ac), .val (.ref ol), .val (.int vd), .unset, .unset, .val (.int xd), .val (.int ad), .val (.long mm), .second, .unset, .unset, .unset, .unset] [(.long (mm * (10 : Int64)))])) _
                  refine XS.iload X423.here hx rfl (hb hby at_933) rfl ?_
                  refine XS.i2l X423.here hx rfl (hb hby at_935) rfl ?_
                  refine XS.ladd X423.here hx rfl (hb hby at_936) rfl ?_
                  refine XS.lstore X423.here hx rfl (hb hby at_937) rfl (l' := #[.val (.long va), .second, .val (.int ra), .val (.int rb), .val (.int rx), .val (.int se), .val (.int ln), .val (.int ub), .val (.int qq), .val (.int ca), .val (.int cb), .val (.int cx), .val (.long mm), .second, .val (.ref ac), .val (.ref ol), .val (.int vd), .val (.long ((mm * (10 : Int64)) + (xd.toInt64))), .second, .val (.int xd), .val (.int ad), .val (.long mm), .second, .unset, .unset, .unset, .unset]) rfl ?_
                  show Steps p.tables e below (T423.setTop (mkF m 939 #[.val (.long va), .second, .val (.int ra), .val (.int rb), .val (.int rx), .val (.int se), .val (.int ln), .val (.int ub), .val (.int qq), .val (.int ca), .val (.int cb), .val (.int cx), .val (.long mm), .second, .val (.ref ac), .val (.ref ol), .val (.int vd), .val (.long ((mm * (10 : Int64)) + (xd.toInt64))), .second, .val (.int xd), .val (.int ad), .val (.long mm), .second, .unset, .unset, .unset, .unset] [])) _
                  refine XS.aload X423.here hx rfl (hb hby at_939) rfl rfl ?_
                  show Steps p.tables e below (T423.setTop (mkF m 941 #[.val (.long va), .second, .val (.int ra), .val (.int rb), .val (.int rx), .val (.int se), .val (.int ln), .val (.int ub), .val (.int qq), .val (.int ca), .val (.int cb), .val (.int cx), .val (.long mm), .second, .val (.ref ac), .val (.ref ol), .val (.int vd), .val (.long ((mm * (10 : Int64)) + (xd.toInt64))), .second, .val (.int xd), .val (.int ad), .val (.long mm), .second, .unset, .unset, .unset, .unset] [(.ref ol)])) _
                  refine st496.trans ?_
                  show Steps p.tables e below (T496.setTop (mkF m 944 #[.val (.long va), .second, .val (.int ra), .val (.int rb), .val (.int rx), .val (.int se), .val (.int ln), .val (.int ub), .val (.int qq), .val (.int ca), .val (.int cb), .val (.int cx), .val (.long mm), .second, .val (.ref ac), .val (.ref ol), .val (.int vd), .val (.long ((mm * (10 : Int64)) + (xd.toInt64))), .second, .val (.int xd), .val (.int ad), .val (.long mm), .second, .unset, .unset, .unset, .unset] [(.int (nar .boolean (own_res fcc nn).1))])) _
                  refine XS.ifNo X496.here hx rfl (hb hby at_944) rfl (XT.i0_eq_f (own_nb1 hres)) ?_
                  refine XS.aload X496.here hx rfl (hb hby at_947) rfl rfl ?_
                  show Steps p.tables e below (T496.setTop (mkF m 949 #[.val (.long va), .second, .val (.int ra), .val (.int rb), .val (.int rx), .val (.int se), .val (.int ln), .val (.int ub), .val (.int qq), .val (.int ca), .val (.int cb), .val (.int cx), .val (.long mm), .second, .val (.ref ac), .val (.ref ol), .val (.int vd), .val (.long ((mm * (10 : Int64)) + (xd.toInt64))), .second, .val (.int xd), .val (.int ad), .val (.long mm), .second, .unset, .unset, .unset, .unset] [(.ref ol)])) _
                  refine st497.trans ?_
                  refine XS.lload X497.here hx rfl (hb hby at_952) rfl ?_
                  refine XT.lcmp X497.here hx rfl (hb hby at_954) rfl ?_
                  show Steps p.tables e below (T497.setTop (mkF m 955 #[.val (.long va), .second, .val (.int ra), .val (.int rb), .val (.int rx), .val (.int se), .val (.int ln), .val (.int ub), .val (.int qq), .val (.int ca), .val (.int cb), .val (.int cx), .val (.long mm), .second, .val (.ref ac), .val (.ref ol), .val (.int vd), .val (.long ((mm * (10 : Int64)) + (xd.toInt64))), .second, .val (.int xd), .val (.int ad), .val (.long mm), .second, .unset, .unset, .unset, .unset] [(.int (XT.cmpL (own_res fcc nn).2 ((mm * (10 : Int64)) + (xd.toInt64))))])) _
                  refine XS.ifNo X497.here hx rfl (hb hby at_955) rfl (XT.ll_ne_f ((own_20 hG hln hc761_461 (own_mid0 hG hc785_469) h_xd h_ad hc835_471).2 hc893_473 hc902_479 (Or.inl hc911_485))) ?_
                  refine XS.iconst X497.here hx rfl (hb hby at_958) ?_
                  refine XS.goto X497.here hx rfl (pc0 := 959) (pc' := 963) rfl (hb hby at_959) (by decide) (by decide) ?_
                  exact kt
                have CK499 := CHr.keep (Z := Z) (EL := EL1) KK423 sf0 CC400.1
                obtain ⟨fs, hr, hrun, hended, hEnd⟩ := X497.leaveW hS (by rw [hE497]; exact Nat.le_trans hk KK423.1) (v := some (.int (1 : Int32))) (fun h => by rw [Bd.returns] at h; cases h)
                have CT := CK499.trans (CHv.at (s := s) (vm0 := T400.vm) X497 hZ hEL CK499.1)
                refine ⟨_, _, pre498 _ ?_, hrun, hended, _, _, rfl, ?_, ?_, hEnd.1, hEnd.2.1, hEnd.2.2.1, hEnd.2.2.2.mono (by decide) (by decide)⟩
                · show Steps p.tables e below (T497.setTop (mkF m 963 #[.val (.long va), .second, .val (.int ra), .val (.int rb), .val (.int rx), .val (.int se), .val (.int ln), .val (.int ub), .val (.int qq), .val (.int ca), .val (.int cb), .val (.int cx), .val (.long mm), .second, .val (.ref ac), .val (.ref ol), .val (.int vd), .val (.long ((mm * (10 : Int64)) + (xd.toInt64))), .second, .val (.int xd), .val (.int ad), .val (.long mm), .second, .unset, .unset, .unset, .unset] [(.int (1 : Int32))])) _
                  exact retN X497 hx (t := .boolean) Bd.returns (by simp) (hb hby at_963) hr
                · show Q0 Z va ra rb rx se cs fmv em h0 n0 _ T497.heap _
                  rw [hE497]
                  exact ⟨rfl, N497⟩
                · rw [hh]
                  show CHr Z EL1 s.vm h0 T497.vm T497.heap
                  rw [hE497]
                  exact CR411.trans CT
        · skip
          obtain ⟨_, _, ⟨T500, L500, k500, n500⟩, -, X500, ⟨Lc500, hQ500, l500, y500, z500⟩, st500⟩ := Jvm.LawKit.callS X423 hx (y := (⟨"com/example/relent/relent/WholeNumbersUnsignedPinLaw", "pow10", "(I)J"⟩ : MethodName)) hown (mvT hZ (hw _ (List.mem_of_getElem? (i := 5) rfl))) (mvT hZ (hw _ (List.mem_of_getElem? (i := 6) rfl))) (mvT hZ (hw _ (List.mem_of_getElem? (i := 2) rfl))) (mvT hZ (hw _ (List.mem_of_getElem? (i := 7) rfl))) (by decide) (backOf (W := 2) (rm2 l Z a0 hw [] (ln - (1 : Int32)) (nn - 1) T423.heap n0 Z423 (own_q1 hG hln hc835_471).1 (own_q1 hG hln hc835_471).2) hZ (hw _ (List.mem_of_getElem? (i := 7) rfl)) (hw _ (List.mem_of_getElem? (i := 2) rfl)) (by decide) (by decide)) (g := (mkF m 845 #[.val (.long va), .second, .val (.int ra), .val (.int rb), .val (.int rx), .val (.int se), .val (.int ln), .val (.int ub), .val (.int qq), .val (.int ca), .val (.int cb), .val (.int cx), .val (.long mm), .second, .val (.ref ac), .val (.ref ol), .val (.int vd), .unset, .unset, .val (.int xd), .val (.int ad), .val (.long mm), .second, .unset, .unset, .unset, .unset] [(.int (ln - (1 : Int32))), (.long (ad.toInt64))])) rfl (by rw [hml]; rfl) (argsL := [(.int (ln - (1 : Int32)))]) (rest := [(.long (ad.toInt64))]) (lenOf pd_0 rfl) rfl (by show 2 * 0 + _ ≤ _; exact Nat.le_of_eq rfl) (hb hby at_845) (fun _ _ => ⟨rfl, rfl, (by decide : 28 + 1 ≤ _), (by decide : 445 + 19 ≤ _)⟩)
          dsimp only [Pt.U, Pt.locs, Pt.cells, Pt.slots] at X500 l500 y500 z500 st500 hQ500
          subst l500 y500 z500
          obtain ⟨rfl, N500q, K500⟩ := hQ500
          have N500 := Fr.app N423 N500q
          have f501 := hf423_0.keep K500 all0
          have f502 := hf423_1.keep K500 nin0
          have f503 := hf423_2.keep K500
          have f504 := hf423_3.keep K500 nin0
          have f505 := hf423_4.keep K500 nin0
          have f506 := hf423_5.keep K500 nin0
          have f507 := hf423_6.keep K500
          have f508 := hf423_7.keep K500 nin0
          have f509 := hf423_8.keep K500 nin0
          have Z510 := Nat.le_trans Z423 K500.1
          have K511 := K423.trans K500 all0
          have K512 := KK423.trans K500 all0
          have pre513 : ∀ t, Steps p.tables e below (T500.setTop (mkF m 849 #[.val (.long va), .second, .val (.int ra), .val (.int rb), .val (.int rx), .val (.int se), .val (.int ln), .val (.int ub), .val (.int qq), .val (.int ca), .val (.int cb), .val (.int cx), .val (.long mm), .second, .val (.ref ac), .val (.ref ol), .val (.int vd), .unset, .unset, .val (.int xd), .val (.int ad), .val (.long mm), .second, .unset, .unset, .unset, .unset] [(.long ((ad.toInt64) * (own_p10 (nn - 1))))])) t → Steps p.tables e below (s₁.setTop (entryFrame m #[(.long va), (.int ra), (.int rb), (.int rx), (.int se)] maxLocals)) t := by
            intro t kt
            refine pre470 _ ?_
            show Steps p.tables e below (T423.setTop (mkF m 835 #[.val (.long va), .second, .val (.int ra), .val (.int rb), .val (.int rx), .val (.int se), .val (.int ln), .val (.int ub), .val (.int qq), .val (.int ca), .val (.int cb), .val (.int cx), .val (.long mm), .second, .val (.ref ac), .val (.ref ol), .val (.int vd), .unset, .unset, .val (.int xd), .val (.int ad), .val (.long mm), .second, .unset, .unset, .unset, .unset] [(.int (19 : Int32)), (.int ln)])) _
            refine XS.icmpNo X423.here hx rfl (hb hby at_835) rfl (XT.ii_gt_f hc835_471) ?_
            refine XS.iload X423.here hx rfl (hb hby at_838) rfl ?_
            refine XS.i2l X423.here hx rfl (hb hby at_840) rfl ?_
            refine XS.iload X423.here hx rfl (hb hby at_841) rfl ?_
            show Steps p.tables e below (T423.setTop (mkF m 843 #[.val (.long va), .second, .val (.int ra), .val (.int rb), .val (.int rx), .val (.int se), .val (.int ln), .val (.int ub), .val (.int qq), .val (.int ca), .val (.int cb), .val (.int cx), .val (.long mm), .second, .val (.ref ac), .val (.ref ol), .val (.int vd), .unset, .unset, .val (.int xd), .val (.int ad), .val (.long mm), .second, .unset, .unset, .unset, .unset] [(.int ln), (.long (ad.toInt64))])) _
            refine XS.iconst X423.here hx rfl (hb hby at_843) ?_
            refine XS.isub X423.here hx rfl (hb hby at_844) rfl ?_
            show Steps p.tables e below (T423.setTop (mkF m 845 #[.val (.long va), .second, .val (.int ra), .val (.int rb), .val (.int rx), .val (.int se), .val (.int ln), .val (.int ub), .val (.int qq), .val (.int ca), .val (.int cb), .val (.int cx), .val (.long mm), .second, .val (.ref ac), .val (.ref ol), .val (.int vd), .unset, .unset, .val (.int xd), .val (.int ad), .val (.long mm), .second, .unset, .unset, .unset, .unset] [(.int (ln - (1 : Int32))), (.long (ad.toInt64))])) _
            refine st500 _ ?_
            refine XS.lmul X500.here hx rfl (hb hby at_848) rfl ?_
            exact kt
          obtain ⟨wh, h_wh⟩ : ∃ z : Int64, z = ((ad.toInt64) * (own_p10 (nn - 1))) := ⟨_, rfl⟩
          have pre514 : ∀ t, Steps p.tables e below (T500.setTop (mkF m 849 #[.val (.long va), .second, .val (.int ra), .val (.int rb), .val (.int rx), .val (.int se), .val (.int ln), .val (.int ub), .val (.int qq), .val (.int ca), .val (.int cb), .val (.int cx), .val (.long mm), .second, .val (.ref ac), .val (.ref ol), .val (.int vd), .unset, .unset, .val (.int xd), .val (.int ad), .val (.long mm), .second, .unset, .unset, .unset, .unset] [(.long wh)])) t → Steps p.tables e below (s₁.setTop (entryFrame m #[(.long va), (.int ra), (.int rb), (.int rx), (.int se)] maxLocals)) t := by
            intro t kt
            rw [h_wh] at kt
            exact pre513 _ kt
          have pre515 : ∀ t, Steps p.tables e below (T500.setTop (mkF m 861 #[.val (.long va), .second, .val (.int ra), .val (.int rb), .val (.int rx), .val (.int se), .val (.int ln), .val (.int ub), .val (.int qq), .val (.int ca), .val (.int cb), .val (.int cx), .val (.long mm), .second, .val (.ref ac), .val (.ref ol), .val (.int vd), .unset, .unset, .val (.int xd), .val (.int ad), .val (.long mm), .second, .val (.long wh), .second, .unset, .unset] [(.long ((mm * (10 : Int64)) + (xd.toInt64)))])) t → Steps p.tables e below (s₁.setTop (entryFrame m #[(.long va), (.int ra), (.int rb), (.int rx), (.int se)] maxLocals)) t := by
            intro t kt
            refine pre514 _ ?_
            refine XS.lstore X500.here hx rfl (hb hby at_849) rfl (l' := #[.val (.long va), .second, .val (.int ra), .val (.int rb), .val (.int rx), .val (.int se), .val (.int ln), .val (.int ub), .val (.int qq), .val (.int ca), .val (.int cb), .val (.int cx), .val (.long mm), .second, .val (.ref ac), .val (.ref ol), .val (.int vd), .unset, .unset, .val (.int xd), .val (.int ad), .val (.long mm), .second, .val (.long wh), .second, .unset, .unset]) rfl ?_
            refine XS.lload X500.here hx rfl (hb hby at_851) rfl ?_
            show Steps p.tables e below (T500.setTop (mkF m 853 #[.val (.long va), .second, .val (.int ra), .val (.int rb), .val (.int rx), .val (.int se), .val (.int ln), .val (.int ub), .val (.int qq), .val (.int ca), .val (.int cb), .val (.int cx), .val (.long mm), .second, .val (.ref ac), .val (.ref ol), .val (.int vd), .unset, .unset, .val (.int xd), .val (.int ad), .val (.long mm), .second, .val (.long wh), .second, .unset, .unset] [(.long mm)])) _
            refine Stand.ldc2J (g := (mkF m 853 #[.val (.long va), .second, .val (.int ra), .val (.int rb), .val (.int rx), .val (.int se), .val (.int ln), .val (.int ub), .val (.int qq), .val (.int ca), .val (.int cb), .val (.int cx), .val (.long mm), .second, .val (.ref ac), .val (.ref ol), .val (.int vd), .unset, .unset, .val (.int xd), .val (.int ad), .val (.long mm), .second, .val (.long wh), .second, .unset, .unset] [(.long mm)])) X500 hx hown (mvT hZ (hw _ (List.mem_of_getElem? (i := 9) rfl))) rfl (hb hby at_853) ?_
            refine XS.lmul X500.here hx rfl (hb hby at_856) rfl ?_
            refine XS.iload X500.here hx rfl (hb hby at_857) rfl ?_
            refine XS.i2l X500.here hx rfl (hb hby at_859) rfl ?_
            show Steps p.tables e below (T500.setTop (mkF m 860 #[.val (.long va), .second, .val (.int ra), .val (.int rb), .val (.int rx), .val (.int se), .val (.int ln), .val (.int ub), .val (.int qq), .val (.int ca), .val (.int cb), .val (.int cx), .val (.long mm), .second, .val (.ref ac), .val (.ref ol), .val (.int vd), .unset, .unset, .val (.int xd), .val (.int ad), .val (.long mm), .second, .val (.long wh), .second, .unset, .unset] [(.long (xd.toInt64)), (.long (mm * (10 : Int64)))])) _
            refine XS.ladd X500.here hx rfl (hb hby at_860) rfl ?_
            exact kt
          obtain ⟨wl, h_wl⟩ : ∃ z : Int64, z = ((mm * (10 : Int64)) + (xd.toInt64)) := ⟨_, rfl⟩
          have pre516 : ∀ t, Steps p.tables e below (T500.setTop (mkF m 861 #[.val (.long va), .second, .val (.int ra), .val (.int rb), .val (.int rx), .val (.int se), .val (.int ln), .val (.int ub), .val (.int qq), .val (.int ca), .val (.int cb), .val (.int cx), .val (.long mm), .second, .val (.ref ac), .val (.ref ol), .val (.int vd), .unset, .unset, .val (.int xd), .val (.int ad), .val (.long mm), .second, .val (.long wh), .second, .unset, .unset] [(.long wl)])) t → Steps p.tables e below (s₁.setTop (entryFrame m #[(.long va), (.int ra), (.int rb), (.int rx), (.int se)] maxLocals)) t := by
            intro t kt
            rw [h_wl] at kt
            exact pre515 _ kt
          have pre517 : ∀ t, Steps p.tables e below (T500.setTop (mkF m 872 #[.val (.long va), .second, .val (.int ra), .val (.int rb), .val (.int rx), .val (.int se), .val (.int ln), .val (.int ub), .val (.int qq), .val (.int ca), .val (.int cb), .val (.int cx), .val (.long mm), .second, .val (.ref ac), .val (.ref ol), .val (.int vd), .unset, .unset, .val (.int xd), .val (.int ad), .val (.long mm), .second, .val (.long wh), .second, .val (.long wl), .second] [(.int (XT.cmpL wl ((9223372036854775807 : Int64) - wh)))])) t → Steps p.tables e below (s₁.setTop (entryFrame m #[(.long va), (.int ra), (.int rb), (.int rx), (.int se)] maxLocals)) t := by
            intro t kt
            refine pre516 _ ?_
            refine XS.lstore X500.here hx rfl (hb hby at_861) rfl (l' := #[.val (.long va), .second, .val (.int ra), .val (.int rb), .val (.int rx), .val (.int se), .val (.int ln), .val (.int ub), .val (.int qq), .val (.int ca), .val (.int cb), .val (.int cx), .val (.long mm), .second, .val (.ref ac), .val (.ref ol), .val (.int vd), .unset, .unset, .val (.int xd), .val (.int ad), .val (.long mm), .second, .val (.long wh), .second, .val (.long wl), .second]) rfl ?_
            refine XS.lload X500.here hx rfl (hb hby at_863) rfl ?_
            refine Stand.ldc2J (g := (mkF m 865 #[.val (.long va), .second, .val (.int ra), .val (.int rb), .val (.int rx), .val (.int se), .val (.int ln), .val (.int ub), .val (.int qq), .val (.int ca), .val (.int cb), .val (.int cx), .val (.long mm), .second, .val (.ref ac), .val (.ref ol), .val (.int vd), .unset, .unset, .val (.int xd), .val (.int ad), .val (.long mm), .second, .val (.long wh), .second, .val (.long wl), .second] [(.long wl)])) X500 hx hown (mvT hZ (hw _ (List.mem_of_getElem? (i := 4) rfl))) rfl (hb hby at_865) ?_
            show Steps p.tables e below (T500.setTop (mkF m 868 #[.val (.long va), .second, .val (.int ra), .val (.int rb), .val (.int rx), .val (.int se), .val (.int ln), .val (.int ub), .val (.int qq), .val (.int ca), .val (.int cb), .val (.int cx), .val (.long mm), .second, .val (.ref ac), .val (.ref ol), .val (.int vd), .unset, .unset, .val (.int xd), .val (.int ad), .val (.long mm), .second, .val (.long wh), .second, .val (.long wl), .second] [(.long (9223372036854775807 : Int64)), (.long wl)])) _
            refine XS.lload X500.here hx rfl (hb hby at_868) rfl ?_
            refine XS.lsub X500.here hx rfl (hb hby at_870) rfl ?_
            refine XT.lcmp X500.here hx rfl (hb hby at_871) rfl ?_
            exact kt
          by_cases hc872_518 : ((9223372036854775807 : Int64) - wh) < wl
          · skip
            obtain ⟨cq519, kq519, q519a, q519b, q519c⟩ := isOf hZ rfl f507
            obtain ⟨_, _, ⟨T519, L519, k519, n519⟩, -, X519, ⟨Lc519, hQ519, l519, y519, z519⟩, st519⟩ := X500.virtualBack hx (y := (⟨"java/util/OptionalLong", "isPresent", "()Z"⟩ : MethodName)) (z := (⟨"java/util/OptionalLong", "isPresent", "()Z"⟩ : MethodName)) hown (mvT hZ (hw _ (List.mem_of_getElem? (i := 121) rfl))) (mvT hZ (hw _ (List.mem_of_getElem? (i := 122) rfl))) (notFace_of_selects (args := #[]) (mvT hZ (hw _ (List.mem_of_getElem? (i := 124) rfl)))) (mvT hZ (hw _ (List.mem_of_getElem? (i := 124) rfl))) (mvT hZ (hw _ (List.mem_of_getElem? (i := 123) rfl))) (by decide) (backOf (W := 0) (rm22 l Z a0 hw [] ol (own_res fcc nn).1 (own_res fcc nn).2 T500.heap n0 Z510 f507 f508 f509) hZ (hw _ (List.mem_of_getElem? (i := 125) rfl)) (hw _ (List.mem_of_getElem? (i := 105) rfl)) (by decide) (by decide)) q519a q519c (g := (mkF m 941 #[.val (.long va), .second, .val (.int ra), .val (.int rb), .val (.int rx), .val (.int se), .val (.int ln), .val (.int ub), .val (.int qq), .val (.int ca), .val (.int cb), .val (.int cx), .val (.long mm), .second, .val (.ref ac), .val (.ref ol), .val (.int vd), .val (.long (9223372036854775807 : Int64)), .second, .val (.int xd), .val (.int ad), .val (.long mm), .second, .val (.long wh), .second, .val (.long wl), .second] [(.ref ol)])) rfl (by rw [hml]; rfl) (Steps.refl _) (argsL := []) (rest := []) (lenOf pd_8 rfl) rfl (by show 2 * 0 + _ ≤ _; exact Nat.le_of_eq rfl) (hb hby at_941) (fun _ _ => ⟨rfl, rfl, (by decide : 29 + 0 ≤ _), (by decide : 464 + 0 ≤ _)⟩)
            dsimp only [Pt.U, Pt.locs, Pt.cells, Pt.slots] at X519 l519 y519 z519 st519 hQ519
            subst l519 y519 z519
            obtain ⟨rfl, N519q, hE519⟩ := hQ519
            have N519 := Fr.app N500 N519q
            obtain ⟨cq520, kq520, q520a, q520b, q520c⟩ := isOf hZ hE519 f507
            obtain ⟨_, _, ⟨T520, L520, k520, n520⟩, -, X520, ⟨Lc520, hQ520, l520, y520, z520⟩, st520⟩ := X519.virtualBack hx (y := (⟨"java/util/OptionalLong", "getAsLong", "()J"⟩ : MethodName)) (z := (⟨"java/util/OptionalLong", "getAsLong", "()J"⟩ : MethodName)) hown (mvT hZ (hw _ (List.mem_of_getElem? (i := 126) rfl))) (mvT hZ (hw _ (List.mem_of_getElem? (i := 127) rfl))) (notFace_of_selects (args := #[]) (mvT hZ (hw _ (List.mem_of_getElem? (i := 129) rfl)))) (mvT hZ (hw _ (List.mem_of_getElem? (i := 129) rfl))) (mvT hZ (hw _ (List.mem_of_getElem? (i := 128) rfl))) (by decide) (backOf (W := 0) (rm23 l Z a0 hw [] ol (own_res fcc nn).1 (own_res fcc nn).2 T500.heap n0 Z510 f507 f508 f509 hip) hZ (hw _ (List.mem_of_getElem? (i := 130) rfl)) (hw _ (List.mem_of_getElem? (i := 105) rfl)) (by decide) (by decide)) q520a q520c (g := (mkF m 949 #[.val (.long va), .second, .val (.int ra), .val (.int rb), .val (.int rx), .val (.int se), .val (.int ln), .val (.int ub), .val (.int qq), .val (.int ca), .val (.int cb), .val (.int cx), .val (.long mm), .second, .val (.ref ac), .val (.ref ol), .val (.int vd), .val (.long (9223372036854775807 : Int64)), .second, .val (.int xd), .val (.int ad), .val (.long mm), .second, .val (.long wh), .second, .val (.long wl), .second] [(.ref ol)])) rfl (by rw [hml]; rfl) (Steps.refl _) (argsL := []) (rest := []) (lenOf pd_19 rfl) rfl (by show 2 * 0 + _ ≤ _; exact Nat.le_of_eq rfl) (hb hby at_949) (fun _ _ => ⟨rfl, hE519, (by decide : 29 + 0 ≤ _), (by decide : 464 + 0 ≤ _)⟩)
            dsimp only [Pt.U, Pt.locs, Pt.cells, Pt.slots] at X520 l520 y520 z520 st520 hQ520
            subst l520 y520 z520
            obtain ⟨rfl, N520q, hE520⟩ := hQ520
            have N520 := Fr.app N519 N520q
            have pre521 : ∀ t, Steps p.tables e below (T520.setTop (mkF m 963 #[.val (.long va), .second, .val (.int ra), .val (.int rb), .val (.int rx), .val (.int se), .val (.int ln), .val (.int ub), .val (.int qq), .val (.int ca), .val (.int cb), .val (.int cx), .val (.long mm), .second, .val (.ref ac), .val (.ref ol), .val (.int vd), .val (.long (9223372036854775807 : Int64)), .second, .val (.int xd), .val (.int ad), .val (.long mm), .second, .val (.long wh), .second, .val (.long wl), .second] [(.int (1 : Int32))])) t → Steps p.tables e below (s₁.setTop (entryFrame m #[(.long va), (.int ra), (.int rb), (.int rx), (.int se)] maxLocals)) t := by
              intro t kt
              refine pre517 _ ?_
              show Steps p.tables e below (T500.setTop (mkF m 872 #[.val (.long va), .second, .val (.int ra), .val (.int rb), .val (.int rx), .val (.int se), .val (.int ln), .val (.int ub), .val (.int qq), .val (.int ca), .val (.int cb), .val (.int cx), .val (.long mm), .second, .val (.ref ac), .val (.ref ol), .val (.int vd), .unset, .unset, .val (.int xd), .val (.int ad), .val (.long mm), .second, .val (.long wh), .second, .val (.long wl), .second] [(.int (XT.cmpL wl ((9223372036854775807 : Int64) - wh)))])) _
              refine XS.ifNo X500.here hx rfl (hb hby at_872) rfl (XT.ll_le_f hc872_518) ?_
              refine Stand.ldc2J (g := (mkF m 875 #[.val (.long va), .second, .val (.int ra), .val (.int rb), .val (.int rx), .val (.int se), .val (.int ln), .val (.int ub), .val (.int qq), .val (.int ca), .val (.int cb), .val (.int cx), .val (.long mm), .second, .val (.ref ac), .val (.ref ol), .val (.int vd), .unset, .unset, .val (.int xd), .val (.int ad), .val (.long mm), .second, .val (.long wh), .second, .val (.long wl), .second] [])) X500 hx hown (mvT hZ (hw _ (List.mem_of_getElem? (i := 4) rfl))) rfl (hb hby at_875) ?_
              refine XS.goto X500.here hx rfl (pc0 := 878) (pc' := 886) rfl (hb hby at_878) (by decide) (by decide) ?_
              refine XS.lstore X500.here hx rfl (hb hby at_886) rfl (l' := #[.val (.long va), .second, .val (.int ra), .val (.int rb), .val (.int rx), .val (.int se), .val (.int ln), .val (.int ub), .val (.int qq), .val (.int ca), .val (.int cb), .val (.int cx), .val (.long mm), .second, .val (.ref ac), .val (.ref ol), .val (.int vd), .val (.long (9223372036854775807 : Int64)), .second, .val (.int xd), .val (.int ad), .val (.long mm), .second, .val (.long wh), .second, .val (.long wl), .second]) rfl ?_
              show Steps p.tables e below (T500.setTop (mkF m 888 #[.val (.long va), .second, .val (.int ra), .val (.int rb), .val (.int rx), .val (.int se), .val (.int ln), .val (.int ub), .val (.int qq), .val (.int ca), .val (.int cb), .val (.int cx), .val (.long mm), .second, .val (.ref ac), .val (.ref ol), .val (.int vd), .val (.long (9223372036854775807 : Int64)), .second, .val (.int xd), .val (.int ad), .val (.long mm), .second, .val (.long wh), .second, .val (.long wl), .second] [])) _
              refine XS.goto X500.here hx rfl (pc0 := 888) (pc' := 939) rfl (hb hby at_888) (by decide) (by decide) ?_
              refine XS.aload X500.here hx rfl (hb hby at_939) rfl rfl ?_
              show Steps p.tables e below (T500.setTop (mkF m 941 #[.val (.long va), .second, .val (.int ra), .val (.int rb), .val (.int rx), .val (.int se), .val (.int ln), .val (.int ub), .val (.int qq), .val (.int ca), .val (.int cb), .val (.int cx), .val (.long mm), .second, .val (.ref ac), .val (.ref ol), .val (.int vd), .val (.long (9223372036854775807 : Int64)), .second, .val (.int xd), .val (.int ad), .val (.long mm), .second, .val (.long wh), .second, .val (.long wl), .second] [(.ref ol)])) _
              refine st519.trans ?_
              show Steps p.tables e below (T519.setTop (mkF m 944 #[.val (.long va), .second, .val (.int ra), .val (.int rb), .val (.int rx), .val (.int se), .val (.int ln), .val (.int ub), .val (.int qq), .val (.int ca), .val (.int cb), .val (.int cx), .val (.long mm), .second, .val (.ref ac), .val (.ref ol), .val (.int vd), .val (.long (9223372036854775807 : Int64)), .second, .val (.int xd), .val (.int ad), .val (.long mm), .second, .val (.long wh), .second, .val (.long wl), .second] [(.int (nar .boolean (own_res fcc nn).1))])) _
              refine XS.ifNo X519.here hx rfl (hb hby at_944) rfl (XT.i0_eq_f (own_nb1 hres)) ?_
              refine XS.aload X519.here hx rfl (hb hby at_947) rfl rfl ?_
              show Steps p.tables e below (T519.setTop (mkF m 949 #[.val (.long va), .second, .val (.int ra), .val (.int rb), .val (.int rx), .val (.int se), .val (.int ln), .val (.int ub), .val (.int qq), .val (.int ca), .val (.int cb), .val (.int cx), .val (.long mm), .second, .val (.ref ac), .val (.ref ol), .val (.int vd), .val (.long (9223372036854775807 : Int64)), .second, .val (.int xd), .val (.int ad), .val (.long mm), .second, .val (.long wh), .second, .val (.long wl), .second] [(.ref ol)])) _
              refine st520.trans ?_
              refine XS.lload X520.here hx rfl (hb hby at_952) rfl ?_
              refine XT.lcmp X520.here hx rfl (hb hby at_954) rfl ?_
              show Steps p.tables e below (T520.setTop (mkF m 955 #[.val (.long va), .second, .val (.int ra), .val (.int rb), .val (.int rx), .val (.int se), .val (.int ln), .val (.int ub), .val (.int qq), .val (.int ca), .val (.int cb), .val (.int cx), .val (.long mm), .second, .val (.ref ac), .val (.ref ol), .val (.int vd), .val (.long (9223372036854775807 : Int64)), .second, .val (.int xd), .val (.int ad), .val (.long mm), .second, .val (.long wh), .second, .val (.long wl), .second] [(.int (XT.cmpL (own_res fcc nn).2 (9223372036854775807 : Int64)))])) _
              refine XS.ifNo X520.here hx rfl (hb hby at_955) rfl (XT.ll_ne_f ((own_19 hG hln hc761_461 (own_mid0 hG hc785_469) h_xd h_ad hc835_471 h_wh h_wl).1 hc872_518)) ?_
              refine XS.iconst X520.here hx rfl (hb hby at_958) ?_
              refine XS.goto X520.here hx rfl (pc0 := 959) (pc' := 963) rfl (hb hby at_959) (by decide) (by decide) ?_
              exact kt
            have CK522 := CHr.keep (Z := Z) (EL := EL1) K512 sf0 CC400.1
            obtain ⟨fs, hr, hrun, hended, hEnd⟩ := X520.leaveW hS (by rw [hE520]; exact Nat.le_trans hk K512.1) (v := some (.int (1 : Int32))) (fun h => by rw [Bd.returns] at h; cases h)
            have CT := CK522.trans (CHv.at (s := s) (vm0 := T400.vm) X520 hZ hEL CK522.1)
            refine ⟨_, _, pre521 _ ?_, hrun, hended, _, _, rfl, ?_, ?_, hEnd.1, hEnd.2.1, hEnd.2.2.1, hEnd.2.2.2.mono (by decide) (by decide)⟩
            · show Steps p.tables e below (T520.setTop (mkF m 963 #[.val (.long va), .second, .val (.int ra), .val (.int rb), .val (.int rx), .val (.int se), .val (.int ln), .val (.int ub), .val (.int qq), .val (.int ca), .val (.int cb), .val (.int cx), .val (.long mm), .second, .val (.ref ac), .val (.ref ol), .val (.int vd), .val (.long (9223372036854775807 : Int64)), .second, .val (.int xd), .val (.int ad), .val (.long mm), .second, .val (.long wh), .second, .val (.long wl), .second] [(.int (1 : Int32))])) _
              exact retN X520 hx (t := .boolean) Bd.returns (by simp) (hb hby at_963) hr
            · show Q0 Z va ra rb rx se cs fmv em h0 n0 _ T520.heap _
              rw [hE520]
              exact ⟨rfl, N520⟩
            · rw [hh]
              show CHr Z EL1 s.vm h0 T520.vm T520.heap
              rw [hE520]
              exact CR411.trans CT
          · skip
            obtain ⟨cq523, kq523, q523a, q523b, q523c⟩ := isOf hZ rfl f507
            obtain ⟨_, _, ⟨T523, L523, k523, n523⟩, -, X523, ⟨Lc523, hQ523, l523, y523, z523⟩, st523⟩ := X500.virtualBack hx (y := (⟨"java/util/OptionalLong", "isPresent", "()Z"⟩ : MethodName)) (z := (⟨"java/util/OptionalLong", "isPresent", "()Z"⟩ : MethodName)) hown (mvT hZ (hw _ (List.mem_of_getElem? (i := 121) rfl))) (mvT hZ (hw _ (List.mem_of_getElem? (i := 122) rfl))) (notFace_of_selects (args := #[]) (mvT hZ (hw _ (List.mem_of_getElem? (i := 124) rfl)))) (mvT hZ (hw _ (List.mem_of_getElem? (i := 124) rfl))) (mvT hZ (hw _ (List.mem_of_getElem? (i := 123) rfl))) (by decide) (backOf (W := 0) (rm22 l Z a0 hw [] ol (own_res fcc nn).1 (own_res fcc nn).2 T500.heap n0 Z510 f507 f508 f509) hZ (hw _ (List.mem_of_getElem? (i := 125) rfl)) (hw _ (List.mem_of_getElem? (i := 105) rfl)) (by decide) (by decide)) q523a q523c (g := (mkF m 941 #[.val (.long va), .second, .val (.int ra), .val (.int rb), .val (.int rx), .val (.int se), .val (.int ln), .val (.int ub), .val (.int qq), .val (.int ca), .val (.int cb), .val (.int cx), .val (.long mm), .second, .val (.ref ac), .val (.ref ol), .val (.int vd), .val (.long (wh + wl)), .second, .val (.int xd), .val (.int ad), .val (.long mm), .second, .val (.long wh), .second, .val (.long wl), .second] [(.ref ol)])) rfl (by rw [hml]; rfl) (Steps.refl _) (argsL := []) (rest := []) (lenOf pd_8 rfl) rfl (by show 2 * 0 + _ ≤ _; exact Nat.le_of_eq rfl) (hb hby at_941) (fun _ _ => ⟨rfl, rfl, (by decide : 29 + 0 ≤ _), (by decide : 464 + 0 ≤ _)⟩)
            dsimp only [Pt.U, Pt.locs, Pt.cells, Pt.slots] at X523 l523 y523 z523 st523 hQ523
            subst l523 y523 z523
            obtain ⟨rfl, N523q, hE523⟩ := hQ523
            have N523 := Fr.app N500 N523q
            obtain ⟨cq524, kq524, q524a, q524b, q524c⟩ := isOf hZ hE523 f507
            obtain ⟨_, _, ⟨T524, L524, k524, n524⟩, -, X524, ⟨Lc524, hQ524, l524, y524, z524⟩, st524⟩ := X523.virtualBack hx (y := (⟨"java/util/OptionalLong", "getAsLong", "()J"⟩ : MethodName)) (z := (⟨"java/util/OptionalLong", "getAsLong", "()J"⟩ : MethodName)) hown (mvT hZ (hw _ (List.mem_of_getElem? (i := 126) rfl))) (mvT hZ (hw _ (List.mem_of_getElem? (i := 127) rfl))) (notFace_of_selects (args := #[]) (mvT hZ (hw _ (List.mem_of_getElem? (i := 129) rfl)))) (mvT hZ (hw _ (List.mem_of_getElem? (i := 129) rfl))) (mvT hZ (hw _ (List.mem_of_getElem? (i := 128) rfl))) (by decide) (backOf (W := 0) (rm23 l Z a0 hw [] ol (own_res fcc nn).1 (own_res fcc nn).2 T500.heap n0 Z510 f507 f508 f509 hip) hZ (hw _ (List.mem_of_getElem? (i := 130) rfl)) (hw _ (List.mem_of_getElem? (i := 105) rfl)) (by decide) (by decide)) q524a q524c (g := (mkF m 949 #[.val (.long va), .second, .val (.int ra), .val (.int rb), .val (.int rx), .val (.int se), .val (.int ln), .val (.int ub), .val (.int qq), .val (.int ca), .val (.int cb), .val (.int cx), .val (.long mm), .second, .val (.ref ac), .val (.ref ol), .val (.int vd), .val (.long (wh + wl)), .second, .val (.int xd), .val (.int ad), .val (.long mm), .second, .val (.long wh), .second, .val (.long wl), .second] [(.ref ol)])) rfl (by rw [hml]; rfl) (Steps.refl _) (argsL := []) (rest := []) (lenOf pd_19 rfl) rfl (by show 2 * 0 + _ ≤ _; exact Nat.le_of_eq rfl) (hb hby at_949) (fun _ _ => ⟨rfl, hE523, (by decide : 29 + 0 ≤ _), (by decide : 464 + 0 ≤ _)⟩)
            dsimp only [Pt.U, Pt.locs, Pt.cells, Pt.slots] at X524 l524 y524 z524 st524 hQ524
            subst l524 y524 z524
            obtain ⟨rfl, N524q, hE524⟩ := hQ524
            have N524 := Fr.app N523 N524q
            have pre525 : ∀ t, Steps p.tables e below (T524.setTop (mkF m 963 #[.val (.long va), .second, .val (.int ra), .val (.int rb), .val (.int rx), .val (.int se), .val (.int ln), .val (.int ub), .val (.int qq), .val (.int ca), .val (.int cb), .val (.int cx), .val (.long mm), .second, .val (.ref ac), .val (.ref ol), .val (.int vd), .val (.long (wh + wl)), .second, .val (.int xd), .val (.int ad), .val (.long mm), .second, .val (.long wh), .second, .val (.long wl), .second] [(.int (1 : Int32))])) t → Steps p.tables e below (s₁.setTop (entryFrame m #[(.long va), (.int ra), (.int rb), (.int rx), (.int se)] maxLocals)) t := by
              intro t kt
              refine pre517 _ ?_
              show Steps p.tables e below (T500.setTop (mkF m 872 #[.val (.long va), .second, .val (.int ra), .val (.int rb), .val (.int rx), .val (.int se), .val (.int ln), .val (.int ub), .val (.int qq), .val (.int ca), .val (.int cb), .val (.int cx), .val (.long mm), .second, .val (.ref ac), .val (.ref ol), .val (.int vd), .unset, .unset, .val (.int xd), .val (.int ad), .val (.long mm), .second, .val (.long wh), .second, .val (.long wl), .second] [(.int (XT.cmpL wl ((9223372036854775807 : Int64) - wh)))])) _
              refine XS.ifYes X500.here hx rfl (pc0 := 872) (pc' := 881) rfl (hb hby at_872) rfl (XT.ll_le_t hc872_518) (by decide) (by decide) ?_
              refine XS.lload X500.here hx rfl (hb hby at_881) rfl ?_
              refine XS.lload X500.here hx rfl (hb hby at_883) rfl ?_
              refine XS.ladd X500.here hx rfl (hb hby at_885) rfl ?_
              show Steps p.tables e below (T500.setTop (mkF m 886 #[.val (.long va), .second, .val (.int ra), .val (.int rb), .val (.int rx), .val (.int se), .val (.int ln), .val (.int ub), .val (.int qq), .val (.int ca), .val (.int cb), .val (.int cx), .val (.long mm), .second, .val (.ref ac), .val (.ref ol), .val (.int vd), .unset, .unset, .val (.int xd), .val (.int ad), .val (.long mm), .second, .val (.long wh), .second, .val (.long wl), .second] [(.long (wh + wl))])) _
              refine XS.lstore X500.here hx rfl (hb hby at_886) rfl (l' := #[.val (.long va), .second, .val (.int ra), .val (.int rb), .val (.int rx), .val (.int se), .val (.int ln), .val (.int ub), .val (.int qq), .val (.int ca), .val (.int cb), .val (.int cx), .val (.long mm), .second, .val (.ref ac), .val (.ref ol), .val (.int vd), .val (.long (wh + wl)), .second, .val (.int xd), .val (.int ad), .val (.long mm), .second, .val (.long wh), .second, .val (.long wl), .second]) rfl ?_
              refine XS.goto X500.here hx rfl (pc0 := 888) (pc' := 939) rfl (hb hby at_888) (by decide) (by decide) ?_
              refine XS.aload X500.here hx rfl (hb hby at_939) rfl rfl ?_
              show Steps p.tables e below (T500.setTop (mkF m 941 #[.val (.long va), .second, .val (.int ra), .val (.int rb), .val (.int rx), .val (.int se), .val (.int ln), .val (.int ub), .val (.int qq), .val (.int ca), .val (.int cb), .val (.int cx), .val (.long mm), .second, .val (.ref ac), .val (.ref ol), .val (.int vd), .val (.long (wh + wl)), .second, .val (.int xd), .val (.int ad), .val (.long mm), .second, .val (.long wh), .second, .val (.long wl), .second] [(.ref ol)])) _
              refine st523.trans ?_
              show Steps p.tables e below (T523.setTop (mkF m 944 #[.val (.long va), .second, .val (.int ra), .val (.int rb), .val (.int rx), .val (.int se), .val (.int ln), .val (.int ub), .val (.int qq), .val (.int ca), .val (.int cb), .val (.int cx), .val (.long mm), .second, .val (.ref ac), .val (.ref ol), .val (.int vd), .val (.long (wh + wl)), .second, .val (.int xd), .val (.int ad), .val (.long mm), .second, .val (.long wh), .second, .val (.long wl), .second] [(.int (nar .boolean (own_res fcc nn).1))])) _
              refine XS.ifNo X523.here hx rfl (hb hby at_944) rfl (XT.i0_eq_f (own_nb1 hres)) ?_
              refine XS.aload X523.here hx rfl (hb hby at_947) rfl rfl ?_
              show Steps p.tables e below (T523.setTop (mkF m 949 #[.val (.long va), .second, .val (.int ra), .val (.int rb), .val (.int rx), .val (.int se), .val (.int ln), .val (.int ub), .val (.int qq), .val (.int ca), .val (.int cb), .val (.int cx), .val (.long mm), .second, .val (.ref ac), .val (.ref ol), .val (.int vd), .val (.long (wh + wl)), .second, .val (.int xd), .val (.int ad), .val (.long mm), .second, .val (.long wh), .second, .val (.long wl), .second] [(.ref ol)])) _
              refine st524.trans ?_
              refine XS.lload X524.here hx rfl (hb hby at_952) rfl ?_
              refine XT.lcmp X524.here hx rfl (hb hby at_954) rfl ?_
              show Steps p.tables e below (T524.setTop (mkF m 955 #[.val (.long va), .second, .val (.int ra), .val (.int rb), .val (.int rx), .val (.int se), .val (.int ln), .val (.int ub), .val (.int qq), .val (.int ca), .val (.int cb), .val (.int cx), .val (.long mm), .second, .val (.ref ac), .val (.ref ol), .val (.int vd), .val (.long (wh + wl)), .second, .val (.int xd), .val (.int ad), .val (.long mm), .second, .val (.long wh), .second, .val (.long wl), .second] [(.int (XT.cmpL (own_res fcc nn).2 (wh + wl)))])) _
              refine XS.ifNo X524.here hx rfl (hb hby at_955) rfl (XT.ll_ne_f ((own_19 hG hln hc761_461 (own_mid0 hG hc785_469) h_xd h_ad hc835_471 h_wh h_wl).2 hc872_518)) ?_
              refine XS.iconst X524.here hx rfl (hb hby at_958) ?_
              refine XS.goto X524.here hx rfl (pc0 := 959) (pc' := 963) rfl (hb hby at_959) (by decide) (by decide) ?_
              exact kt
            have CK526 := CHr.keep (Z := Z) (EL := EL1) K512 sf0 CC400.1
            obtain ⟨fs, hr, hrun, hended, hEnd⟩ := X524.leaveW hS (by rw [hE524]; exact Nat.le_trans hk K512.1) (v := some (.int (1 : Int32))) (fun h => by rw [Bd.returns] at h; cases h)
            have CT := CK526.trans (CHv.at (s := s) (vm0 := T400.vm) X524 hZ hEL CK526.1)
            refine ⟨_, _, pre525 _ ?_, hrun, hended, _, _, rfl, ?_, ?_, hEnd.1, hEnd.2.1, hEnd.2.2.1, hEnd.2.2.2.mono (by decide) (by decide)⟩
            · show Steps p.tables e below (T524.setTop (mkF m 963 #[.val (.long va), .second, .val (.int ra), .val (.int rb), .val (.int rx), .val (.int se), .val (.int ln), .val (.int ub), .val (.int qq), .val (.int ca), .val (.int cb), .val (.int cx), .val (.long mm), .second, .val (.ref ac), .val (.ref ol), .val (.int vd), .val (.long (wh + wl)), .second, .val (.int xd), .val (.int ad), .val (.long mm), .second, .val (.long wh), .second, .val (.long wl), .second] [(.int (1 : Int32))])) _
              exact retN X524 hx (t := .boolean) Bd.returns (by simp) (hb hby at_963) hr
            · show Q0 Z va ra rb rx se cs fmv em h0 n0 _ T524.heap _
              rw [hE524]
              exact ⟨rfl, N524⟩
            · rw [hh]
              show CHr Z EL1 s.vm h0 T524.vm T524.heap
              rw [hE524]
              exact CR411.trans CT
      · skip
        obtain ⟨_, _, ⟨T527, L527, k527, n527⟩, -, X527, ⟨Lc527, hQ527, l527, y527, z527⟩, st527⟩ := Jvm.LawKit.callS X423 hx (y := (⟨"com/example/relent/relent/WholeNumbersUnsignedPinLaw", "pow10", "(I)J"⟩ : MethodName)) hown (mvT hZ (hw _ (List.mem_of_getElem? (i := 5) rfl))) (mvT hZ (hw _ (List.mem_of_getElem? (i := 6) rfl))) (mvT hZ (hw _ (List.mem_of_getElem? (i := 2) rfl))) (mvT hZ (hw _ (List.mem_of_getElem? (i := 7) rfl))) (by decide) (backOf (W := 2) (rm2 l Z a0 hw [] ((ln - (2 : Int32)) - qq) (nn - 2 - qq.toInt.toNat) T423.heap n0 Z423 (own_e1 hG hln hc785_469).1 (own_e1 hG hln hc785_469).2) hZ (hw _ (List.mem_of_getElem? (i := 7) rfl)) (hw _ (List.mem_of_getElem? (i := 2) rfl)) (by decide) (by decide)) (g := (mkF m 801 #[.val (.long va), .second, .val (.int ra), .val (.int rb), .val (.int rx), .val (.int se), .val (.int ln), .val (.int ub), .val (.int qq), .val (.int ca), .val (.int cb), .val (.int cx), .val (.long mm), .second, .val (.ref ac), .val (.ref ol), .val (.int vd), .unset, .unset, .val (.int xd), .val (.int ad), .val (.long mm), .second, .val (.int ((ln - (2 : Int32)) - qq)), .unset, .unset, .unset] [(.int ((ln - (2 : Int32)) - qq)), (.long mm)])) rfl (by rw [hml]; rfl) (argsL := [(.int ((ln - (2 : Int32)) - qq))]) (rest := [(.long mm)]) (lenOf pd_0 rfl) rfl (by show 2 * 0 + _ ≤ _; exact Nat.le_of_eq rfl) (hb hby at_801) (fun _ _ => ⟨rfl, rfl, (by decide : 28 + 1 ≤ _), (by decide : 445 + 19 ≤ _)⟩)
        dsimp only [Pt.U, Pt.locs, Pt.cells, Pt.slots] at X527 l527 y527 z527 st527 hQ527
        subst l527 y527 z527
        obtain ⟨rfl, N527q, K527⟩ := hQ527
        have N527 := Fr.app N423 N527q
        have f528 := hf423_0.keep K527 all0
        have f529 := hf423_1.keep K527 nin0
        have f530 := hf423_2.keep K527
        have f531 := hf423_3.keep K527 nin0
        have f532 := hf423_4.keep K527 nin0
        have f533 := hf423_5.keep K527 nin0
        have f534 := hf423_6.keep K527
        have f535 := hf423_7.keep K527 nin0
        have f536 := hf423_8.keep K527 nin0
        have Z537 := Nat.le_trans Z423 K527.1
        have K538 := K423.trans K527 all0
        have K539 := KK423.trans K527 all0
        obtain ⟨_, _, ⟨T540, L540, k540, n540⟩, -, X540, ⟨Lc540, hQ540, l540, y540, z540⟩, st540⟩ := Jvm.LawKit.callS X527 hx (y := (⟨"com/example/relent/relent/WholeNumbersUnsignedPinLaw", "pow10", "(I)J"⟩ : MethodName)) hown (mvT hZ (hw _ (List.mem_of_getElem? (i := 5) rfl))) (mvT hZ (hw _ (List.mem_of_getElem? (i := 6) rfl))) (mvT hZ (hw _ (List.mem_of_getElem? (i := 2) rfl))) (mvT hZ (hw _ (List.mem_of_getElem? (i := 7) rfl))) (by decide) (backOf (W := 4) (rm2 l Z a0 hw [] ((ln - (2 : Int32)) - qq) (nn - 2 - qq.toInt.toNat) T527.heap n0 Z537 (own_e1 hG hln hc785_469).1 (own_e1 hG hln hc785_469).2) hZ (hw _ (List.mem_of_getElem? (i := 7) rfl)) (hw _ (List.mem_of_getElem? (i := 2) rfl)) (by decide) (by decide)) (g := (mkF m 824 #[.val (.long va), .second, .val (.int ra), .val (.int rb), .val (.int rx), .val (.int se), .val (.int ln), .val (.int ub), .val (.int qq), .val (.int ca), .val (.int cb), .val (.int cx), .val (.long mm), .second, .val (.ref ac), .val (.ref ol), .val (.int vd), .unset, .unset, .val (.int xd), .val (.int ad), .val (.long mm), .second, .val (.int ((ln - (2 : Int32)) - qq)), .val (.long ((mm / (own_p10 (nn - 2 - qq.toInt.toNat))) - ((mm / (own_p10 (nn - 2 - qq.toInt.toNat))) / (10 : Int64)) * (10 : Int64))), .second, .unset] [(.int ((ln - (2 : Int32)) - qq)), (.long (((cb - (48 : Int32)).toInt64) - ((mm / (own_p10 (nn - 2 - qq.toInt.toNat))) - ((mm / (own_p10 (nn - 2 - qq.toInt.toNat))) / (10 : Int64)) * (10 : Int64)))), (.long mm)])) rfl (by rw [hml]; rfl) (argsL := [(.int ((ln - (2 : Int32)) - qq))]) (rest := [(.long (((cb - (48 : Int32)).toInt64) - ((mm / (own_p10 (nn - 2 - qq.toInt.toNat))) - ((mm / (own_p10 (nn - 2 - qq.toInt.toNat))) / (10 : Int64)) * (10 : Int64)))), (.long mm)]) (lenOf pd_0 rfl) rfl (by show 2 * 0 + _ ≤ _; exact Nat.le_of_eq rfl) (hb hby at_824) (fun _ _ => ⟨rfl, rfl, (by decide : 29 + 1 ≤ _), (by decide : 464 + 19 ≤ _)⟩)
        dsimp only [Pt.U, Pt.locs, Pt.cells, Pt.slots] at X540 l540 y540 z540 st540 hQ540
        subst l540 y540 z540
        obtain ⟨rfl, N540q, K540⟩ := hQ540
        have N540 := Fr.app N527 N540q
        have f541 := f528.keep K540 all0
        have f542 := f529.keep K540 nin0
        have f543 := f530.keep K540
        have f544 := f531.keep K540 nin0
        have f545 := f532.keep K540 nin0
        have f546 := f533.keep K540 nin0
        have f547 := f534.keep K540
        have f548 := f535.keep K540 nin0
        have f549 := f536.keep K540 nin0
        have Z550 := Nat.le_trans Z537 K540.1
        have K551 := K538.trans K540 all0
        have K552 := K539.trans K540 all0
        have pre553 : ∀ t, Steps p.tables e below (T540.setTop (mkF m 829 #[.val (.long va), .second, .val (.int ra), .val (.int rb), .val (.int rx), .val (.int se), .val (.int ln), .val (.int ub), .val (.int qq), .val (.int ca), .val (.int cb), .val (.int cx), .val (.long mm), .second, .val (.ref ac), .val (.ref ol), .val (.int vd), .unset, .unset, .val (.int xd), .val (.int ad), .val (.long mm), .second, .val (.int ((ln - (2 : Int32)) - qq)), .val (.long ((mm / (own_p10 (nn - 2 - qq.toInt.toNat))) - ((mm / (own_p10 (nn - 2 - qq.toInt.toNat))) / (10 : Int64)) * (10 : Int64))), .second, .unset] [(.long (mm + ((((cb - (48 : Int32)).toInt64) - ((mm / (own_p10 (nn - 2 - qq.toInt.toNat))) - ((mm / (own_p10 (nn - 2 - qq.toInt.toNat))) / (10 : Int64)) * (10 : Int64))) * (own_p10 (nn - 2 - qq.toInt.toNat)))))])) t → Steps p.tables e below (s₁.setTop (entryFrame m #[(.long va), (.int ra), (.int rb), (.int rx), (.int se)] maxLocals)) t := by
          intro t kt
          refine pre468 _ ?_
          show Steps p.tables e below (T423.setTop (mkF m 785 #[.val (.long va), .second, .val (.int ra), .val (.int rb), .val (.int rx), .val (.int se), .val (.int ln), .val (.int ub), .val (.int qq), .val (.int ca), .val (.int cb), .val (.int cx), .val (.long mm), .second, .val (.ref ac), .val (.ref ol), .val (.int vd), .unset, .unset, .val (.int xd), .val (.int ad), .val (.long mm), .second, .unset, .unset, .unset, .unset] [(.int ub)])) _
          refine XS.ifNo X423.here hx rfl (hb hby at_785) rfl (XT.i0_eq_f hc785_469) ?_
          refine XS.iload X423.here hx rfl (hb hby at_788) rfl ?_
          refine XS.iconst X423.here hx rfl (hb hby at_790) ?_
          refine XS.isub X423.here hx rfl (hb hby at_791) rfl ?_
          show Steps p.tables e below (T423.setTop (mkF m 792 #[.val (.long va), .second, .val (.int ra), .val (.int rb), .val (.int rx), .val (.int se), .val (.int ln), .val (.int ub), .val (.int qq), .val (.int ca), .val (.int cb), .val (.int cx), .val (.long mm), .second, .val (.ref ac), .val (.ref ol), .val (.int vd), .unset, .unset, .val (.int xd), .val (.int ad), .val (.long mm), .second, .unset, .unset, .unset, .unset] [(.int (ln - (2 : Int32)))])) _
          refine XS.iload X423.here hx rfl (hb hby at_792) rfl ?_
          refine XS.isub X423.here hx rfl (hb hby at_794) rfl ?_
          refine XS.istore X423.here hx rfl (hb hby at_795) rfl (l' := #[.val (.long va), .second, .val (.int ra), .val (.int rb), .val (.int rx), .val (.int se), .val (.int ln), .val (.int ub), .val (.int qq), .val (.int ca), .val (.int cb), .val (.int cx), .val (.long mm), .second, .val (.ref ac), .val (.ref ol), .val (.int vd), .unset, .unset, .val (.int xd), .val (.int ad), .val (.long mm), .second, .val (.int ((ln - (2 : Int32)) - qq)), .unset, .unset, .unset]) rfl ?_
          refine XS.lload X423.here hx rfl (hb hby at_797) rfl ?_
          show Steps p.tables e below (T423.setTop (mkF m 799 #[.val (.long va), .second, .val (.int ra), .val (.int rb), .val (.int rx), .val (.int se), .val (.int ln), .val (.int ub), .val (.int qq), .val (.int ca), .val (.int cb), .val (.int cx), .val (.long mm), .second, .val (.ref ac), .val (.ref ol), .val (.int vd), .unset, .unset, .val (.int xd), .val (.int ad), .val (.long mm), .second, .val (.int ((ln - (2 : Int32)) - qq)), .unset, .unset, .unset] [(.long mm)])) _
          refine XS.iload X423.here hx rfl (hb hby at_799) rfl ?_
          show Steps p.tables e below (T423.setTop (mkF m 801 #[.val (.long va), .second, .val (.int ra), .val (.int rb), .val (.int rx), .val (.int se), .val (.int ln), .val (.int ub), .val (.int qq), .val (.int ca), .val (.int cb), .val (.int cx), .val (.long mm), .second, .val (.ref ac), .val (.ref ol), .val (.int vd), .unset, .unset, .val (.int xd), .val (.int ad), .val (.long mm), .second, .val (.int ((ln - (2 : Int32)) - qq)), .unset, .unset, .unset] [(.int ((ln - (2 : Int32)) - qq)), (.long mm)])) _
          refine st527 _ ?_
          show Steps p.tables e below (T527.setTop (mkF m 804 #[.val (.long va), .second, .val (.int ra), .val (.int rb), .val (.int rx), .val (.int se), .val (.int ln), .val (.int ub), .val (.int qq), .val (.int ca), .val (.int cb), .val (.int cx), .val (.long mm), .second, .val (.ref ac), .val (.ref ol), .val (.int vd), .unset, .unset, .val (.int xd), .val (.int ad), .val (.long mm), .second, .val (.int ((ln - (2 : Int32)) - qq)), .unset, .unset, .unset] [(.long (own_p10 (nn - 2 - qq.toInt.toNat))), (.long mm)])) _
          refine XS.ldiv X527.here hx rfl (hb hby at_804) rfl (own_p10nz (own_e1 hG hln hc785_469).2) ?_
          refine Stand.ldc2J (g := (mkF m 805 #[.val (.long va), .second, .val (.int ra), .val (.int rb), .val (.int rx), .val (.int se), .val (.int ln), .val (.int ub), .val (.int qq), .val (.int ca), .val (.int cb), .val (.int cx), .val (.long mm), .second, .val (.ref ac), .val (.ref ol), .val (.int vd), .unset, .unset, .val (.int xd), .val (.int ad), .val (.long mm), .second, .val (.int ((ln - (2 : Int32)) - qq)), .unset, .unset, .unset] [(.long (mm / (own_p10 (nn - 2 - qq.toInt.toNat))))])) X527 hx hown (mvT hZ (hw _ (List.mem_of_getElem? (i := 9) rfl))) rfl (hb hby at_805) ?_
          show Steps p.tables e below (T527.setTop (mkF m 808 #[.val (.long va), .second, .val (.int ra), .val (.int rb), .val (.int rx), .val (.int se), .val (.int ln), .val (.int ub), .val (.int qq), .val (.int ca), .val (.int cb), .val (.int cx), .val (.long mm), .second, .val (.ref ac), .val (.ref ol), .val (.int vd), .unset, .unset, .val (.int xd), .val (.int ad), .val (.long mm), .second, .val (.int ((ln - (2 : Int32)) - qq)), .unset, .unset, .unset] [(.long (10 : Int64)), (.long (mm / (own_p10 (nn - 2 - qq.toInt.toNat))))])) _
          refine XS.lrem X527.here hx rfl (hb hby at_808) rfl (by decide) ?_
          refine XS.lstore X527.here hx rfl (hb hby at_809) rfl (l' := #[.val (.long va), .second, .val (.int ra), .val (.int rb), .val (.int rx), .val (.int se), .val (.int ln), .val (.int ub), .val (.int qq), .val (.int ca), .val (.int cb), .val (.int cx), .val (.long mm), .second, .val (.ref ac), .val (.ref ol), .val (.int vd), .unset, .unset, .val (.int xd), .val (.int ad), .val (.long mm), .second, .val (.int ((ln - (2 : Int32)) - qq)), .val (.long ((mm / (own_p10 (nn - 2 - qq.toInt.toNat))) - ((mm / (own_p10 (nn - 2 - qq.toInt.toNat))) / (10 : Int64)) * (10 : Int64))), .second, .unset]) rfl ?_
          refine XS.lload X527.here hx rfl (hb hby at_811) rfl ?_
          refine XS.iload X527.here hx rfl (hb hby at_813) rfl ?_
          show Steps p.tables e below (T527.setTop (mkF m 815 #[.val (.long va), .second, .val (.int ra), .val (.int rb), .val (.int rx), .val (.int se), .val (.int ln), .val (.int ub), .val (.int qq), .val (.int ca), .val (.int cb), .val (.int cx), .val (.long mm), .second, .val (.ref ac), .val (.ref ol), .val (.int vd), .unset, .unset, .val (.int xd), .val (.int ad), .val (.long mm), .second, .val (.int ((ln - (2 : Int32)) - qq)), .val (.long ((mm / (own_p10 (nn - 2 - qq.toInt.toNat))) - ((mm / (own_p10 (nn - 2 - qq.toInt.toNat))) / (10 : Int64)) * (10 : Int64))), .second, .unset] [(.int cb), (.long mm)])) _
          refine XS.bipush X527.here hx rfl (hb hby at_815) ?_
          refine XS.isub X527.here hx rfl (hb hby at_817) rfl ?_
          refine XS.i2l X527.here hx rfl (hb hby at_818) rfl ?_
          refine XS.lload X527.here hx rfl (hb hby at_819) rfl ?_
          show Steps p.tables e below (T527.setTop (mkF m 821 #[.val (.long va), .second, .val (.int ra), .val (.int rb), .val (.int rx), .val (.int se), .val (.int ln), .val (.int ub), .val (.int qq), .val (.int ca), .val (.int cb), .val (.int cx), .val (.long mm), .second, .val (.ref ac), .val (.ref ol), .val (.int vd), .unset, .unset, .val (.int xd), .val (.int ad), .val (.long mm), .second, .val (.int ((ln - (2 : Int32)) - qq)), .val (.long ((mm / (own_p10 (nn - 2 - qq.toInt.toNat))) - ((mm / (own_p10 (nn - 2 - qq.toInt.toNat))) / (10 : Int64)) * (10 : Int64))), .second, .unset] [(.long ((mm / (own_p10 (nn - 2 - qq.toInt.toNat))) - ((mm / (own_p10 (nn - 2 - qq.toInt.toNat))) / (10 : Int64)) * (10 : Int64))), (.long ((cb - (48 : Int32)).toInt64)), (.long mm)])) _
          refine XS.lsub X527.here hx rfl (hb hby at_821) rfl ?_
          refine XS.iload X527.here hx rfl (hb hby at_822) rfl ?_
          show Steps p.tables e below (T527.setTop (mkF m 824 #[.val (.long va), .second, .val (.int ra), .val (.int rb), .val (.int rx), .val (.int se), .val (.int ln), .val (.int ub), .val (.int qq), .val (.int ca), .val (.int cb), .val (.int cx), .val (.long mm), .second, .val (.ref ac), .val (.ref ol), .val (.int vd), .unset, .unset, .val (.int xd), .val (.int ad), .val (.long mm), .second, .val (.int ((ln - (2 : Int32)) - qq)), .val (.long ((mm / (own_p10 (nn - 2 - qq.toInt.toNat))) - ((mm / (own_p10 (nn - 2 - qq.toInt.toNat))) / (10 : Int64)) * (10 : Int64))), .second, .unset] [(.int ((ln - (2 : Int32)) - qq)), (.long (((cb - (48 : Int32)).toInt64) - ((mm / (own_p10 (nn - 2 - qq.toInt.toNat))) - ((mm / (own_p10 (nn - 2 - qq.toInt.toNat))) / (10 : Int64)) * (10 : Int64)))), (.long mm)])) _
          refine st540 _ ?_
          refine XS.lmul X540.here hx rfl (hb hby at_827) rfl ?_
          refine XS.ladd X540.here hx rfl (hb hby at_828) rfl ?_
          exact kt
        obtain ⟨md, h_md⟩ : ∃ z : Int64, z = (mm + ((((cb - (48 : Int32)).toInt64) - ((mm / (own_p10 (nn - 2 - qq.toInt.toNat))) - ((mm / (own_p10 (nn - 2 - qq.toInt.toNat))) / (10 : Int64)) * (10 : Int64))) * (own_p10 (nn - 2 - qq.toInt.toNat)))) := ⟨_, rfl⟩
        have pre554 : ∀ t, Steps p.tables e below (T540.setTop (mkF m 829 #[.val (.long va), .second, .val (.int ra), .val (.int rb), .val (.int rx), .val (.int se), .val (.int ln), .val (.int ub), .val (.int qq), .val (.int ca), .val (.int cb), .val (.int cx), .val (.long mm), .second, .val (.ref ac), .val (.ref ol), .val (.int vd), .unset, .unset, .val (.int xd), .val (.int ad), .val (.long mm), .second, .val (.int ((ln - (2 : Int32)) - qq)), .val (.long ((mm / (own_p10 (nn - 2 - qq.toInt.toNat))) - ((mm / (own_p10 (nn - 2 - qq.toInt.toNat))) / (10 : Int64)) * (10 : Int64))), .second, .unset] [(.long md)])) t → Steps p.tables e below (s₁.setTop (entryFrame m #[(.long va), (.int ra), (.int rb), (.int rx), (.int se)] maxLocals)) t := by
          intro t kt
          rw [h_md] at kt
          exact pre553 _ kt
        have pre555 : ∀ t, Steps p.tables e below (T540.setTop (mkF m 835 #[.val (.long va), .second, .val (.int ra), .val (.int rb), .val (.int rx), .val (.int se), .val (.int ln), .val (.int ub), .val (.int qq), .val (.int ca), .val (.int cb), .val (.int cx), .val (.long mm), .second, .val (.ref ac), .val (.ref ol), .val (.int vd), .unset, .unset, .val (.int xd), .val (.int ad), .val (.long md), .second, .val (.int ((ln - (2 : Int32)) - qq)), .val (.long ((mm / (own_p10 (nn - 2 - qq.toInt.toNat))) - ((mm / (own_p10 (nn - 2 - qq.toInt.toNat))) / (10 : Int64)) * (10 : Int64))), .second, .unset] [(.int (19 : Int32)), (.int ln)])) t → Steps p.tables e below (s₁.setTop (entryFrame m #[(.long va), (.int ra), (.int rb), (.int rx), (.int se)] maxLocals)) t := by
          intro t kt
          refine pre554 _ ?_
          refine XS.lstore X540.here hx rfl (hb hby at_829) rfl (l' := #[.val (.long va), .second, .val (.int ra), .val (.int rb), .val (.int rx), .val (.int se), .val (.int ln), .val (.int ub), .val (.int qq), .val (.int ca), .val (.int cb), .val (.int cx), .val (.long mm), .second, .val (.ref ac), .val (.ref ol), .val (.int vd), .unset, .unset, .val (.int xd), .val (.int ad), .val (.long md), .second, .val (.int ((ln - (2 : Int32)) - qq)), .val (.long ((mm / (own_p10 (nn - 2 - qq.toInt.toNat))) - ((mm / (own_p10 (nn - 2 - qq.toInt.toNat))) / (10 : Int64)) * (10 : Int64))), .second, .unset]) rfl ?_
          show Steps p.tables e below (T540.setTop (mkF m 831 #[.val (.long va), .second, .val (.int ra), .val (.int rb), .val (.int rx), .val (.int se), .val (.int ln), .val (.int ub), .val (.int qq), .val (.int ca), .val (.int cb), .val (.int cx), .val (.long mm), .second, .val (.ref ac), .val (.ref ol), .val (.int vd), .unset, .unset, .val (.int xd), .val (.int ad), .val (.long md), .second, .val (.int ((ln - (2 : Int32)) - qq)), .val (.long ((mm / (own_p10 (nn - 2 - qq.toInt.toNat))) - ((mm / (own_p10 (nn - 2 - qq.toInt.toNat))) / (10 : Int64)) * (10 : Int64))), .second, .unset] [])) _
          refine XS.iload X540.here hx rfl (hb hby at_831) rfl ?_
          refine XS.bipush X540.here hx rfl (hb hby at_833) ?_
          exact kt
        by_cases hc835_556 : (19 : Int32) < ln
        · skip
          have pre557 : ∀ t, Steps p.tables e below (T540.setTop (mkF m 893 #[.val (.long va), .second, .val (.int ra), .val (.int rb), .val (.int rx), .val (.int se), .val (.int ln), .val (.int ub), .val (.int qq), .val (.int ca), .val (.int cb), .val (.int cx), .val (.long mm), .second, .val (.ref ac), .val (.ref ol), .val (.int vd), .unset, .unset, .val (.int xd), .val (.int ad), .val (.long md), .second, .val (.int ((ln - (2 : Int32)) - qq)), .val (.long ((mm / (own_p10 (nn - 2 - qq.toInt.toNat))) - ((mm / (own_p10 (nn - 2 - qq.toInt.toNat))) / (10 : Int64)) * (10 : Int64))), .second, .unset] [(.int ad)])) t → Steps p.tables e below (s₁.setTop (entryFrame m #[(.long va), (.int ra), (.int rb), (.int rx), (.int se)] maxLocals)) t := by
            intro t kt
            refine pre555 _ ?_
            show Steps p.tables e below (T540.setTop (mkF m 835 #[.val (.long va), .second, .val (.int ra), .val (.int rb), .val (.int rx), .val (.int se), .val (.int ln), .val (.int ub), .val (.int qq), .val (.int ca), .val (.int cb), .val (.int cx), .val (.long mm), .second, .val (.ref ac), .val (.ref ol), .val (.int vd), .unset, .unset, .val (.int xd), .val (.int ad), .val (.long md), .second, .val (.int ((ln - (2 : Int32)) - qq)), .val (.long ((mm / (own_p10 (nn - 2 - qq.toInt.toNat))) - ((mm / (own_p10 (nn - 2 - qq.toInt.toNat))) / (10 : Int64)) * (10 : Int64))), .second, .unset] [(.int (19 : Int32)), (.int ln)])) _
            refine XS.icmpYes X540.here hx rfl (pc0 := 835) (pc' := 891) rfl (hb hby at_835) rfl (XT.ii_gt_t hc835_556) (by decide) (by decide) ?_
            refine XS.iload X540.here hx rfl (hb hby at_891) rfl ?_
            exact kt
          by_cases hc893_558 : (0 : Int32) < ad
          · skip
            obtain ⟨cq559, kq559, q559a, q559b, q559c⟩ := isOf hZ rfl f547
            obtain ⟨_, _, ⟨T559, L559, k559, n559⟩, -, X559, ⟨Lc559, hQ559, l559, y559, z559⟩, st559⟩ := X540.virtualBack hx (y := (⟨"java/util/OptionalLong", "isPresent", "()Z"⟩ : MethodName)) (z := (⟨"java/util/OptionalLong", "isPresent", "()Z"⟩ : MethodName)) hown (mvT hZ (hw _ (List.mem_of_getElem? (i := 121) rfl))) (mvT hZ (hw _ (List.mem_of_getElem? (i := 122) rfl))) (notFace_of_selects (args := #[]) (mvT hZ (hw _ (List.mem_of_getElem? (i := 124) rfl)))) (mvT hZ (hw _ (List.mem_of_getElem? (i := 124) rfl))) (mvT hZ (hw _ (List.mem_of_getElem? (i := 123) rfl))) (by decide) (backOf (W := 0) (rm22 l Z a0 hw [] ol (own_res fcc nn).1 (own_res fcc nn).2 T540.heap n0 Z550 f547 f548 f549) hZ (hw _ (List.mem_of_getElem? (i := 125) rfl)) (hw _ (List.mem_of_getElem? (i := 105) rfl)) (by decide) (by decide)) q559a q559c (g := (mkF m 941 #[.val (.long va), .second, .val (.int ra), .val (.int rb), .val (.int rx), .val (.int se), .val (.int ln), .val (.int ub), .val (.int qq), .val (.int ca), .val (.int cb), .val (.int cx), .val (.long mm), .second, .val (.ref ac), .val (.ref ol), .val (.int vd), .val (.long (9223372036854775807 : Int64)), .second, .val (.int xd), .val (.int ad), .val (.long md), .second, .val (.int ((ln - (2 : Int32)) - qq)), .val (.long ((mm / (own_p10 (nn - 2 - qq.toInt.toNat))) - ((mm / (own_p10 (nn - 2 - qq.toInt.toNat))) / (10 : Int64)) * (10 : Int64))), .second, .unset] [(.ref ol)])) rfl (by rw [hml]; rfl) (Steps.refl _) (argsL := []) (rest := []) (lenOf pd_8 rfl) rfl (by show 2 * 0 + _ ≤ _; exact Nat.le_of_eq rfl) (hb hby at_941) (fun _ _ => ⟨rfl, rfl, (by decide : 30 + 0 ≤ _), (by decide : 483 + 0 ≤ _)⟩)
            dsimp only [Pt.U, Pt.locs, Pt.cells, Pt.slots] at X559 l559 y559 z559 st559 hQ559
            subst l559 y559 z559
            obtain ⟨rfl, N559q, hE559⟩ := hQ559
            have N559 := Fr.app N540 N559q
            obtain ⟨cq560, kq560, q560a, q560b, q560c⟩ := isOf hZ hE559 f547
            obtain ⟨_, _, ⟨T560, L560, k560, n560⟩, -, X560, ⟨Lc560, hQ560, l560, y560, z560⟩, st560⟩ := X559.virtualBack hx (y := (⟨"java/util/OptionalLong", "getAsLong", "()J"⟩ : MethodName)) (z := (⟨"java/util/OptionalLong", "getAsLong", "()J"⟩ : MethodName)) hown (mvT hZ (hw _ (List.mem_of_getElem? (i := 126) rfl))) (mvT hZ (hw _ (List.mem_of_getElem? (i := 127) rfl))) (notFace_of_selects (args := #[]) (mvT hZ (hw _ (List.mem_of_getElem? (i := 129) rfl)))) (mvT hZ (hw _ (List.mem_of_getElem? (i := 129) rfl))) (mvT hZ (hw _ (List.mem_of_getElem? (i := 128) rfl))) (by decide) (backOf (W := 0) (rm23 l Z a0 hw [] ol (own_res fcc nn).1 (own_res fcc nn).2 T540.heap n0 Z550 f547 f548 f549 hip) hZ (hw _ (List.mem_of_getElem? (i := 130) rfl)) (hw _ (List.mem_of_getElem? (i := 105) rfl)) (by decide) (by decide)) q560a q560c (g := (mkF m 949 #[.val (.long va), .second, .val (.int ra), .val (.int rb), .val (.int rx), .val (.int se), .val (.int ln), .val (.int ub), .val (.int qq), .val (.int ca), .val (.int cb), .val (.int cx), .val (.long mm), .second, .val (.ref ac), .val (.ref ol), .val (.int vd), .val (.long (9223372036854775807 : Int64)), .second, .val (.int xd), .val (.int ad), .val (.long md), .second, .val (.int ((ln - (2 : Int32)) - qq)), .val (.long ((mm / (own_p10 (nn - 2 - qq.toInt.toNat))) - ((mm / (own_p10 (nn - 2 - qq.toInt.toNat))) / (10 : Int64)) * (10 : Int64))), .second, .unset] [(.ref ol)])) rfl (by rw [hml]; rfl) (Steps.refl _) (argsL := []) (rest := []) (lenOf pd_19 rfl) rfl (by show 2 * 0 + _ ≤ _; exact Nat.le_of_eq rfl) (hb hby at_949) (fun _ _ => ⟨rfl, hE559, (by decide : 30 + 0 ≤ _), (by decide : 483 + 0 ≤ _)⟩)
            dsimp only [Pt.U, Pt.locs, Pt.cells, Pt.slots] at X560 l560 y560 z560 st560 hQ560
            subst l560 y560 z560
            obtain ⟨rfl, N560q, hE560⟩ := hQ560
            have N560 := Fr.app N559 N560q
            have pre561 : ∀ t, Steps p.tables e below (T560.setTop (mkF m 963 #[.val (.long va), .second, .val (.int ra), .val (.int rb), .val (.int rx), .val (.int se), .val (.int ln), .val (.int ub), .val (.int qq), .val (.int ca), .val (.int cb), .val (.int cx), .val (.long mm), .second, .val (.ref ac), .val (.ref ol), .val (.int vd), .val (.long (9223372036854775807 : Int64)), .second, .val (.int xd), .val (.int ad), .val (.long md), .second, .val (.int ((ln - (2 : Int32)) - qq)), .val (.long ((mm / (own_p10 (nn - 2 - qq.toInt.toNat))) - ((mm / (own_p10 (nn - 2 - qq.toInt.toNat))) / (10 : Int64)) * (10 : Int64))), .second, .unset] [(.int (1 : Int32))])) t → Steps p.tables e below (s₁.setTop (entryFrame m #[(.long va), (.int ra), (.int rb), (.int rx), (.int se)] maxLocals)) t := by
              intro t kt
              refine pre557 _ ?_
              show Steps p.tables e below (T540.setTop (mkF m 893 #[.val (.long va), .second, .val (.int ra), .val (.int rb), .val (.int rx), .val (.int se), .val (.int ln), .val (.int ub), .val (.int qq), .val (.int ca), .val (.int cb), .val (.int cx), .val (.long mm), .second, .val (.ref ac), .val (.ref ol), .val (.int vd), .unset, .unset, .val (.int xd), .val (.int ad), .val (.long md), .second, .val (.int ((ln - (2 : Int32)) - qq)), .val (.long ((mm / (own_p10 (nn - 2 - qq.toInt.toNat))) - ((mm / (own_p10 (nn - 2 - qq.toInt.toNat))) / (10 : Int64)) * (10 : Int64))), .second, .unset] [(.int ad)])) _
              refine XS.ifYes X540.here hx rfl (pc0 := 893) (pc' := 921) rfl (hb hby at_893) rfl (XT.i0_gt_t hc893_558) (by decide) (by decide) ?_
              refine Stand.ldc2J (g := (mkF m 921 #[.val (.long va), .second, .val (.int ra), .val (.int rb), .val (.int rx), .val (.int se), .val (.int ln), .val (.int ub), .val (.int qq), .val (.int ca), .val (.int cb), .val (.int cx), .val (.long mm), .second, .val (.ref ac), .val (.ref ol), .val (.int vd), .unset, .unset, .val (.int xd), .val (.int ad), .val (.long md), .second, .val (.int ((ln - (2 : Int32)) - qq)), .val (.long ((mm / (own_p10 (nn - 2 - qq.toInt.toNat))) - ((mm / (own_p10 (nn - 2 - qq.toInt.toNat))) / (10 : Int64)) * (10 : Int64))), .second, .unset] [])) X540 hx hown (mvT hZ (hw _ (List.mem_of_getElem? (i := 4) rfl))) rfl (hb hby at_921) ?_
              refine XS.goto X540.here hx rfl (pc0 := 924) (pc' := 937) rfl (hb hby at_924) (by decide) (by decide) ?_
              refine XS.lstore X540.here hx rfl (hb hby at_937) rfl (l' := #[.val (.long va), .second, .val (.int ra), .val (.int rb), .val (.int rx), .val (.int se), .val (.int ln), .val (.int ub), .val (.int qq), .val (.int ca), .val (.int cb), .val (.int cx), .val (.long mm), .second, .val (.ref ac), .val (.ref ol), .val (.int vd), .val (.long (9223372036854775807 : Int64)), .second, .val (.int xd), .val (.int ad), .val (.long md), .second, .val (.int ((ln - (2 : Int32)) - qq)), .val (.long ((mm / (own_p10 (nn - 2 - qq.toInt.toNat))) - ((mm / (own_p10 (nn - 2 - qq.toInt.toNat))) / (10 : Int64)) * (10 : Int64))), .second, .unset]) rfl ?_
              show Steps p.tables e below (T540.setTop (mkF m 939 #[.val (.long va), .second, .val (.int ra), .val (.int rb), .val (.int rx), .val (.int se), .val (.int ln), .val (.int ub), .val (.int qq), .val (.int ca), .val (.int cb), .val (.int cx), .val (.long mm), .second, .val (.ref ac), .val (.ref ol), .val (.int vd), .val (.long (9223372036854775807 : Int64)), .second, .val (.int xd), .val (.int ad), .val (.long md), .second, .val (.int ((ln - (2 : Int32)) - qq)), .val (.long ((mm / (own_p10 (nn - 2 - qq.toInt.toNat))) - ((mm / (own_p10 (nn - 2 - qq.toInt.toNat))) / (10 : Int64)) * (10 : Int64))), .second, .unset] [])) _
              refine XS.aload X540.here hx rfl (hb hby at_939) rfl rfl ?_
              show Steps p.tables e below (T540.setTop (mkF m 941 #[.val (.long va), .second, .val (.int ra), .val (.int rb), .val (.int rx), .val (.int se), .val (.int ln), .val (.int ub), .val (.int qq), .val (.int ca), .val (.int cb), .val (.int cx), .val (.long mm), .second, .val (.ref ac), .val (.ref ol), .val (.int vd), .val (.long (9223372036854775807 : Int64)), .second, .val (.int xd), .val (.int ad), .val (.long md), .second, .val (.int ((ln - (2 : Int32)) - qq)), .val (.long ((mm / (own_p10 (nn - 2 - qq.toInt.toNat))) - ((mm / (own_p10 (nn - 2 - qq.toInt.toNat))) / (10 : Int64)) * (10 : Int64))), .second, .unset] [(.ref ol)])) _
              refine st559.trans ?_
              show Steps p.tables e below (T559.setTop (mkF m 944 #[.val (.long va), .second, .val (.int ra), .val (.int rb), .val (.int rx), .val (.int se), .val (.int ln), .val (.int ub), .val (.int qq), .val (.int ca), .val (.int cb), .val (.int cx), .val (.long mm), .second, .val (.ref ac), .val (.ref ol), .val (.int vd), .val (.long (9223372036854775807 : Int64)), .second, .val (.int xd), .val (.int ad), .val (.long md), .second, .val (.int ((ln - (2 : Int32)) - qq)), .val (.long ((mm / (own_p10 (nn - 2 - qq.toInt.toNat))) - ((mm / (own_p10 (nn - 2 - qq.toInt.toNat))) / (10 : Int64)) * (10 : Int64))), .second, .unset] [(.int (nar .boolean (own_res fcc nn).1))])) _
              refine XS.ifNo X559.here hx rfl (hb hby at_944) rfl (XT.i0_eq_f (own_nb1 hres)) ?_
              refine XS.aload X559.here hx rfl (hb hby at_947) rfl rfl ?_
              show Steps p.tables e below (T559.setTop (mkF m 949 #[.val (.long va), .second, .val (.int ra), .val (.int rb), .val (.int rx), .val (.int se), .val (.int ln), .val (.int ub), .val (.int qq), .val (.int ca), .val (.int cb), .val (.int cx), .val (.long mm), .second, .val (.ref ac), .val (.ref ol), .val (.int vd), .val (.long (9223372036854775807 : Int64)), .second, .val (.int xd), .val (.int ad), .val (.long md), .second, .val (.int ((ln - (2 : Int32)) - qq)), .val (.long ((mm / (own_p10 (nn - 2 - qq.toInt.toNat))) - ((mm / (own_p10 (nn - 2 - qq.toInt.toNat))) / (10 : Int64)) * (10 : Int64))), .second, .unset] [(.ref ol)])) _
              refine st560.trans ?_
              refine XS.lload X560.here hx rfl (hb hby at_952) rfl ?_
              refine XT.lcmp X560.here hx rfl (hb hby at_954) rfl ?_
              show Steps p.tables e below (T560.setTop (mkF m 955 #[.val (.long va), .second, .val (.int ra), .val (.int rb), .val (.int rx), .val (.int se), .val (.int ln), .val (.int ub), .val (.int qq), .val (.int ca), .val (.int cb), .val (.int cx), .val (.long mm), .second, .val (.ref ac), .val (.ref ol), .val (.int vd), .val (.long (9223372036854775807 : Int64)), .second, .val (.int xd), .val (.int ad), .val (.long md), .second, .val (.int ((ln - (2 : Int32)) - qq)), .val (.long ((mm / (own_p10 (nn - 2 - qq.toInt.toNat))) - ((mm / (own_p10 (nn - 2 - qq.toInt.toNat))) / (10 : Int64)) * (10 : Int64))), .second, .unset] [(.int (XT.cmpL (own_res fcc nn).2 (9223372036854775807 : Int64)))])) _
              refine XS.ifNo X560.here hx rfl (hb hby at_955) rfl (XT.ll_ne_f ((own_20 hG hln hc761_461 (own_mid1 hG hc785_469 h_md) h_xd h_ad hc835_556).1 (Or.inl hc893_558))) ?_
              refine XS.iconst X560.here hx rfl (hb hby at_958) ?_
              refine XS.goto X560.here hx rfl (pc0 := 959) (pc' := 963) rfl (hb hby at_959) (by decide) (by decide) ?_
              exact kt
            have CK562 := CHr.keep (Z := Z) (EL := EL1) K552 sf0 CC400.1
            obtain ⟨fs, hr, hrun, hended, hEnd⟩ := X560.leaveW hS (by rw [hE560]; exact Nat.le_trans hk K552.1) (v := some (.int (1 : Int32))) (fun h => by rw [Bd.returns] at h; cases h)
            have CT := CK562.trans (CHv.at (s := s) (vm0 := T400.vm) X560 hZ hEL CK562.1)
            refine ⟨_, _, pre561 _ ?_, hrun, hended, _, _, rfl, ?_, ?_, hEnd.1, hEnd.2.1, hEnd.2.2.1, hEnd.2.2.2.mono (by decide) (by decide)⟩
            · show Steps p.tables e below (T560.setTop (mkF m 963 #[.val (.long va), .second, .val (.int ra), .val (.int rb), .val (.int rx), .val (.int se), .val (.int ln), .val (.int ub), .val (.int qq), .val (.int ca), .val (.int cb), .val (.int cx), .val (.long mm), .second, .val (.ref ac), .val (.ref ol), .val (.int vd), .val (.long (9223372036854775807 : Int64)), .second, .val (.int xd), .val (.int ad), .val (.long md), .second, .val (.int ((ln - (2 : Int32)) - qq)), .val (.long ((mm / (own_p10 (nn - 2 - qq.toInt.toNat))) - ((mm / (own_p10 (nn - 2 - qq.toInt.toNat))) / (10 : Int64)) * (10 : Int64))), .second, .unset] [(.int (1 : Int32))])) _
              exact retN X560 hx (t := .boolean) Bd.returns (by simp) (hb hby at_963) hr
            · show Q0 Z va ra rb rx se cs fmv em h0 n0 _ T560.heap _
              rw [hE560]
              exact ⟨rfl, N560⟩
            · rw [hh]
              show CHr Z EL1 s.vm h0 T560.vm T560.heap
              rw [hE560]
              exact CR411.trans CT
          · skip
            have pre563 : ∀ t, Steps p.tables e below (T540.setTop (mkF m 902 #[.val (.long va), .second, .val (.int ra), .val (.int rb), .val (.int rx), .val (.int se), .val (.int ln), .val (.int ub), .val (.int qq), .val (.int ca), .val (.int cb), .val (.int cx), .val (.long mm), .second, .val (.ref ac), .val (.ref ol), .val (.int vd), .unset, .unset, .val (.int xd), .val (.int ad), .val (.long md), .second, .val (.int ((ln - (2 : Int32)) - qq)), .val (.long ((mm / (own_p10 (nn - 2 - qq.toInt.toNat))) - ((mm / (own_p10 (nn - 2 - qq.toInt.toNat))) / (10 : Int64)) * (10 : Int64))), .second, .unset] [(.int (XT.cmpL md (922337203685477580 : Int64)))])) t → Steps p.tables e below (s₁.setTop (entryFrame m #[(.long va), (.int ra), (.int rb), (.int rx), (.int se)] maxLocals)) t := by
              intro t kt
              refine pre557 _ ?_
              show Steps p.tables e below (T540.setTop (mkF m 893 #[.val (.long va), .second, .val (.int ra), .val (.int rb), .val (.int rx), .val (.int se), .val (.int ln), .val (.int ub), .val (.int qq), .val (.int ca), .val (.int cb), .val (.int cx), .val (.long mm), .second, .val (.ref ac), .val (.ref ol), .val (.int vd), .unset, .unset, .val (.int xd), .val (.int ad), .val (.long md), .second, .val (.int ((ln - (2 : Int32)) - qq)), .val (.long ((mm / (own_p10 (nn - 2 - qq.toInt.toNat))) - ((mm / (own_p10 (nn - 2 - qq.toInt.toNat))) / (10 : Int64)) * (10 : Int64))), .second, .unset] [(.int ad)])) _
              refine XS.ifNo X540.here hx rfl (hb hby at_893) rfl (XT.i0_gt_f hc893_558) ?_
              refine XS.lload X540.here hx rfl (hb hby at_896) rfl ?_
              refine Stand.ldc2J (g := (mkF m 898 #[.val (.long va), .second, .val (.int ra), .val (.int rb), .val (.int rx), .val (.int se), .val (.int ln), .val (.int ub), .val (.int qq), .val (.int ca), .val (.int cb), .val (.int cx), .val (.long mm), .second, .val (.ref ac), .val (.ref ol), .val (.int vd), .unset, .unset, .val (.int xd), .val (.int ad), .val (.long md), .second, .val (.int ((ln - (2 : Int32)) - qq)), .val (.long ((mm / (own_p10 (nn - 2 - qq.toInt.toNat))) - ((mm / (own_p10 (nn - 2 - qq.toInt.toNat))) / (10 : Int64)) * (10 : Int64))), .second, .unset] [(.long md)])) X540 hx hown (mvT hZ (hw _ (List.mem_of_getElem? (i := 138) rfl))) rfl (hb hby at_898) ?_
              refine XT.lcmp X540.here hx rfl (hb hby at_901) rfl ?_
              exact kt
            by_cases hc902_564 : (922337203685477580 : Int64) < md
            · skip
              obtain ⟨cq565, kq565, q565a, q565b, q565c⟩ := isOf hZ rfl f547
              obtain ⟨_, _, ⟨T565, L565, k565, n565⟩, -, X565, ⟨Lc565, hQ565, l565, y565, z565⟩, st565⟩ := X540.virtualBack hx (y := (⟨"java/util/OptionalLong", "isPresent", "()Z"⟩ : MethodName)) (z := (⟨"java/util/OptionalLong", "isPresent", "()Z"⟩ : MethodName)) hown (mvT hZ (hw _ (List.mem_of_getElem? (i := 121) rfl))) (mvT hZ (hw _ (List.mem_of_getElem? (i := 122) rfl))) (notFace_of_selects (args := #[]) (mvT hZ (hw _ (List.mem_of_getElem? (i := 124) rfl)))) (mvT hZ (hw _ (List.mem_of_getElem? (i := 124) rfl))) (mvT hZ (hw _ (List.mem_of_getElem? (i := 123) rfl))) (by decide) (backOf (W := 0) (rm22 l Z a0 hw [] ol (own_res fcc nn).1 (own_res fcc nn).2 T540.heap n0 Z550 f547 f548 f549) hZ (hw _ (List.mem_of_getElem? (i := 125) rfl)) (hw _ (List.mem_of_getElem? (i := 105) rfl)) (by decide) (by decide)) q565a q565c (g := (mkF m 941 #[.val (.long va), .second, .val (.int ra), .val (.int rb), .val (.int rx), .val (.int se), .val (.int ln), .val (.int ub), .val (.int qq), .val (.int ca), .val (.int cb), .val (.int cx), .val (.long mm), .second, .val (.ref ac), .val (.ref ol), .val (.int vd), .val (.long (9223372036854775807 : Int64)), .second, .val (.int xd), .val (.int ad), .val (.long md), .second, .val (.int ((ln - (2 : Int32)) - qq)), .val (.long ((mm / (own_p10 (nn - 2 - qq.toInt.toNat))) - ((mm / (own_p10 (nn - 2 - qq.toInt.toNat))) / (10 : Int64)) * (10 : Int64))), .second, .unset] [(.ref ol)])) rfl (by rw [hml]; rfl) (Steps.refl _) (argsL := []) (rest := []) (lenOf pd_8 rfl) rfl (by show 2 * 0 + _ ≤ _; exact Nat.le_of_eq rfl) (hb hby at_941) (fun _ _ => ⟨rfl, rfl, (by decide : 30 + 0 ≤ _), (by decide : 483 + 0 ≤ _)⟩)
              dsimp only [Pt.U, Pt.locs, Pt.cells, Pt.slots] at X565 l565 y565 z565 st565 hQ565
              subst l565 y565 z565
              obtain ⟨rfl, N565q, hE565⟩ := hQ565
              have N565 := Fr.app N540 N565q
              obtain ⟨cq566, kq566, q566a, q566b, q566c⟩ := isOf hZ hE565 f547
              obtain ⟨_, _, ⟨T566, L566, k566, n566⟩, -, X566, ⟨Lc566, hQ566, l566, y566, z566⟩, st566⟩ := X565.virtualBack hx (y := (⟨"java/util/OptionalLong", "getAsLong", "()J"⟩ : MethodName)) (z := (⟨"java/util/OptionalLong", "getAsLong", "()J"⟩ : MethodName)) hown (mvT hZ (hw _ (List.mem_of_getElem? (i := 126) rfl))) (mvT hZ (hw _ (List.mem_of_getElem? (i := 127) rfl))) (notFace_of_selects (args := #[]) (mvT hZ (hw _ (List.mem_of_getElem? (i := 129) rfl)))) (mvT hZ (hw _ (List.mem_of_getElem? (i := 129) rfl))) (mvT hZ (hw _ (List.mem_of_getElem? (i := 128) rfl))) (by decide) (backOf (W := 0) (rm23 l Z a0 hw [] ol (own_res fcc nn).1 (own_res fcc nn).2 T540.heap n0 Z550 f547 f548 f549 hip) hZ (hw _ (List.mem_of_getElem? (i := 130) rfl)) (hw _ (List.mem_of_getElem? (i := 105) rfl)) (by decide) (by decide)) q566a q566c (g := (mkF m 949 #[.val (.long va), .second, .val (.int ra), .val (.int rb), .val (.int rx), .val (.int se), .val (.int ln), .val (.int ub), .val (.int qq), .val (.int ca), .val (.int cb), .val (.int cx), .val (.long mm), .second, .val (.ref ac), .val (.ref ol), .val (.int vd), .val (.long (9223372036854775807 : Int64)), .second, .val (.int xd), .val (.int ad), .val (.long md), .second, .val (.int ((ln - (2 : Int32)) - qq)), .val (.long ((mm / (own_p10 (nn - 2 - qq.toInt.toNat))) - ((mm / (own_p10 (nn - 2 - qq.toInt.toNat))) / (10 : Int64)) * (10 : Int64))), .second, .unset] [(.ref ol)])) rfl (by rw [hml]; rfl) (Steps.refl _) (argsL := []) (rest := []) (lenOf pd_19 rfl) rfl (by show 2 * 0 + _ ≤ _; exact Nat.le_of_eq rfl) (hb hby at_949) (fun _ _ => ⟨rfl, hE565, (by decide : 30 + 0 ≤ _), (by decide : 483 + 0 ≤ _)⟩)
              dsimp only [Pt.U, Pt.locs, Pt.cells, Pt.slots] at X566 l566 y566 z566 st566 hQ566
              subst l566 y566 z566
              obtain ⟨rfl, N566q, hE566⟩ := hQ566
              have N566 := Fr.app N565 N566q
              have pre567 : ∀ t, Steps p.tables e below (T566.setTop (mkF m 963 #[.val (.long va), .second, .val (.int ra), .val (.int rb), .val (.int rx), .val (.int se), .val (.int ln), .val (.int ub), .val (.int qq), .val (.int ca), .val (.int cb), .val (.int cx), .val (.long mm), .second, .val (.ref ac), .val (.ref ol), .val (.int vd), .val (.long (9223372036854775807 : Int64)), .second, .val (.int xd), .val (.int ad), .val (.long md), .second, .val (.int ((ln - (2 : Int32)) - qq)), .val (.long ((mm / (own_p10 (nn - 2 - qq.toInt.toNat))) - ((mm / (own_p10 (nn - 2 - qq.toInt.toNat))) / (10 : Int64)) * (10 : Int64))), .second, .unset] [(.int (1 : Int32))])) t → Steps p.tables e below (s₁.setTop (entryFrame m #[(.long va), (.int ra), (.int rb), (.int rx), (.int se)] maxLocals)) t := by
                intro t kt
                refine pre563 _ ?_
                show Steps p.tables e below (T540.setTop (mkF m 902 #[.val (.long va), .second, .val (.int ra), .val (.int rb), .val (.int rx), .val (.int se), .val (.int ln), .val (.int ub), .val (.int qq), .val (.int ca), .val (.int cb), .val (.int cx), .val (.long mm), .second, .val (.ref ac), .val (.ref ol), .val (.int vd), .unset, .unset, .val (.int xd), .val (.int ad), .val (.long md), .second, .val (.int ((ln - (2 : Int32)) - qq)), .val (.long ((mm / (own_p10 (nn - 2 - qq.toInt.toNat))) - ((mm / (own_p10 (nn - 2 - qq.toInt.toNat))) / (10 : Int64)) * (10 : Int64))), .second, .unset] [(.int (XT.cmpL md (922337203685477580 : Int64)))])) _
                refine XS.ifYes X540.here hx rfl (pc0 := 902) (pc' := 921) rfl (hb hby at_902) rfl (XT.ll_gt_t hc902_564) (by decide) (by decide) ?_
                refine Stand.ldc2J (g := (mkF m 921 #[.val (.long va), .second, .val (.int ra), .val (.int rb), .val (.int rx), .val (.int se), .val (.int ln), .val (.int ub), .val (.int qq), .val (.int ca), .val (.int cb), .val (.int cx), .val (.long mm), .second, .val (.ref ac), .val (.ref ol), .val (.int vd), .unset, .unset, .val (.int xd), .val (.int ad), .val (.long md), .second, .val (.int ((ln - (2 : Int32)) - qq)), .val (.long ((mm / (own_p10 (nn - 2 - qq.toInt.toNat))) - ((mm / (own_p10 (nn - 2 - qq.toInt.toNat))) / (10 : Int64)) * (10 : Int64))), .second, .unset] [])) X540 hx hown (mvT hZ (hw _ (List.mem_of_getElem? (i := 4) rfl))) rfl (hb hby at_921) ?_
                refine XS.goto X540.here hx rfl (pc0 := 924) (pc' := 937) rfl (hb hby at_924) (by decide) (by decide) ?_
                refine XS.lstore X540.here hx rfl (hb hby at_937) rfl (l' := #[.val (.long va), .second, .val (.int ra), .val (.int rb), .val (.int rx), .val (.int se), .val (.int ln), .val (.int ub), .val (.int qq), .val (.int ca), .val (.int cb), .val (.int cx), .val (.long mm), .second, .val (.ref ac), .val (.ref ol), .val (.int vd), .val (.long (9223372036854775807 : Int64)), .second, .val (.int xd), .val (.int ad), .val (.long md), .second, .val (.int ((ln - (2 : Int32)) - qq)), .val (.long ((mm / (own_p10 (nn - 2 - qq.toInt.toNat))) - ((mm / (own_p10 (nn - 2 - qq.toInt.toNat))) / (10 : Int64)) * (10 : Int64))), .second, .unset]) rfl ?_
                show Steps p.tables e below (T540.setTop (mkF m 939 #[.val (.long va), .second, .val (.int ra), .val (.int rb), .val (.int rx), .val (.int se), .val (.int ln), .val (.int ub), .val (.int qq), .val (.int ca), .val (.int cb), .val (.int cx), .val (.long mm), .second, .val (.ref ac), .val (.ref ol), .val (.int vd), .val (.long (9223372036854775807 : Int64)), .second, .val (.int xd), .val (.int ad), .val (.long md), .second, .val (.int ((ln - (2 : Int32)) - qq)), .val (.long ((mm / (own_p10 (nn - 2 - qq.toInt.toNat))) - ((mm / (own_p10 (nn - 2 - qq.toInt.toNat))) / (10 : Int64)) * (10 : Int64))), .second, .unset] [])) _
                refine XS.aload X540.here hx rfl (hb hby at_939) rfl rfl ?_
                show Steps p.tables e below (T540.setTop (mkF m 941 #[.val (.long va), .second, .val (.int ra), .val (.int rb), .val (.int rx), .val (.int se), .val (.int ln), .val (.int ub), .val (.int qq), .val (.int ca), .val (.int cb), .val (.int cx), .val (.long mm), .second, .val (.ref ac), .val (.ref ol), .val (.int vd), .val (.long (9223372036854775807 : Int64)), .second, .val (.int xd), .val (.int ad), .val (.long md), .second, .val (.int ((ln - (2 : Int32)) - qq)), .val (.long ((mm / (own_p10 (nn - 2 - qq.toInt.toNat))) - ((mm / (own_p10 (nn - 2 - qq.toInt.toNat))) / (10 : Int64)) * (10 : Int64))), .second, .unset] [(.ref ol)])) _
                refine st565.trans ?_
                show Steps p.tables e below (T565.setTop (mkF m 944 #[.val (.long va), .second, .val (.int ra), .val (.int rb), .val (.int rx), .val (.int se), .val (.int ln), .val (.int ub), .val (.int qq), .val (.int ca), .val (.int cb), .val (.int cx), .val (.long mm), .second, .val (.ref ac), .val (.ref ol), .val (.int vd), .val (.long (9223372036854775807 : Int64)), .second, .val (.int xd), .val (.int ad), .val (.long md), .second, .val (.int ((ln - (2 : Int32)) - qq)), .val (.long ((mm / (own_p10 (nn - 2 - qq.toInt.toNat))) - ((mm / (own_p10 (nn - 2 - qq.toInt.toNat))) / (10 : Int64)) * (10 : Int64))), .second, .unset] [(.int (nar .boolean (own_res fcc nn).1))])) _
                refine XS.ifNo X565.here hx rfl (hb hby at_944) rfl (XT.i0_eq_f (own_nb1 hres)) ?_
                refine XS.aload X565.here hx rfl (hb hby at_947) rfl rfl ?_
                show Steps p.tables e below (T565.setTop (mkF m 949 #[.val (.long va), .second, .val (.int ra), .val (.int rb), .val (.int rx), .val (.int se), .val (.int ln), .val (.int ub), .val (.int qq), .val (.int ca), .val (.int cb), .val (.int cx), .val (.long mm), .second, .val (.ref ac), .val (.ref ol), .val (.int vd), .val (.long (9223372036854775807 : Int64)), .second, .val (.int xd), .val (.int ad), .val (.long md), .second, .val (.int ((ln - (2 : Int32)) - qq)), .val (.long ((mm / (own_p10 (nn - 2 - qq.toInt.toNat))) - ((mm / (own_p10 (nn - 2 - qq.toInt.toNat))) / (10 : Int64)) * (10 : Int64))), .second, .unset] [(.ref ol)])) _
                refine st566.trans ?_
                refine XS.lload X566.here hx rfl (hb hby at_952) rfl ?_
                refine XT.lcmp X566.here hx rfl (hb hby at_954) rfl ?_
                show Steps p.tables e below (T566.setTop (mkF m 955 #[.val (.long va), .second, .val (.int ra), .val (.int rb), .val (.int rx), .val (.int se), .val (.int ln), .val (.int ub), .val (.int qq), .val (.int ca), .val (.int cb), .val (.int cx), .val (.long mm), .second, .val (.ref ac), .val (.ref ol), .val (.int vd), .val (.long (9223372036854775807 : Int64)), .second, .val (.int xd), .val (.int ad), .val (.long md), .second, .val (.int ((ln - (2 : Int32)) - qq)), .val (.long ((mm / (own_p10 (nn - 2 - qq.toInt.toNat))) - ((mm / (own_p10 (nn - 2 - qq.toInt.toNat))) / (10 : Int64)) * (10 : Int64))), .second, .unset] [(.int (XT.cmpL (own_res fcc nn).2 (9223372036854775807 : Int64)))])) _
                refine XS.ifNo X566.here hx rfl (hb hby at_955) rfl (XT.ll_ne_f ((own_20 hG hln hc761_461 (own_mid1 hG hc785_469 h_md) h_xd h_ad hc835_556).1 (Or.inr (Or.inl hc902_564)))) ?_
                refine XS.iconst X566.here hx rfl (hb hby at_958) ?_
                refine XS.goto X566.here hx rfl (pc0 := 959) (pc' := 963) rfl (hb hby at_959) (by decide) (by decide) ?_
                exact kt
              have CK568 := CHr.keep (Z := Z) (EL := EL1) K552 sf0 CC400.1
              obtain ⟨fs, hr, hrun, hended, hEnd⟩ := X566.leaveW hS (by rw [hE566]; exact Nat.le_trans hk K552.1) (v := some (.int (1 : Int32))) (fun h => by rw [Bd.returns] at h; cases h)
              have CT := CK568.trans (CHv.at (s := s) (vm0 := T400.vm) X566 hZ hEL CK568.1)
              refine ⟨_, _, pre567 _ ?_, hrun, hended, _, _, rfl, ?_, ?_, hEnd.1, hEnd.2.1, hEnd.2.2.1, hEnd.2.2.2.mono (by decide) (by decide)⟩
              · show Steps p.tables e below (T566.setTop (mkF m 963 #[.val (.long va), .second, .val (.int ra), .val (.int rb), .val (.int rx), .val (.int se), .val (.int ln), .val (.int ub), .val (.int qq), .val (.int ca), .val (.int cb), .val (.int cx), .val (.long mm), .second, .val (.ref ac), .val (.ref ol), .val (.int vd), .val (.long (9223372036854775807 : Int64)), .second, .val (.int xd), .val (.int ad), .val (.long md), .second, .val (.int ((ln - (2 : Int32)) - qq)), .val (.long ((mm / (own_p10 (nn - 2 - qq.toInt.toNat))) - ((mm / (own_p10 (nn - 2 - qq.toInt.toNat))) / (10 : Int64)) * (10 : Int64))), .second, .unset] [(.int (1 : Int32))])) _
                exact retN X566 hx (t := .boolean) Bd.returns (by simp) (hb hby at_963) hr
              · show Q0 Z va ra rb rx se cs fmv em h0 n0 _ T566.heap _
                rw [hE566]
                exact ⟨rfl, N566⟩
              · rw [hh]
                show CHr Z EL1 s.vm h0 T566.vm T566.heap
                rw [hE566]
                exact CR411.trans CT
            · skip
              have pre569 : ∀ t, Steps p.tables e below (T540.setTop (mkF m 911 #[.val (.long va), .second, .val (.int ra), .val (.int rb), .val (.int rx), .val (.int se), .val (.int ln), .val (.int ub), .val (.int qq), .val (.int ca), .val (.int cb), .val (.int cx), .val (.long mm), .second, .val (.ref ac), .val (.ref ol), .val (.int vd), .unset, .unset, .val (.int xd), .val (.int ad), .val (.long md), .second, .val (.int ((ln - (2 : Int32)) - qq)), .val (.long ((mm / (own_p10 (nn - 2 - qq.toInt.toNat))) - ((mm / (own_p10 (nn - 2 - qq.toInt.toNat))) / (10 : Int64)) * (10 : Int64))), .second, .unset] [(.int (XT.cmpL md (922337203685477580 : Int64)))])) t → Steps p.tables e below (s₁.setTop (entryFrame m #[(.long va), (.int ra), (.int rb), (.int rx), (.int se)] maxLocals)) t := by
                intro t kt
                refine pre563 _ ?_
                show Steps p.tables e below (T540.setTop (mkF m 902 #[.val (.long va), .second, .val (.int ra), .val (.int rb), .val (.int rx), .val (.int se), .val (.int ln), .val (.int ub), .val (.int qq), .val (.int ca), .val (.int cb), .val (.int cx), .val (.long mm), .second, .val (.ref ac), .val (.ref ol), .val (.int vd), .unset, .unset, .val (.int xd), .val (.int ad), .val (.long md), .second, .val (.int ((ln - (2 : Int32)) - qq)), .val (.long ((mm / (own_p10 (nn - 2 - qq.toInt.toNat))) - ((mm / (own_p10 (nn - 2 - qq.toInt.toNat))) / (10 : Int64)) * (10 : Int64))), .second, .unset] [(.int (XT.cmpL md (922337203685477580 : Int64)))])) _
                refine XS.ifNo X540.here hx rfl (hb hby at_902) rfl (XT.ll_gt_f hc902_564) ?_
                refine XS.lload X540.here hx rfl (hb hby at_905) rfl ?_
                refine Stand.ldc2J (g := (mkF m 907 #[.val (.long va), .second, .val (.int ra), .val (.int rb), .val (.int rx), .val (.int se), .val (.int ln), .val (.int ub), .val (.int qq), .val (.int ca), .val (.int cb), .val (.int cx), .val (.long mm), .second, .val (.ref ac), .val (.ref ol), .val (.int vd), .unset, .unset, .val (.int xd), .val (.int ad), .val (.long md), .second, .val (.int ((ln - (2 : Int32)) - qq)), .val (.long ((mm / (own_p10 (nn - 2 - qq.toInt.toNat))) - ((mm / (own_p10 (nn - 2 - qq.toInt.toNat))) / (10 : Int64)) * (10 : Int64))), .second, .unset] [(.long md)])) X540 hx hown (mvT hZ (hw _ (List.mem_of_getElem? (i := 138) rfl))) rfl (hb hby at_907) ?_
                refine XT.lcmp X540.here hx rfl (hb hby at_910) rfl ?_
                exact kt
              by_cases hc911_570 : md = (922337203685477580 : Int64)
              · skip
                have pre571 : ∀ t, Steps p.tables e below (T540.setTop (mkF m 918 #[.val (.long va), .second, .val (.int ra), .val (.int rb), .val (.int rx), .val (.int se), .val (.int ln), .val (.int ub), .val (.int qq), .val (.int ca), .val (.int cb), .val (.int cx), .val (.long mm), .second, .val (.ref ac), .val (.ref ol), .val (.int vd), .unset, .unset, .val (.int xd), .val (.int ad), .val (.long md), .second, .val (.int ((ln - (2 : Int32)) - qq)), .val (.long ((mm / (own_p10 (nn - 2 - qq.toInt.toNat))) - ((mm / (own_p10 (nn - 2 - qq.toInt.toNat))) / (10 : Int64)) * (10 : Int64))), .second, .unset] [(.int (7 : Int32)), (.int xd)])) t → Steps p.tables e below (s₁.setTop (entryFrame m #[(.long va), (.int ra), (.int rb), (.int rx), (.int se)] maxLocals)) t := by
                  intro t kt
                  refine pre569 _ ?_
                  show Steps p.tables e below (T540.setTop (mkF m 911 #[.val (.long va), .second, .val (.int ra), .val (.int rb), .val (.int rx), .val (.int se), .val (.int ln), .val (.int ub), .val (.int qq), .val (.int ca), .val (.int cb), .val (.int cx), .val (.long mm), .second, .val (.ref ac), .val (.ref ol), .val (.int vd), .unset, .unset, .val (.int xd), .val (.int ad), .val (.long md), .second, .val (.int ((ln - (2 : Int32)) - qq)), .val (.long ((mm / (own_p10 (nn - 2 - qq.toInt.toNat))) - ((mm / (own_p10 (nn - 2 - qq.toInt.toNat))) / (10 : Int64)) * (10 : Int64))), .second, .unset] [(.int (XT.cmpL md (922337203685477580 : Int64)))])) _
                  refine XS.ifNo X540.here hx rfl (hb hby at_911) rfl (XT.ll_ne_f hc911_570) ?_
                  refine XS.iload X540.here hx rfl (hb hby at_914) rfl ?_
                  refine XS.bipush X540.here hx rfl (hb hby at_916) ?_
                  exact kt
                by_cases hc918_572 : (7 : Int32) < xd
                · skip
                  obtain ⟨cq573, kq573, q573a, q573b, q573c⟩ := isOf hZ rfl f547
                  obtain ⟨_, _, ⟨T573, L573, k573, n573⟩, -, X573, ⟨Lc573, hQ573, l573, y573, z573⟩, st573⟩ := X540.virtualBack hx (y := (⟨"java/util/OptionalLong", "isPresent", "()Z"⟩ : MethodName)) (z := (⟨"java/util/OptionalLong", "isPresent", "()Z"⟩ : MethodName)) hown (mvT hZ (hw _ (List.mem_of_getElem? (i := 121) rfl))) (mvT hZ (hw _ (List.mem_of_getElem? (i := 122) rfl))) (notFace_of_selects (args := #[]) (mvT hZ (hw _ (List.mem_of_getElem? (i := 124) rfl)))) (mvT hZ (hw _ (List.mem_of_getElem? (i := 124) rfl))) (mvT hZ (hw _ (List.mem_of_getElem? (i := 123) rfl))) (by decide) (backOf (W := 0) (rm22 l Z a0 hw [] ol (own_res fcc nn).1 (own_res fcc nn).2 T540.heap n0 Z550 f547 f548 f549) hZ (hw _ (List.mem_of_getElem? (i := 125) rfl)) (hw _ (List.mem_of_getElem? (i := 105) rfl)) (by decide) (by decide)) q573a q573c (g := (mkF m 941 #[.val (.long va), .second, .val (.int ra), .val (.int rb), .val (.int rx), .val (.int se), .val (.int ln), .val (.int ub), .val (.int qq), .val (.int ca), .val (.int cb), .val (.int cx), .val (.long mm), .second, .val (.ref ac), .val (.ref ol), .val (.int vd), .val (.long (9223372036854775807 : Int64)), .second, .val (.int xd), .val (.int ad), .val (.long md), .second, .val (.int ((ln - (2 : Int32)) - qq)), .val (.long ((mm / (own_p10 (nn - 2 - qq.toInt.toNat))) - ((mm / (own_p10 (nn - 2 - qq.toInt.toNat))) / (10 : Int64)) * (10 : Int64))), .second, .unset] [(.ref ol)])) rfl (by rw [hml]; rfl) (Steps.refl _) (argsL := []) (rest := []) (lenOf pd_8 rfl) rfl (by show 2 * 0 + _ ≤ _; exact Nat.le_of_eq rfl) (hb hby at_941) (fun _ _ => ⟨rfl, rfl, (by decide : 30 + 0 ≤ _), (by decide : 483 + 0 ≤ _)⟩)
                  dsimp only [Pt.U, Pt.locs, Pt.cells, Pt.slots] at X573 l573 y573 z573 st573 hQ573
                  subst l573 y573 z573
                  obtain ⟨rfl, N573q, hE573⟩ := hQ573
                  have N573 := Fr.app N540 N573q
                  obtain ⟨cq574, kq574, q574a, q574b, q574c⟩ := isOf hZ hE573 f547
                  obtain ⟨_, _, ⟨T574, L574, k574, n574⟩, -, X574, ⟨Lc574, hQ574, l574, y574, z574⟩, st574⟩ := X573.virtualBack hx (y := (⟨"java/util/OptionalLong", "getAsLong", "()J"⟩ : MethodName)) (z := (⟨"java/util/OptionalLong", "getAsLong", "()J"⟩ : MethodName)) hown (mvT hZ (hw _ (List.mem_of_getElem? (i := 126) rfl))) (mvT hZ (hw _ (List.mem_of_getElem? (i := 127) rfl))) (notFace_of_selects (args := #[]) (mvT hZ (hw _ (List.mem_of_getElem? (i := 129) rfl)))) (mvT hZ (hw _ (List.mem_of_getElem? (i := 129) rfl))) (mvT hZ (hw _ (List.mem_of_getElem? (i := 128) rfl))) (by decide) (backOf (W := 0) (rm23 l Z a0 hw [] ol (own_res fcc nn).1 (own_res fcc nn).2 T540.heap n0 Z550 f547 f548 f549 hip) hZ (hw _ (List.mem_of_getElem? (i := 130) rfl)) (hw _ (List.mem_of_getElem? (i := 105) rfl)) (by decide) (by decide)) q574a q574c (g := (mkF m 949 #[.val (.long va), .second, .val (.int ra), .val (.int rb), .val (.int rx), .val (.int se), .val (.int ln), .val (.int ub), .val (.int qq), .val (.int ca), .val (.int cb), .val (.int cx), .val (.long mm), .second, .val (.ref ac), .val (.ref ol), .val (.int vd), .val (.long (9223372036854775807 : Int64)), .second, .val (.int xd), .val (.int ad), .val (.long md), .second, .val (.int ((ln - (2 : Int32)) - qq)), .val (.long ((mm / (own_p10 (nn - 2 - qq.toInt.toNat))) - ((mm / (own_p10 (nn - 2 - qq.toInt.toNat))) / (10 : Int64)) * (10 : Int64))), .second, .unset] [(.ref ol)])) rfl (by rw [hml]; rfl) (Steps.refl _) (argsL := []) (rest := []) (lenOf pd_19 rfl) rfl (by show 2 * 0 + _ ≤ _; exact Nat.le_of_eq rfl) (hb hby at_949) (fun _ _ => ⟨rfl, hE573, (by decide : 30 + 0 ≤ _), (by decide : 483 + 0 ≤ _)⟩)
                  dsimp only [Pt.U, Pt.locs, Pt.cells, Pt.slots] at X574 l574 y574 z574 st574 hQ574
                  subst l574 y574 z574
                  obtain ⟨rfl, N574q, hE574⟩ := hQ574
                  have N574 := Fr.app N573 N574q
                  have pre575 : ∀ t, Steps p.tables e below (T574.setTop (mkF m 963 #[.val (.long va), .second, .val (.int ra), .val (.int rb), .val (.int rx), .val (.int se), .val (.int ln), .val (.int ub), .val (.int qq), .val (.int ca), .val (.int cb), .val (.int cx), .val (.long mm), .second, .val (.ref ac), .val (.ref ol), .val (.int vd), .val (.long (9223372036854775807 : Int64)), .second, .val (.int xd), .val (.int ad), .val (.long md), .second, .val (.int ((ln - (2 : Int32)) - qq)), .val (.long ((mm / (own_p10 (nn - 2 - qq.toInt.toNat))) - ((mm / (own_p10 (nn - 2 - qq.toInt.toNat))) / (10 : Int64)) * (10 : Int64))), .second, .unset] [(.int (1 : Int32))])) t → Steps p.tables e below (s₁.setTop (entryFrame m #[(.long va), (.int ra), (.int rb), (.int rx), (.int se)] maxLocals)) t := by
                    intro t kt
                    refine pre571 _ ?_
                    show Steps p.tables e below (T540.setTop (mkF m 918 #[.val (.long va), .second, .val (.int ra), .val (.int rb), .val (.int rx), .val (.int se), .val (.int ln), .val (.int ub), .val (.int qq), .val (.int ca), .val (.int cb), .val (.int cx), .val (.long mm), .second, .val (.ref ac), .val (.ref ol), .val (.int vd), .unset, .unset, .val (.int xd), .val (.int ad), .val (.long md), .second, .val (.int ((ln - (2 : Int32)) - qq)), .val (.long ((mm / (own_p10 (nn - 2 - qq.toInt.toNat))) - ((mm / (own_p10 (nn - 2 - qq.toInt.toNat))) / (10 : Int64)) * (10 : Int64))), .second, .unset] [(.int (7 : Int32)), (.int xd)])) _
                    refine XS.icmpNo X540.here hx rfl (hb hby at_918) rfl (XT.ii_le_f hc918_572) ?_
                    refine Stand.ldc2J (g := (mkF m 921 #[.val (.long va), .second, .val (.int ra), .val (.int rb), .val (.int rx), .val (.int se), .val (.int ln), .val (.int ub), .val (.int qq), .val (.int ca), .val (.int cb), .val (.int cx), .val (.long mm), .second, .val (.ref ac), .val (.ref ol), .val (.int vd), .unset, .unset, .val (.int xd), .val (.int ad), .val (.long md), .second, .val (.int ((ln - (2 : Int32)) - qq)), .val (.long ((mm / (own_p10 (nn - 2 - qq.toInt.toNat))) - ((mm / (own_p10 (nn - 2 - qq.toInt.toNat))) / (10 : Int64)) * (10 : Int64))), .second, .unset] [])) X540 hx hown (mvT hZ (hw _ (List.mem_of_getElem? (i := 4) rfl))) rfl (hb hby at_921) ?_
                    refine XS.goto X540.here hx rfl (pc0 := 924) (pc' := 937) rfl (hb hby at_924) (by decide) (by decide) ?_
                    refine XS.lstore X540.here hx rfl (hb hby at_937) rfl (l' := #[.val (.long va), .second, .val (.int ra), .val (.int rb), .val (.int rx), .val (.int se), .val (.int ln), .val (.int ub), .val (.int qq), .val (.int ca), .val (.int cb), .val (.int cx), .val (.long mm), .second, .val (.ref ac), .val (.ref ol), .val (.int vd), .val (.long (9223372036854775807 : Int64)), .second, .val (.int xd), .val (.int ad), .val (.long md), .second, .val (.int ((ln - (2 : Int32)) - qq)), .val (.long ((mm / (own_p10 (nn - 2 - qq.toInt.toNat))) - ((mm / (own_p10 (nn - 2 - qq.toInt.toNat))) / (10 : Int64)) * (10 : Int64))), .second, .unset]) rfl ?_
                    show Steps p.tables e below (T540.setTop (mkF m 939 #[.val (.long va), .second, .val (.int ra), .val (.int rb), .val (.int rx), .val (.int se), .val (.int ln), .val (.int ub), .val (.int qq), .val (.int ca), .val (.int cb), .val (.int cx), .val (.long mm), .second, .val (.ref ac), .val (.ref ol), .val (.int vd), .val (.long (9223372036854775807 : Int64)), .second, .val (.int xd), .val (.int ad), .val (.long md), .second, .val (.int ((ln - (2 : Int32)) - qq)), .val (.long ((mm / (own_p10 (nn - 2 - qq.toInt.toNat))) - ((mm / (own_p10 (nn - 2 - qq.toInt.toNat))) / (10 : Int64)) * (10 : Int64))), .second, .unset] [])) _
                    refine XS.aload X540.here hx rfl (hb hby at_939) rfl rfl ?_
                    show Steps p.tables e below (T540.setTop (mkF m 941 #[.val (.long va), .second, .val (.int ra), .val (.int rb), .val (.int rx), .val (.int se), .val (.int ln), .val (.int ub), .val (.int qq), .val (.int ca), .val (.int cb), .val (.int cx), .val (.long mm), .second, .val (.ref ac), .val (.ref ol), .val (.int vd), .val (.long (9223372036854775807 : Int64)), .second, .val (.int xd), .val (.int ad), .val (.long md), .second, .val (.int ((ln - (2 : Int32)) - qq)), .val (.long ((mm / (own_p10 (nn - 2 - qq.toInt.toNat))) - ((mm / (own_p10 (nn - 2 - qq.toInt.toNat))) / (10 : Int64)) * (10 : Int64))), .second, .unset] [(.ref ol)])) _
                    refine st573.trans ?_
                    show Steps p.tables e below (T573.setTop (mkF m 944 #[.val (.long va), .second, .val (.int ra), .val (.int rb), .val (.int rx), .val (.int se), .val (.int ln), .val (.int ub), .val (.int qq), .val (.int ca), .val (.int cb), .val (.int cx), .val (.long mm), .second, .val (.ref ac), .val (.ref ol), .val (.int vd), .val (.long (9223372036854775807 : Int64)), .second, .val (.int xd), .val (.int ad), .val (.long md), .second, .val (.int ((ln - (2 : Int32)) - qq)), .val (.long ((mm / (own_p10 (nn - 2 - qq.toInt.toNat))) - ((mm / (own_p10 (nn - 2 - qq.toInt.toNat))) / (10 : Int64)) * (10 : Int64))), .second, .unset] [(.int (nar .boolean (own_res fcc nn).1))])) _
                    refine XS.ifNo X573.here hx rfl (hb hby at_944) rfl (XT.i0_eq_f (own_nb1 hres)) ?_
                    refine XS.aload X573.here hx rfl (hb hby at_947) rfl rfl ?_
                    show Steps p.tables e below (T573.setTop (mkF m 949 #[.val (.long va), .second, .val (.int ra), .val (.int rb), .val (.int rx), .val (.int se), .val (.int ln), .val (.int ub), .val (.int qq), .val (.int ca), .val (.int cb), .val (.int cx), .val (.long mm), .second, .val (.ref ac), .val (.ref ol), .val (.int vd), .val (.long (9223372036854775807 : Int64)), .second, .val (.int xd), .val (.int ad), .val (.long md), .second, .val (.int ((ln - (2 : Int32)) - qq)), .val (.long ((mm / (own_p10 (nn - 2 - qq.toInt.toNat))) - ((mm / (own_p10 (nn - 2 - qq.toInt.toNat))) / (10 : Int64)) * (10 : Int64))), .second, .unset] [(.ref ol)])) _
                    refine st574.trans ?_
                    refine XS.lload X574.here hx rfl (hb hby at_952) rfl ?_
                    refine XT.lcmp X574.here hx rfl (hb hby at_954) rfl ?_
                    show Steps p.tables e below (T574.setTop (mkF m 955 #[.val (.long va), .second, .val (.int ra), .val (.int rb), .val (.int rx), .val (.int se), .val (.int ln), .val (.int ub), .val (.int qq), .val (.int ca), .val (.int cb), .val (.int cx), .val (.long mm), .second, .val (.ref ac), .val (.ref ol), .val (.int vd), .val (.long (9223372036854775807 : Int64)), .second, .val (.int xd), .val (.int ad), .val (.long md), .second, .val (.int ((ln - (2 : Int32)) - qq)), .val (.long ((mm / (own_p10 (nn - 2 - qq.toInt.toNat))) - ((mm / (own_p10 (nn - 2 - qq.toInt.toNat))) / (10 : Int64)) * (10 : Int64))), .second, .unset] [(.int (XT.cmpL (own_res fcc nn).2 (9223372036854775807 : Int64)))])) _
                    refine XS.ifNo X574.here hx rfl (hb hby at_955) rfl (XT.ll_ne_f ((own_20 hG hln hc761_461 (own_mid1 hG hc785_469 h_md) h_xd h_ad hc835_556).1 (Or.inr (Or.inr ⟨hc911_570, hc918_572⟩)))) ?_
                    refine XS.iconst X574.here hx rfl (hb hby at_958) ?_
                    refine XS.goto X574.here hx rfl (pc0 := 959) (pc' := 963) rfl (hb hby at_959) (by decide) (by decide) ?_
                    exact kt
                  have CK576 := CHr.keep (Z := Z) (EL := EL1) K552 sf0 CC400.1
                  obtain ⟨fs, hr, hrun, hended, hEnd⟩ := X574.leaveW hS (by rw [hE574]; exact Nat.le_trans hk K552.1) (v := some (.int (1 : Int32))) (fun h => by rw [Bd.returns] at h; cases h)
                  have CT := CK576.trans (CHv.at (s := s) (vm0 := T400.vm) X574 hZ hEL CK576.1)
                  refine ⟨_, _, pre575 _ ?_, hrun, hended, _, _, rfl, ?_, ?_, hEnd.1, hEnd.2.1, hEnd.2.2.1, hEnd.2.2.2.mono (by decide) (by decide)⟩
                  · show Steps p.tables e below (T574.setTop (mkF m 963 #[.val (.long va), .second, .val (.int ra), .val (.int rb), .val (.int rx), .val (.int se), .val (.int ln), .val (.int ub), .val (.int qq), .val (.int ca), .val (.int cb), .val (.int cx), .val (.long mm), .second, .val (.ref ac), .val (.ref ol), .val (.int vd), .val (.long (9223372036854775807 : Int64)), .second, .val (.int xd), .val (.int ad), .val (.long md), .second, .val (.int ((ln - (2 : Int32)) - qq)), .val (.long ((mm / (own_p10 (nn - 2 - qq.toInt.toNat))) - ((mm / (own_p10 (nn - 2 - qq.toInt.toNat))) / (10 : Int64)) * (10 : Int64))), .second, .unset] [(.int (1 : Int32))])) _
                    exact retN X574 hx (t := .boolean) Bd.returns (by simp) (hb hby at_963) hr
                  · show Q0 Z va ra rb rx se cs fmv em h0 n0 _ T574.heap _
                    rw [hE574]
                    exact ⟨rfl, N574⟩
                  · rw [hh]
                    show CHr Z EL1 s.vm h0 T574.vm T574.heap
                    rw [hE574]
                    exact CR411.trans CT
                · skip
                  obtain ⟨cq577, kq577, q577a, q577b, q577c⟩ := isOf hZ rfl f547
                  obtain ⟨_, _, ⟨T577, L577, k577, n577⟩, -, X577, ⟨Lc577, hQ577, l577, y577, z577⟩, st577⟩ := X540.virtualBack hx (y := (⟨"java/util/OptionalLong", "isPresent", "()Z"⟩ : MethodName)) (z := (⟨"java/util/OptionalLong", "isPresent", "()Z"⟩ : MethodName)) hown (mvT hZ (hw _ (List.mem_of_getElem? (i := 121) rfl))) (mvT hZ (hw _ (List.mem_of_getElem? (i := 122) rfl))) (notFace_of_selects (args := #[]) (mvT hZ (hw _ (List.mem_of_getElem? (i := 124) rfl)))) (mvT hZ (hw _ (List.mem_of_getElem? (i := 124) rfl))) (mvT hZ (hw _ (List.mem_of_getElem? (i := 123) rfl))) (by decide) (backOf (W := 0) (rm22 l Z a0 hw [] ol (own_res fcc nn).1 (own_res fcc nn).2 T540.heap n0 Z550 f547 f548 f549) hZ (hw _ (List.mem_of_getElem? (i := 125) rfl)) (hw _ (List.mem_of_getElem? (i := 105) rfl)) (by decide) (by decide)) q577a q577c (g := (mkF m 941 #[.val (.long va), .second, .val (.int ra), .val (.int rb), .val (.int rx), .val (.int se), .val (.int ln), .val (.int ub), .val (.int qq), .val (.int ca), .val (.int cb), .val (.int cx), .val (.long mm), .second, .val (.ref ac), .val (.ref ol), .val (.int vd), .val (.long ((md * (10 : Int64)) + (xd.toInt64))), .second, .val (.int xd), .val (.int ad), .val (.long md), .second, .val (.int ((ln - (2 : Int32)) - qq)), .val (.long ((mm / (own_p10 (nn - 2 - qq.toInt.toNat))) - ((mm / (own_p10 (nn - 2 - qq.toInt.toNat))) / (10 : Int64)) * (10 : Int64))), .second, .unset] [(.ref ol)])) rfl (by rw [hml]; rfl) (Steps.refl _) (argsL := []) (rest := []) (lenOf pd_8 rfl) rfl (by show 2 * 0 + _ ≤ _; exact Nat.le_of_eq rfl) (hb hby at_941) (fun _ _ => ⟨rfl, rfl, (by decide : 30 + 0 ≤ _), (by decide : 483 + 0 ≤ _)⟩)
                  dsimp only [Pt.U, Pt.locs, Pt.cells, Pt.slots] at X577 l577 y577 z577 st577 hQ577
                  subst l577 y577 z577
                  obtain ⟨rfl, N577q, hE577⟩ := hQ577
                  have N577 := Fr.app N540 N577q
                  obtain ⟨cq578, kq578, q578a, q578b, q578c⟩ := isOf hZ hE577 f547
                  obtain ⟨_, _, ⟨T578, L578, k578, n578⟩, -, X578, ⟨Lc578, hQ578, l578, y578, z578⟩, st578⟩ := X577.virtualBack hx (y := (⟨"java/util/OptionalLong", "getAsLong", "()J"⟩ : MethodName)) (z := (⟨"java/util/OptionalLong", "getAsLong", "()J"⟩ : MethodName)) hown (mvT hZ (hw _ (List.mem_of_getElem? (i := 126) rfl))) (mvT hZ (hw _ (List.mem_of_getElem? (i := 127) rfl))) (notFace_of_selects (args := #[]) (mvT hZ (hw _ (List.mem_of_getElem? (i := 129) rfl)))) (mvT hZ (hw _ (List.mem_of_getElem? (i := 129) rfl))) (mvT hZ (hw _ (List.mem_of_getElem? (i := 128) rfl))) (by decide) (backOf (W := 0) (rm23 l Z a0 hw [] ol (own_res fcc nn).1 (own_res fcc nn).2 T540.heap n0 Z550 f547 f548 f549 hip) hZ (hw _ (List.mem_of_getElem? (i := 130) rfl)) (hw _ (List.mem_of_getElem? (i := 105) rfl)) (by decide) (by decide)) q578a q578c (g := (mkF m 949 #[.val (.long va), .second, .val (.int ra), .val (.int rb), .val (.int rx), .val (.int se), .val (.int ln), .val (.int ub), .val (.int qq), .val (.int ca), .val (.int cb), .val (.int cx), .val (.long mm), .second, .val (.ref ac), .val (.ref ol), .val (.int vd), .val (.long ((md * (10 : Int64)) + (xd.toInt64))), .second, .val (.int xd), .val (.int ad), .val (.long md), .second, .val (.int ((ln - (2 : Int32)) - qq)), .val (.long ((mm / (own_p10 (nn - 2 - qq.toInt.toNat))) - ((mm / (own_p10 (nn - 2 - qq.toInt.toNat))) / (10 : Int64)) * (10 : Int64))), .second, .unset] [(.ref ol)])) rfl (by rw [hml]; rfl) (Steps.refl _) (argsL := []) (rest := []) (lenOf pd_19 rfl) rfl (by show 2 * 0 + _ ≤ _; exact Nat.le_of_eq rfl) (hb hby at_949) (fun _ _ => ⟨rfl, hE577, (by decide : 30 + 0 ≤ _), (by decide : 483 + 0 ≤ _)⟩)
                  dsimp only [Pt.U, Pt.locs, Pt.cells, Pt.slots] at X578 l578 y578 z578 st578 hQ578
                  subst l578 y578 z578
                  obtain ⟨rfl, N578q, hE578⟩ := hQ578
                  have N578 := Fr.app N577 N578q
                  have pre579 : ∀ t, Steps p.tables e below (T578.setTop (mkF m 963 #[.val (.long va), .second, .val (.int ra), .val (.int rb), .val (.int rx), .val (.int se), .val (.int ln), .val (.int ub), .val (.int qq), .val (.int ca), .val (.int cb), .val (.int cx), .val (.long mm), .second, .val (.ref ac), .val (.ref ol), .val (.int vd), .val (.long ((md * (10 : Int64)) + (xd.toInt64))), .second, .val (.int xd), .val (.int ad), .val (.long md), .second, .val (.int ((ln - (2 : Int32)) - qq)), .val (.long ((mm / (own_p10 (nn - 2 - qq.toInt.toNat))) - ((mm / (own_p10 (nn - 2 - qq.toInt.toNat))) / (10 : Int64)) * (10 : Int64))), .second, .unset] [(.int (1 : Int32))])) t → Steps p.tables e below (s₁.setTop (entryFrame m #[(.long va), (.int ra), (.int rb), (.int rx), (.int se)] maxLocals)) t := by
                    intro t kt
                    refine pre571 _ ?_
                    show Steps p.tables e below (T540.setTop (mkF m 918 #[.val (.long va), .second, .val (.int ra), .val (.int rb), .val (.int rx), .val (.int se), .val (.int ln), .val (.int ub), .val (.int qq), .val (.int ca), .val (.int cb), .val (.int cx), .val (.long mm), .second, .val (.ref ac), .val (.ref ol), .val (.int vd), .unset, .unset, .val (.int xd), .val (.int ad), .val (.long md), .second, .val (.int ((ln - (2 : Int32)) - qq)), .val (.long ((mm / (own_p10 (nn - 2 - qq.toInt.toNat))) - ((mm / (own_p10 (nn - 2 - qq.toInt.toNat))) / (10 : Int64)) * (10 : Int64))), .second, .unset] [(.int (7 : Int32)), (.int xd)])) _
                    refine XS.icmpYes X540.here hx rfl (pc0 := 918) (pc' := 927) rfl (hb hby at_918) rfl (XT.ii_le_t hc918_572) (by decide) (by decide) ?_
                    refine XS.lload X540.here hx rfl (hb hby at_927) rfl ?_
                    refine Stand.ldc2J (g := (mkF m 929 #[.val (.long va), .second, .val (.int ra), .val (.int rb), .val (.int rx), .val (.int se), .val (.int ln), .val (.int ub), .val (.int qq), .val (.int ca), .val (.int cb), .val (.int cx), .val (.long mm), .second, .val (.ref ac), .val (.ref ol), .val (.int vd), .unset, .unset, .val (.int xd), .val (.int ad), .val (.long md), .second, .val (.int ((ln - (2 : Int32)) - qq)), .val (.long ((mm / (own_p10 (nn - 2 - qq.toInt.toNat))) - ((mm / (own_p10 (nn - 2 - qq.toInt.toNat))) / (10 : Int64)) * (10 : Int64))), .second, .unset] [(.long md)])) X540 hx hown (mvT hZ (hw _ (List.mem_of_getElem? (i := 9) rfl))) rfl (hb hby at_929) ?_
                    refine XS.lmul X540.here hx rfl (hb hby at_932) rfl ?_
                    show Steps p.tables e below (T540.setTop (mkF m 933 #[.val (.long va), .second, .val (.int ra), .val (.int rb), .val (.int rx), .val (.int se), .val (.int ln), .val (.int ub), .val (.int qq), .val (.int ca), .val (.int cb), .val (.int cx), .val (.long mm), .second, .val (.ref ac), .val (.ref ol), .val (.int vd), .unset, .unset, .val (.int xd), .val (.int ad), .val (.long md), .second, .val (.int ((ln - (2 : Int32)) - qq)), .val (.long ((mm / (own_p10 (nn - 2 - qq.toInt.toNat))) - ((mm / (own_p10 (nn - 2 - qq.toInt.toNat))) / (10 : Int64)) * (10 : Int64))), .second, .unset] [(.long (md * (10 : Int64)))])) _
                    refine XS.iload X540.here hx rfl (hb hby at_933) rfl ?_
                    refine XS.i2l X540.here hx rfl (hb hby at_935) rfl ?_
                    refine XS.ladd X540.here hx rfl (hb hby at_936) rfl ?_
                    refine XS.lstore X540.here hx rfl (hb hby at_937) rfl (l' := #[.val (.long va), .second, .val (.int ra), .val (.int rb), .val (.int rx), .val (.int se), .val (.int ln), .val (.int ub), .val (.int qq), .val (.int ca), .val (.int cb), .val (.int cx), .val (.long mm), .second, .val (.ref ac), .val (.ref ol), .val (.int vd), .val (.long ((md * (10 : Int64)) + (xd.toInt64))), .second, .val (.int xd), .val (.int ad), .val (.long md), .second, .val (.int ((ln - (2 : Int32)) - qq)), .val (.long ((mm / (own_p10 (nn - 2 - qq.toInt.toNat))) - ((mm / (own_p10 (nn - 2 - qq.toInt.toNat))) / (10 : Int64)) * (10 : Int64))), .second, .unset]) rfl ?_
                    show Steps p.tables e below (T540.setTop (mkF m 939 #[.val (.long va), .second, .val (.int ra), .val (.int rb), .val (.int rx), .val (.int se), .val (.int ln), .val (.int ub), .val (.int qq), .val (.int ca), .val (.int cb), .val (.int cx), .val (.long mm), .second, .val (.ref ac), .val (.ref ol), .val (.int vd), .val (.long ((md * (10 : Int64)) + (xd.toInt64))), .second, .val (.int xd), .val (.int ad), .val (.long md), .second, .val (.int ((ln - (2 : Int32)) - qq)), .val (.long ((mm / (own_p10 (nn - 2 - qq.toInt.toNat))) - ((mm / (own_p10 (nn - 2 - qq.toInt.toNat))) / (10 : Int64)) * (10 : Int64))), .second, .unset] [])) _
                    refine XS.aload X540.here hx rfl (hb hby at_939) rfl rfl ?_
                    show Steps p.tables e below (T540.setTop (mkF m 941 #[.val (.long va), .second, .val (.int ra), .val (.int rb), .val (.int rx), .val (.int se), .val (.int ln), .val (.int ub), .val (.int qq), .val (.int ca), .val (.int cb), .val (.int cx), .val (.long mm), .second, .val (.ref ac), .val (.ref ol), .val (.int vd), .val (.long ((md * (10 : Int64)) + (xd.toInt64))), .second, .val (.int xd), .val (.int ad), .val (.long md), .second, .val (.int ((ln - (2 : Int32)) - qq)), .val (.long ((mm / (own_p10 (nn - 2 - qq.toInt.toNat))) - ((mm / (own_p10 (nn - 2 - qq.toInt.toNat))) / (10 : Int64)) * (10 : Int64))), .second, .unset] [(.ref ol)])) _
                    refine st577.trans ?_
                    show Steps p.tables e below (T577.setTop (mkF m 944 #[.val (.long va), .second, .val (.int ra), .val (.int rb), .val (.int rx), .val (.int se), .val (.int ln), .val (.int ub), .val (.int qq), .val (.int ca), .val (.int cb), .val (.int cx), .val (.long mm), .second, .val (.ref ac), .val (.ref ol), .val (.int vd), .val (.long ((md * (10 : Int64)) + (xd.toInt64))), .second, .val (.int xd), .val (.int ad), .val (.long md), .second, .val (.int ((ln - (2 : Int32)) - qq)), .val (.long ((mm / (own_p10 (nn - 2 - qq.toInt.toNat))) - ((mm / (own_p10 (nn - 2 - qq.toInt.toNat))) / (10 : Int64)) * (10 : Int64))), .second, .unset] [(.int (nar .boolean (own_res fcc nn).1))])) _
                    refine XS.ifNo X577.here hx rfl (hb hby at_944) rfl (XT.i0_eq_f (own_nb1 hres)) ?_
                    refine XS.aload X577.here hx rfl (hb hby at_947) rfl rfl ?_
                    show Steps p.tables e below (T577.setTop (mkF m 949 #[.val (.long va), .second, .val (.int ra), .val (.int rb), .val (.int rx), .val (.int se), .val (.int ln), .val (.int ub), .val (.int qq), .val (.int ca), .val (.int cb), .val (.int cx), .val (.long mm), .second, .val (.ref ac), .val (.ref ol), .val (.int vd), .val (.long ((md * (10 : Int64)) + (xd.toInt64))), .second, .val (.int xd), .val (.int ad), .val (.long md), .second, .val (.int ((ln - (2 : Int32)) - qq)), .val (.long ((mm / (own_p10 (nn - 2 - qq.toInt.toNat))) - ((mm / (own_p10 (nn - 2 - qq.toInt.toNat))) / (10 : Int64)) * (10 : Int64))), .second, .unset] [(.ref ol)])) _
                    refine st578.trans ?_
                    refine XS.lload X578.here hx rfl (hb hby at_952) rfl ?_
                    refine XT.lcmp X578.here hx rfl (hb hby at_954) rfl ?_
                    show Steps p.tables e below (T578.setTop (mkF m 955 #[.val (.long va), .second, .val (.int ra), .val (.int rb), .val (.int rx), .val (.int se), .val (.int ln), .val (.int ub), .val (.int qq), .val (.int ca), .val (.int cb), .val (.int cx), .val (.long mm), .second, .val (.ref ac), .val (.ref ol), .val (.int vd), .val (.long ((md * (10 : Int64)) + (xd.toInt64))), .second, .val (.int xd), .val (.int ad), .val (.long md), .second, .val (.int ((ln - (2 : Int32)) - qq)), .val (.long ((mm / (own_p10 (nn - 2 - qq.toInt.toNat))) - ((mm / (own_p10 (nn - 2 - qq.toInt.toNat))) / (10 : Int64)) * (10 : Int64))), .second, .unset] [(.int (XT.cmpL (own_res fcc nn).2 ((md * (10 : Int64)) + (xd.toInt64))))])) _
                    refine XS.ifNo X578.here hx rfl (hb hby at_955) rfl (XT.ll_ne_f ((own_20 hG hln hc761_461 (own_mid1 hG hc785_469 h_md) h_xd h_ad hc835_556).2 hc893_558 hc902_564 (Or.inr hc918_572))) ?_
                    refine XS.iconst X578.here hx rfl (hb hby at_958) ?_
                    refine XS.goto X578.here hx rfl (pc0 := 959) (pc' := 963) rfl (hb hby at_959) (by decide) (by decide) ?_
                    exact kt
                  have CK580 := CHr.keep (Z := Z) (EL := EL1) K552 sf0 CC400.1
                  obtain ⟨fs, hr, hrun, hended, hEnd⟩ := X578.leaveW hS (by rw [hE578]; exact Nat.le_trans hk K552.1) (v := some (.int (1 : Int32))) (fun h => by rw [Bd.returns] at h; cases h)
                  have CT := CK580.trans (CHv.at (s := s) (vm0 := T400.vm) X578 hZ hEL CK580.1)
                  refine ⟨_, _, pre579 _ ?_, hrun, hended, _, _, rfl, ?_, ?_, hEnd.1, hEnd.2.1, hEnd.2.2.1, hEnd.2.2.2.mono (by decide) (by decide)⟩
                  · show Steps p.tables e below (T578.setTop (mkF m 963 #[.val (.long va), .second, .val (.int ra), .val (.int rb), .val (.int rx), .val (.int se), .val (.int ln), .val (.int ub), .val (.int qq), .val (.int ca), .val (.int cb), .val (.int cx), .val (.long mm), .second, .val (.ref ac), .val (.ref ol), .val (.int vd), .val (.long ((md * (10 : Int64)) + (xd.toInt64))), .second, .val (.int xd), .val (.int ad), .val (.long md), .second, .val (.int ((ln - (2 : Int32)) - qq)), .val (.long ((mm / (own_p10 (nn - 2 - qq.toInt.toNat))) - ((mm / (own_p10 (nn - 2 - qq.toInt.toNat))) / (10 : Int64)) * (10 : Int64))), .second, .unset] [(.int (1 : Int32))])) _
                    exact retN X578 hx (t := .boolean) Bd.returns (by simp) (hb hby at_963) hr
                  · show Q0 Z va ra rb rx se cs fmv em h0 n0 _ T578.heap _
                    rw [hE578]
                    exact ⟨rfl, N578⟩
                  · rw [hh]
                    show CHr Z EL1 s.vm h0 T578.vm T578.heap
                    rw [hE578]
                    exact CR411.trans CT
              · skip
                obtain ⟨cq581, kq581, q581a, q581b, q581c⟩ := isOf hZ rfl f547
                obtain ⟨_, _, ⟨T581, L581, k581, n581⟩, -, X581, ⟨Lc581, hQ581, l581, y581, z581⟩, st581⟩ := X540.virtualBack hx (y := (⟨"java/util/OptionalLong", "isPresent", "()Z"⟩ : MethodName)) (z := (⟨"java/util/OptionalLong", "isPresent", "()Z"⟩ : MethodName)) hown (mvT hZ (hw _ (List.mem_of_getElem? (i := 121) rfl))) (mvT hZ (hw _ (List.mem_of_getElem? (i := 122) rfl))) (notFace_of_selects (args := #[]) (mvT hZ (hw _ (List.mem_of_getElem? (i := 124) rfl)))) (mvT hZ (hw _ (List.mem_of_getElem? (i := 124) rfl))) (mvT hZ (hw _ (List.mem_of_getElem? (i := 123) rfl))) (by decide) (backOf (W := 0) (rm22 l Z a0 hw [] ol (own_res fcc nn).1 (own_res fcc nn).2 T540.heap n0 Z550 f547 f548 f549) hZ (hw _ (List.mem_of_getElem? (i := 125) rfl)) (hw _ (List.mem_of_getElem? (i := 105) rfl)) (by decide) (by decide)) q581a q581c (g := (mkF m 941 #[.val (.long va), .second, .val (.int ra), .val (.int rb), .val (.int rx), .val (.int se), .val (.int ln), .val (.int ub), .val (.int qq), .val (.int ca), .val (.int cb), .val (.int cx), .val (.long mm), .second, .val (.ref ac), .val (.ref ol), .val (.int vd), .val (.long ((md * (10 : Int64)) + (xd.toInt64))), .second, .val (.int xd), .val (.int ad), .val (.long md), .second, .val (.int ((ln - (2 : Int32)) - qq)), .val (.long ((mm / (own_p10 (nn - 2 - qq.toInt.toNat))) - ((mm / (own_p10 (nn - 2 - qq.toInt.toNat))) / (10 : Int64)) * (10 : Int64))), .second, .unset] [(.ref ol)])) rfl (by rw [hml]; rfl) (Steps.refl _) (argsL := []) (rest := []) (lenOf pd_8 rfl) rfl (by show 2 * 0 + _ ≤ _; exact Nat.le_of_eq rfl) (hb hby at_941) (fun _ _ => ⟨rfl, rfl, (by decide : 30 + 0 ≤ _), (by decide : 483 + 0 ≤ _)⟩)
                dsimp only [Pt.U, Pt.locs, Pt.cells, Pt.slots] at X581 l581 y581 z581 st581 hQ581
                subst l581 y581 z581
                obtain ⟨rfl, N581q, hE581⟩ := hQ581
                have N581 := Fr.app N540 N581q
                obtain ⟨cq582, kq582, q582a, q582b, q582c⟩ := isOf hZ hE581 f547
                obtain ⟨_, _, ⟨T582, L582, k582, n582⟩, -, X582, ⟨Lc582, hQ582, l582, y582, z582⟩, st582⟩ := X581.virtualBack hx (y := (⟨"java/util/OptionalLong", "getAsLong", "()J"⟩ : MethodName)) (z := (⟨"java/util/OptionalLong", "getAsLong", "()J"⟩ : MethodName)) hown (mvT hZ (hw _ (List.mem_of_getElem? (i := 126) rfl))) (mvT hZ (hw _ (List.mem_of_getElem? (i := 127) rfl))) (notFace_of_selects (args := #[]) (mvT hZ (hw _ (List.mem_of_getElem? (i := 129) rfl)))) (mvT hZ (hw _ (List.mem_of_getElem? (i := 129) rfl))) (mvT hZ (hw _ (List.mem_of_getElem? (i := 128) rfl))) (by decide) (backOf (W := 0) (rm23 l Z a0 hw [] ol (own_res fcc nn).1 (own_res fcc nn).2 T540.heap n0 Z550 f547 f548 f549 hip) hZ (hw _ (List.mem_of_getElem? (i := 130) rfl)) (hw _ (List.mem_of_getElem? (i := 105) rfl)) (by decide) (by decide)) q582a q582c (g := (mkF m 949 #[.val (.long va), .second, .val (.int ra), .val (.int rb), .val (.int rx), .val (.int se), .val (.int ln), .val (.int ub), .val (.int qq), .val (.int ca), .val (.int cb), .val (.int cx), .val (.long mm), .second, .val (.ref ac), .val (.ref ol), .val (.int vd), .val (.long ((md * (10 : Int64)) + (xd.toInt64))), .second, .val (.int xd), .val (.int ad), .val (.long md), .second, .val (.int ((ln - (2 : Int32)) - qq)), .val (.long ((mm / (own_p10 (nn - 2 - qq.toInt.toNat))) - ((mm / (own_p10 (nn - 2 - qq.toInt.toNat))) / (10 : Int64)) * (10 : Int64))), .second, .unset] [(.ref ol)])) rfl (by rw [hml]; rfl) (Steps.refl _) (argsL := []) (rest := []) (lenOf pd_19 rfl) rfl (by show 2 * 0 + _ ≤ _; exact Nat.le_of_eq rfl) (hb hby at_949) (fun _ _ => ⟨rfl, hE581, (by decide : 30 + 0 ≤ _), (by decide : 483 + 0 ≤ _)⟩)
                dsimp only [Pt.U, Pt.locs, Pt.cells, Pt.slots] at X582 l582 y582 z582 st582 hQ582
                subst l582 y582 z582
                obtain ⟨rfl, N582q, hE582⟩ := hQ582
                have N582 := Fr.app N581 N582q
                have pre583 : ∀ t, Steps p.tables e below (T582.setTop (mkF m 963 #[.val (.long va), .second, .val (.int ra), .val (.int rb), .val (.int rx), .val (.int se), .val (.int ln), .val (.int ub), .val (.int qq), .val (.int ca), .val (.int cb), .val (.int cx), .val (.long mm), .second, .val (.ref ac), .val (.ref ol), .val (.int vd), .val (.long ((md * (10 : Int64)) + (xd.toInt64))), .second, .val (.int xd), .val (.int ad), .val (.long md), .second, .val (.int ((ln - (2 : Int32)) - qq)), .val (.long ((mm / (own_p10 (nn - 2 - qq.toInt.toNat))) - ((mm / (own_p10 (nn - 2 - qq.toInt.toNat))) / (10 : Int64)) * (10 : Int64))), .second, .unset] [(.int (1 : Int32))])) t → Steps p.tables e below (s₁.setTop (entryFrame m #[(.long va), (.int ra), (.int rb), (.int rx), (.int se)] maxLocals)) t := by
                  intro t kt
                  refine pre569 _ ?_
                  show Steps p.tables e below (T540.setTop (mkF m 911 #[.val (.long va), .second, .val (.int ra), .val (.int rb), .val (.int rx), .val (.int se), .val (.int ln), .val (.int ub), .val (.int qq), .val (.int ca), .val (.int cb), .val (.int cx), .val (.long mm), .second, .val (.ref ac), .val (.ref ol), .val (.int vd), .unset, .unset, .val (.int xd), .val (.int ad), .val (.long md), .second, .val (.int ((ln - (2 : Int32)) - qq)), .val (.long ((mm / (own_p10 (nn - 2 - qq.toInt.toNat))) - ((mm / (own_p10 (nn - 2 - qq.toInt.toNat))) / (10 : Int64)) * (10 : Int64))), .second, .unset] [(.int (XT.cmpL md (922337203685477580 : Int64)))])) _
                  refine XS.ifYes X540.here hx rfl (pc0 := 911) (pc' := 927) rfl (hb hby at_911) rfl (XT.ll_ne_t hc911_570) (by decide) (by decide) ?_
                  refine XS.lload X540.here hx rfl (hb hby at_927) rfl ?_
                  refine Stand.ldc2J (g := (mkF m 929 #[.val (.long va), .second, .val (.int ra), .val (.int rb), .val (.int rx), .val (.int se), .val (.int ln), .val (.int ub), .val (.int qq), .val (.int ca), .val (.int cb), .val (.int cx), .val (.long mm), .second, .val (.ref ac), .val (.ref ol), .val (.int vd), .unset, .unset, .val (.int xd), .val (.int ad), .val (.long md), .second, .val (.int ((ln - (2 : Int32)) - qq)), .val (.long ((mm / (own_p10 (nn - 2 - qq.toInt.toNat))) - ((mm / (own_p10 (nn - 2 - qq.toInt.toNat))) / (10 : Int64)) * (10 : Int64))), .second, .unset] [(.long md)])) X540 hx hown (mvT hZ (hw _ (List.mem_of_getElem? (i := 9) rfl))) rfl (hb hby at_929) ?_
                  refine XS.lmul X540.here hx rfl (hb hby at_932) rfl ?_
                  show Steps p.tables e below (T540.setTop (mkF m 933 #[.val (.long va), .second, .val (.int ra), .val (.int rb), .val (.int rx), .val (.int se), .val (.int ln), .val (.int ub), .val (.int qq), .val (.int ca), .val (.int cb), .val (.int cx), .val (.long mm), .second, .val (.ref ac), .val (.ref ol), .val (.int vd), .unset, .unset, .val (.int xd), .val (.int ad), .val (.long md), .second, .val (.int ((ln - (2 : Int32)) - qq)), .val (.long ((mm / (own_p10 (nn - 2 - qq.toInt.toNat))) - ((mm / (own_p10 (nn - 2 - qq.toInt.toNat))) / (10 : Int64)) * (10 : Int64))), .second, .unset] [(.long (md * (10 : Int64)))])) _
                  refine XS.iload X540.here hx rfl (hb hby at_933) rfl ?_
                  refine XS.i2l X540.here hx rfl (hb hby at_935) rfl ?_
                  refine XS.ladd X540.here hx rfl (hb hby at_936) rfl ?_
                  refine XS.lstore X540.here hx rfl (hb hby at_937) rfl (l' := #[.val (.long va), .second, .val (.int ra), .val (.int rb), .val (.int rx), .val (.int se), .val (.int ln), .val (.int ub), .val (.int qq), .val (.int ca), .val (.int cb), .val (.int cx), .val (.long mm), .second, .val (.ref ac), .val (.ref ol), .val (.int vd), .val (.long ((md * (10 : Int64)) + (xd.toInt64))), .second, .val (.int xd), .val (.int ad), .val (.long md), .second, .val (.int ((ln - (2 : Int32)) - qq)), .val (.long ((mm / (own_p10 (nn - 2 - qq.toInt.toNat))) - ((mm / (own_p10 (nn - 2 - qq.toInt.toNat))) / (10 : Int64)) * (10 : Int64))), .second, .unset]) rfl ?_
                  show Steps p.tables e below (T540.setTop (mkF m 939 #[.val (.long va), .second, .val (.int ra), .val (.int rb), .val (.int rx), .val (.int se), .val (.int ln), .val (.int ub), .val (.int qq), .val (.int ca), .val (.int cb), .val (.int cx), .val (.long mm), .second, .val (.ref ac), .val (.ref ol), .val (.int vd), .val (.long ((md * (10 : Int64)) + (xd.toInt64))), .second, .val (.int xd), .val (.int ad), .val (.long md), .second, .val (.int ((ln - (2 : Int32)) - qq)), .val (.long ((mm / (own_p10 (nn - 2 - qq.toInt.toNat))) - ((mm / (own_p10 (nn - 2 - qq.toInt.toNat))) / (10 : Int64)) * (10 : Int64))), .second, .unset] [])) _
                  refine XS.aload X540.here hx rfl (hb hby at_939) rfl rfl ?_
                  show Steps p.tables e below (T540.setTop (mkF m 941 #[.val (.long va), .second, .val (.int ra), .val (.int rb), .val (.int rx), .val (.int se), .val (.int ln), .val (.int ub), .val (.int qq), .val (.int ca), .val (.int cb), .val (.int cx), .val (.long mm), .second, .val (.ref ac), .val (.ref ol), .val (.int vd), .val (.long ((md * (10 : Int64)) + (xd.toInt64))), .second, .val (.int xd), .val (.int ad), .val (.long md), .second, .val (.int ((ln - (2 : Int32)) - qq)), .val (.long ((mm / (own_p10 (nn - 2 - qq.toInt.toNat))) - ((mm / (own_p10 (nn - 2 - qq.toInt.toNat))) / (10 : Int64)) * (10 : Int64))), .second, .unset] [(.ref ol)])) _
                  refine st581.trans ?_
                  show Steps p.tables e below (T581.setTop (mkF m 944 #[.val (.long va), .second, .val (.int ra), .val (.int rb), .val (.int rx), .val (.int se), .val (.int ln), .val (.int ub), .val (.int qq), .val (.int ca), .val (.int cb), .val (.int cx), .val (.long mm), .second, .val (.ref ac), .val (.ref ol), .val (.int vd), .val (.long ((md * (10 : Int64)) + (xd.toInt64))), .second, .val (.int xd), .val (.int ad), .val (.long md), .second, .val (.int ((ln - (2 : Int32)) - qq)), .val (.long ((mm / (own_p10 (nn - 2 - qq.toInt.toNat))) - ((mm / (own_p10 (nn - 2 - qq.toInt.toNat))) / (10 : Int64)) * (10 : Int64))), .second, .unset] [(.int (nar .boolean (own_res fcc nn).1))])) _
                  refine XS.ifNo X581.here hx rfl (hb hby at_944) rfl (XT.i0_eq_f (own_nb1 hres)) ?_
                  refine XS.aload X581.here hx rfl (hb hby at_947) rfl rfl ?_
                  show Steps p.tables e below (T581.setTop (mkF m 949 #[.val (.long va), .second, .val (.int ra), .val (.int rb), .val (.int rx), .val (.int se), .val (.int ln), .val (.int ub), .val (.int qq), .val (.int ca), .val (.int cb), .val (.int cx), .val (.long mm), .second, .val (.ref ac), .val (.ref ol), .val (.int vd), .val (.long ((md * (10 : Int64)) + (xd.toInt64))), .second, .val (.int xd), .val (.int ad), .val (.long md), .second, .val (.int ((ln - (2 : Int32)) - qq)), .val (.long ((mm / (own_p10 (nn - 2 - qq.toInt.toNat))) - ((mm / (own_p10 (nn - 2 - qq.toInt.toNat))) / (10 : Int64)) * (10 : Int64))), .second, .unset] [(.ref ol)])) _
                  refine st582.trans ?_
                  refine XS.lload X582.here hx rfl (hb hby at_952) rfl ?_
                  refine XT.lcmp X582.here hx rfl (hb hby at_954) rfl ?_
                  show Steps p.tables e below (T582.setTop (mkF m 955 #[.val (.long va), .second, .val (.int ra), .val (.int rb), .val (.int rx), .val (.int se), .val (.int ln), .val (.int ub), .val (.int qq), .val (.int ca), .val (.int cb), .val (.int cx), .val (.long mm), .second, .val (.ref ac), .val (.ref ol), .val (.int vd), .val (.long ((md * (10 : Int64)) + (xd.toInt64))), .second, .val (.int xd), .val (.int ad), .val (.long md), .second, .val (.int ((ln - (2 : Int32)) - qq)), .val (.long ((mm / (own_p10 (nn - 2 - qq.toInt.toNat))) - ((mm / (own_p10 (nn - 2 - qq.toInt.toNat))) / (10 : Int64)) * (10 : Int64))), .second, .unset] [(.int (XT.cmpL (own_res fcc nn).2 ((md * (10 : Int64)) + (xd.toInt64))))])) _
                  refine XS.ifNo X582.here hx rfl (hb hby at_955) rfl (XT.ll_ne_f ((own_20 hG hln hc761_461 (own_mid1 hG hc785_469 h_md) h_xd h_ad hc835_556).2 hc893_558 hc902_564 (Or.inl hc911_570))) ?_
                  refine XS.iconst X582.here hx rfl (hb hby at_958) ?_
                  refine XS.goto X582.here hx rfl (pc0 := 959) (pc' := 963) rfl (hb hby at_959) (by decide) (by decide) ?_
                  exact kt
                have CK584 := CHr.keep (Z := Z) (EL := EL1) K552 sf0 CC400.1
                obtain ⟨fs, hr, hrun, hended, hEnd⟩ := X582.leaveW hS (by rw [hE582]; exact Nat.le_trans hk K552.1) (v := some (.int (1 : Int32))) (fun h => by rw [Bd.returns] at h; cases h)
                have CT := CK584.trans (CHv.at (s := s) (vm0 := T400.vm) X582 hZ hEL CK584.1)
                refine ⟨_, _, pre583 _ ?_, hrun, hended, _, _, rfl, ?_, ?_, hEnd.1, hEnd.2.1, hEnd.2.2.1, hEnd.2.2.2.mono (by decide) (by decide)⟩
                · show Steps p.tables e below (T582.setTop (mkF m 963 #[.val (.long va), .second, .val (.int ra), .val (.int rb), .val (.int rx), .val (.int se), .val (.int ln), .val (.int ub), .val (.int qq), .val (.int ca), .val (.int cb), .val (.int cx), .val (.long mm), .second, .val (.ref ac), .val (.ref ol), .val (.int vd), .val (.long ((md * (10 : Int64)) + (xd.toInt64))), .second, .val (.int xd), .val (.int ad), .val (.long md), .second, .val (.int ((ln - (2 : Int32)) - qq)), .val (.long ((mm / (own_p10 (nn - 2 - qq.toInt.toNat))) - ((mm / (own_p10 (nn - 2 - qq.toInt.toNat))) / (10 : Int64)) * (10 : Int64))), .second, .unset] [(.int (1 : Int32))])) _
                  exact retN X582 hx (t := .boolean) Bd.returns (by simp) (hb hby at_963) hr
                · show Q0 Z va ra rb rx se cs fmv em h0 n0 _ T582.heap _
                  rw [hE582]
                  exact ⟨rfl, N582⟩
                · rw [hh]
                  show CHr Z EL1 s.vm h0 T582.vm T582.heap
                  rw [hE582]
                  exact CR411.trans CT
        · skip
          obtain ⟨_, _, ⟨T585, L585, k585, n585⟩, -, X585, ⟨Lc585, hQ585, l585, y585, z585⟩, st585⟩ := Jvm.LawKit.callS X540 hx (y := (⟨"com/example/relent/relent/WholeNumbersUnsignedPinLaw", "pow10", "(I)J"⟩ : MethodName)) hown (mvT hZ (hw _ (List.mem_of_getElem? (i := 5) rfl))) (mvT hZ (hw _ (List.mem_of_getElem? (i := 6) rfl))) (mvT hZ (hw _ (List.mem_of_getElem? (i := 2) rfl))) (mvT hZ (hw _ (List.mem_of_getElem? (i := 7) rfl))) (by decide) (backOf (W := 2) (rm2 l Z a0 hw [] (ln - (1 : Int32)) (nn - 1) T540.heap n0 Z550 (own_q1 hG hln hc835_556).1 (own_q1 hG hln hc835_556).2) hZ (hw _ (List.mem_of_getElem? (i := 7) rfl)) (hw _ (List.mem_of_getElem? (i := 2) rfl)) (by decide) (by decide)) (g := (mkF m 845 #[.val (.long va), .second, .val (.int ra), .val (.int rb), .val (.int rx), .val (.int se), .val (.int ln), .val (.int ub), .val (.int qq), .val (.int ca), .val (.int cb), .val (.int cx), .val (.long mm), .second, .val (.ref ac), .val (.ref ol), .val (.int vd), .unset, .unset, .val (.int xd), .val (.int ad), .val (.long md), .second, .val (.int ((ln - (2 : Int32)) - qq)), .val (.long ((mm / (own_p10 (nn - 2 - qq.toInt.toNat))) - ((mm / (own_p10 (nn - 2 - qq.toInt.toNat))) / (10 : Int64)) * (10 : Int64))), .second, .unset] [(.int (ln - (1 : Int32))), (.long (ad.toInt64))])) rfl (by rw [hml]; rfl) (argsL := [(.int (ln - (1 : Int32)))]) (rest := [(.long (ad.toInt64))]) (lenOf pd_0 rfl) rfl (by show 2 * 0 + _ ≤ _; exact Nat.le_of_eq rfl) (hb hby at_845) (fun _ _ => ⟨rfl, rfl, (by decide : 30 + 1 ≤ _), (by decide : 483 + 19 ≤ _)⟩)
          dsimp only [Pt.U, Pt.locs, Pt.cells, Pt.slots] at X585 l585 y585 z585 st585 hQ585
          subst l585 y585 z585
          obtain ⟨rfl, N585q, K585⟩ := hQ585
          have N585 := Fr.app N540 N585q
          have f586 := f541.keep K585 all0
          have f587 := f542.keep K585 nin0
          have f588 := f543.keep K585
          have f589 := f544.keep K585 nin0
          have f590 := f545.keep K585 nin0
          have f591 := f546.keep K585 nin0
          have f592 := f547.keep K585
          have f593 := f548.keep K585 nin0
          have f594 := f549.keep K585 nin0
          have Z595 := Nat.le_trans Z550 K585.1
          have K596 := K551.trans K585 all0
          have K597 := K552.trans K585 all0
          have pre598 : ∀ t, Steps p.tables e below (T585.setTop (mkF m 849 #[.val (.long va), .second, .val (.int ra), .val (.int rb), .val (.int rx), .val (.int se), .val (.int ln), .val (.int ub), .val (.int qq), .val (.int ca), .val (.int cb), .val (.int cx), .val (.long mm), .second, .val (.ref ac), .val (.ref ol), .val (.int vd), .unset, .unset, .val (.int xd), .val (.int ad), .val (.long md), .second, .val (.int ((ln - (2 : Int32)) - qq)), .val (.long ((mm / (own_p10 (nn - 2 - qq.toInt.toNat))) - ((mm / (own_p10 (nn - 2 - qq.toInt.toNat))) / (10 : Int64)) * (10 : Int64))), .second, .unset] [(.long ((ad.toInt64) * (own_p10 (nn - 1))))])) t → Steps p.tables e below (s₁.setTop (entryFrame m #[(.long va), (.int ra), (.int rb), (.int rx), (.int se)] maxLocals)) t := by
            intro t kt
            refine pre555 _ ?_
            show Steps p.tables e below (T540.setTop (mkF m 835 #[.val (.long va), .second, .val (.int ra), .val (.int rb), .val (.int rx), .val (.int se), .val (.int ln), .val (.int ub), .val (.int qq), .val (.int ca), .val (.int cb), .val (.int cx), .val (.long mm), .second, .val (.ref ac), .val (.ref ol), .val (.int vd), .unset, .unset, .val (.int xd), .val (.int ad), .val (.long md), .second, .val (.int ((ln - (2 : Int32)) - qq)), .val (.long ((mm / (own_p10 (nn - 2 - qq.toInt.toNat))) - ((mm / (own_p10 (nn - 2 - qq.toInt.toNat))) / (10 : Int64)) * (10 : Int64))), .second, .unset] [(.int (19 : Int32)), (.int ln)])) _
            refine XS.icmpNo X540.here hx rfl (hb hby at_835) rfl (XT.ii_gt_f hc835_556) ?_
            refine XS.iload X540.here hx rfl (hb hby at_838) rfl ?_
            refine XS.i2l X540.here hx rfl (hb hby at_840) rfl ?_
            refine XS.iload X540.here hx rfl (hb hby at_841) rfl ?_
            show Steps p.tables e below (T540.setTop (mkF m 843 #[.val (.long va), .second, .val (.int ra), .val (.int rb), .val (.int rx), .val (.int se), .val (.int ln), .val (.int ub), .val (.int qq), .val (.int ca), .val (.int cb), .val (.int cx), .val (.long mm), .second, .val (.ref ac), .val (.ref ol), .val (.int vd), .unset, .unset, .val (.int xd), .val (.int ad), .val (.long md), .second, .val (.int ((ln - (2 : Int32)) - qq)), .val (.long ((mm / (own_p10 (nn - 2 - qq.toInt.toNat))) - ((mm / (own_p10 (nn - 2 - qq.toInt.toNat))) / (10 : Int64)) * (10 : Int64))), .second, .unset] [(.int ln), (.long (ad.toInt64))])) _
            refine XS.iconst X540.here hx rfl (hb hby at_843) ?_
            refine XS.isub X540.here hx rfl (hb hby at_844) rfl ?_
            show Steps p.tables e below (T540.setTop (mkF m 845 #[.val (.long va), .second, .val (.int ra), .val (.int rb), .val (.int rx), .val (.int se), .val (.int ln), .val (.int ub), .val (.int qq), .val (.int ca), .val (.int cb), .val (.int cx), .val (.long mm), .second, .val (.ref ac), .val (.ref ol), .val (.int vd), .unset, .unset, .val (.int xd), .val (.int ad), .val (.long md), .second, .val (.int ((ln - (2 : Int32)) - qq)), .val (.long ((mm / (own_p10 (nn - 2 - qq.toInt.toNat))) - ((mm / (own_p10 (nn - 2 - qq.toInt.toNat))) / (10 : Int64)) * (10 : Int64))), .second, .unset] [(.int (ln - (1 : Int32))), (.long (ad.toInt64))])) _
            refine st585 _ ?_
            refine XS.lmul X585.here hx rfl (hb hby at_848) rfl ?_
            exact kt
          obtain ⟨wh, h_wh⟩ : ∃ z : Int64, z = ((ad.toInt64) * (own_p10 (nn - 1))) := ⟨_, rfl⟩
          have pre599 : ∀ t, Steps p.tables e below (T585.setTop (mkF m 849 #[.val (.long va), .second, .val (.int ra), .val (.int rb), .val (.int rx), .val (.int se), .val (.int ln), .val (.int ub), .val (.int qq), .val (.int ca), .val (.int cb), .val (.int cx), .val (.long mm), .second, .val (.ref ac), .val (.ref ol), .val (.int vd), .unset, .unset, .val (.int xd), .val (.int ad), .val (.long md), .second, .val (.int ((ln - (2 : Int32)) - qq)), .val (.long ((mm / (own_p10 (nn - 2 - qq.toInt.toNat))) - ((mm / (own_p10 (nn - 2 - qq.toInt.toNat))) / (10 : Int64)) * (10 : Int64))), .second, .unset] [(.long wh)])) t → Steps p.tables e below (s₁.setTop (entryFrame m #[(.long va), (.int ra), (.int rb), (.int rx), (.int se)] maxLocals)) t := by
            intro t kt
            rw [h_wh] at kt
            exact pre598 _ kt
          have pre600 : ∀ t, Steps p.tables e below (T585.setTop (mkF m 861 #[.val (.long va), .second, .val (.int ra), .val (.int rb), .val (.int rx), .val (.int se), .val (.int ln), .val (.int ub), .val (.int qq), .val (.int ca), .val (.int cb), .val (.int cx), .val (.long mm), .second, .val (.ref ac), .val (.ref ol), .val (.int vd), .unset, .unset, .val (.int xd), .val (.int ad), .val (.long md), .second, .val (.long wh), .second, .unset, .unset] [(.long ((md * (10 : Int64)) + (xd.toInt64)))])) t → Steps p.tables e below (s₁.setTop (entryFrame m #[(.long va), (.int ra), (.int rb), (.int rx), (.int se)] maxLocals)) t := by
            intro t kt
            refine pre599 _ ?_
            refine XS.lstore X585.here hx rfl (hb hby at_849) rfl (l' := #[.val (.long va), .second, .val (.int ra), .val (.int rb), .val (.int rx), .val (.int se), .val (.int ln), .val (.int ub), .val (.int qq), .val (.int ca), .val (.int cb), .val (.int cx), .val (.long mm), .second, .val (.ref ac), .val (.ref ol), .val (.int vd), .unset, .unset, .val (.int xd), .val (.int ad), .val (.long md), .second, .val (.long wh), .second, .unset, .unset]) rfl ?_
            refine XS.lload X585.here hx rfl (hb hby at_851) rfl ?_
            show Steps p.tables e below (T585.setTop (mkF m 853 #[.val (.long va), .second, .val (.int ra), .val (.int rb), .val (.int rx), .val (.int se), .val (.int ln), .val (.int ub), .val (.int qq), .val (.int ca), .val (.int cb), .val (.int cx), .val (.long mm), .second, .val (.ref ac), .val (.ref ol), .val (.int vd), .unset, .unset, .val (.int xd), .val (.int ad), .val (.long md), .second, .val (.long wh), .second, .unset, .unset] [(.long md)])) _
            refine Stand.ldc2J (g := (mkF m 853 #[.val (.long va), .second, .val (.int ra), .val (.int rb), .val (.int rx), .val (.int se), .val (.int ln), .val (.int ub), .val (.int qq), .val (.int ca), .val (.int cb), .val (.int cx), .val (.long mm), .second, .val (.ref ac), .val (.ref ol), .val (.int vd), .unset, .unset, .val (.int xd), .val (.int ad), .val (.long md), .second, .val (.long wh), .second, .unset, .unset] [(.long md)])) X585 hx hown (mvT hZ (hw _ (List.mem_of_getElem? (i := 9) rfl))) rfl (hb hby at_853) ?_
            refine XS.lmul X585.here hx rfl (hb hby at_856) rfl ?_
            refine XS.iload X585.here hx rfl (hb hby at_857) rfl ?_
            refine XS.i2l X585.here hx rfl (hb hby at_859) rfl ?_
            show Steps p.tables e below (T585.setTop (mkF m 860 #[.val (.long va), .second, .val (.int ra), .val (.int rb), .val (.int rx), .val (.int se), .val (.int ln), .val (.int ub), .val (.int qq), .val (.int ca), .val (.int cb), .val (.int cx), .val (.long mm), .second, .val (.ref ac), .val (.ref ol), .val (.int vd), .unset, .unset, .val (.int xd), .val (.int ad), .val (.long md), .second, .val (.long wh), .second, .unset, .unset] [(.long (xd.toInt64)), (.long (md * (10 : Int64)))])) _
            refine XS.ladd X585.here hx rfl (hb hby at_860) rfl ?_
            exact kt
          obtain ⟨wl, h_wl⟩ : ∃ z : Int64, z = ((md * (10 : Int64)) + (xd.toInt64)) := ⟨_, rfl⟩
          have pre601 : ∀ t, Steps p.tables e below (T585.setTop (mkF m 861 #[.val (.long va), .second, .val (.int ra), .val (.int rb), .val (.int rx), .val (.int se), .val (.int ln), .val (.int ub), .val (.int qq), .val (.int ca), .val (.int cb), .val (.int cx), .val (.long mm), .second, .val (.ref ac), .val (.ref ol), .val (.int vd), .unset, .unset, .val (.int xd), .val (.int ad), .val (.long md), .second, .val (.long wh), .second, .unset, .unset] [(.long wl)])) t → Steps p.tables e below (s₁.setTop (entryFrame m #[(.long va), (.int ra), (.int rb), (.int rx), (.int se)] maxLocals)) t := by
            intro t kt
            rw [h_wl] at kt
            exact pre600 _ kt
          have pre602 : ∀ t, Steps p.tables e below (T585.setTop (mkF m 872 #[.val (.long va), .second, .val (.int ra), .val (.int rb), .val (.int rx), .val (.int se), .val (.int ln), .val (.int ub), .val (.int qq), .val (.int ca), .val (.int cb), .val (.int cx), .val (.long mm), .second, .val (.ref ac), .val (.ref ol), .val (.int vd), .unset, .unset, .val (.int xd), .val (.int ad), .val (.long md), .second, .val (.long wh), .second, .val (.long wl), .second] [(.int (XT.cmpL wl ((9223372036854775807 : Int64) - wh)))])) t → Steps p.tables e below (s₁.setTop (entryFrame m #[(.long va), (.int ra), (.int rb), (.int rx), (.int se)] maxLocals)) t := by
            intro t kt
            refine pre601 _ ?_
            refine XS.lstore X585.here hx rfl (hb hby at_861) rfl (l' := #[.val (.long va), .second, .val (.int ra), .val (.int rb), .val (.int rx), .val (.int se), .val (.int ln), .val (.int ub), .val (.int qq), .val (.int ca), .val (.int cb), .val (.int cx), .val (.long mm), .second, .val (.ref ac), .val (.ref ol), .val (.int vd), .unset, .unset, .val (.int xd), .val (.int ad), .val (.long md), .second, .val (.long wh), .second, .val (.long wl), .second]) rfl ?_
            refine XS.lload X585.here hx rfl (hb hby at_863) rfl ?_
            refine Stand.ldc2J (g := (mkF m 865 #[.val (.long va), .second, .val (.int ra), .val (.int rb), .val (.int rx), .val (.int se), .val (.int ln), .val (.int ub), .val (.int qq), .val (.int ca), .val (.int cb), .val (.int cx), .val (.long mm), .second, .val (.ref ac), .val (.ref ol), .val (.int vd), .unset, .unset, .val (.int xd), .val (.int ad), .val (.long md), .second, .val (.long wh), .second, .val (.long wl), .second] [(.long wl)])) X585 hx hown (mvT hZ (hw _ (List.mem_of_getElem? (i := 4) rfl))) rfl (hb hby at_865) ?_
            show Steps p.tables e below (T585.setTop (mkF m 868 #[.val (.long va), .second, .val (.int ra), .val (.int rb), .val (.int rx), .val (.int se), .val (.int ln), .val (.int ub), .val (.int qq), .val (.int ca), .val (.int cb), .val (.int cx), .val (.long mm), .second, .val (.ref ac), .val (.ref ol), .val (.int vd), .unset, .unset, .val (.int xd), .val (.int ad), .val (.long md), .second, .val (.long wh), .second, .val (.long wl), .second] [(.long (9223372036854775807 : Int64)), (.long wl)])) _
            refine XS.lload X585.here hx rfl (hb hby at_868) rfl ?_
            refine XS.lsub X585.here hx rfl (hb hby at_870) rfl ?_
            refine XT.lcmp X585.here hx rfl (hb hby at_871) rfl ?_
            exact kt
          by_cases hc872_603 : ((9223372036854775807 : Int64) - wh) < wl
          · skip
            obtain ⟨cq604, kq604, q604a, q604b, q604c⟩ := isOf hZ rfl f592
            obtain ⟨_, _, ⟨T604, L604, k604, n604⟩, -, X604, ⟨Lc604, hQ604, l604, y604, z604⟩, st604⟩ := X585.virtualBack hx (y := (⟨"java/util/OptionalLong", "isPresent", "()Z"⟩ : MethodName)) (z := (⟨"java/util/OptionalLong", "isPresent", "()Z"⟩ : MethodName)) hown (mvT hZ (hw _ (List.mem_of_getElem? (i := 121) rfl))) (mvT hZ (hw _ (List.mem_of_getElem? (i := 122) rfl))) (notFace_of_selects (args := #[]) (mvT hZ (hw _ (List.mem_of_getElem? (i := 124) rfl)))) (mvT hZ (hw _ (List.mem_of_getElem? (i := 124) rfl))) (mvT hZ (hw _ (List.mem_of_getElem? (i := 123) rfl))) (by decide) (backOf (W := 0) (rm22 l Z a0 hw [] ol (own_res fcc nn).1 (own_res fcc nn).2 T585.heap n0 Z595 f592 f593 f594) hZ (hw _ (List.mem_of_getElem? (i := 125) rfl)) (hw _ (List.mem_of_getElem? (i := 105) rfl)) (by decide) (by decide)) q604a q604c (g := (mkF m 941 #[.val (.long va), .second, .val (.int ra), .val (.int rb), .val (.int rx), .val (.int se), .val (.int ln), .val (.int ub), .val (.int qq), .val (.int ca), .val (.int cb), .val (.int cx), .val (.long mm), .second, .val (.ref ac), .val (.ref ol), .val (.int vd), .val (.long (9223372036854775807 : Int64)), .second, .val (.int xd), .val (.int ad), .val (.long md), .second, .val (.long wh), .second, .val (.long wl), .second] [(.ref ol)])) rfl (by rw [hml]; rfl) (Steps.refl _) (argsL := []) (rest := []) (lenOf pd_8 rfl) rfl (by show 2 * 0 + _ ≤ _; exact Nat.le_of_eq rfl) (hb hby at_941) (fun _ _ => ⟨rfl, rfl, (by decide : 31 + 0 ≤ _), (by decide : 502 + 0 ≤ _)⟩)
            dsimp only [Pt.U, Pt.locs, Pt.cells, Pt.slots] at X604 l604 y604 z604 st604 hQ604
            subst l604 y604 z604
            obtain ⟨rfl, N604q, hE604⟩ := hQ604
            have N604 := Fr.app N585 N604q
            obtain ⟨cq605, kq605, q605a, q605b, q605c⟩ := isOf hZ hE604 f592
            obtain ⟨_, _, ⟨T605, L605, k605, n605⟩, -, X605, ⟨Lc605, hQ605, l605, y605, z605⟩, st605⟩ := X604.virtualBack hx (y := (⟨"java/util/OptionalLong", "getAsLong", "()J"⟩ : MethodName)) (z := (⟨"java/util/OptionalLong", "getAsLong", "()J"⟩ : MethodName)) hown (mvT hZ (hw _ (List.mem_of_getElem? (i := 126) rfl))) (mvT hZ (hw _ (List.mem_of_getElem? (i := 127) rfl))) (notFace_of_selects (args := #[]) (mvT hZ (hw _ (List.mem_of_getElem? (i := 129) rfl)))) (mvT hZ (hw _ (List.mem_of_getElem? (i := 129) rfl))) (mvT hZ (hw _ (List.mem_of_getElem? (i := 128) rfl))) (by decide) (backOf (W := 0) (rm23 l Z a0 hw [] ol (own_res fcc nn).1 (own_res fcc nn).2 T585.heap n0 Z595 f592 f593 f594 hip) hZ (hw _ (List.mem_of_getElem? (i := 130) rfl)) (hw _ (List.mem_of_getElem? (i := 105) rfl)) (by decide) (by decide)) q605a q605c (g := (mkF m 949 #[.val (.long va), .second, .val (.int ra), .val (.int rb), .val (.int rx), .val (.int se), .val (.int ln), .val (.int ub), .val (.int qq), .val (.int ca), .val (.int cb), .val (.int cx), .val (.long mm), .second, .val (.ref ac), .val (.ref ol), .val (.int vd), .val (.long (9223372036854775807 : Int64)), .second, .val (.int xd), .val (.int ad), .val (.long md), .second, .val (.long wh), .second, .val (.long wl), .second] [(.ref ol)])) rfl (by rw [hml]; rfl) (Steps.refl _) (argsL := []) (rest := []) (lenOf pd_19 rfl) rfl (by show 2 * 0 + _ ≤ _; exact Nat.le_of_eq rfl) (hb hby at_949) (fun _ _ => ⟨rfl, hE604, (by decide : 31 + 0 ≤ _), (by decide : 502 + 0 ≤ _)⟩)
            dsimp only [Pt.U, Pt.locs, Pt.cells, Pt.slots] at X605 l605 y605 z605 st605 hQ605
            subst l605 y605 z605
            obtain ⟨rfl, N605q, hE605⟩ := hQ605
            have N605 := Fr.app N604 N605q
            have pre606 : ∀ t, Steps p.tables e below (T605.setTop (mkF m 963 #[.val (.long va), .second, .val (.int ra), .val (.int rb), .val (.int rx), .val (.int se), .val (.int ln), .val (.int ub), .val (.int qq), .val (.int ca), .val (.int cb), .val (.int cx), .val (.long mm), .second, .val (.ref ac), .val (.ref ol), .val (.int vd), .val (.long (9223372036854775807 : Int64)), .second, .val (.int xd), .val (.int ad), .val (.long md), .second, .val (.long wh), .second, .val (.long wl), .second] [(.int (1 : Int32))])) t → Steps p.tables e below (s₁.setTop (entryFrame m #[(.long va), (.int ra), (.int rb), (.int rx), (.int se)] maxLocals)) t := by
              intro t kt
              refine pre602 _ ?_
              show Steps p.tables e below (T585.setTop (mkF m 872 #[.val (.long va), .second, .val (.int ra), .val (.int rb), .val (.int rx), .val (.int se), .val (.int ln), .val (.int ub), .val (.int qq), .val (.int ca), .val (.int cb), .val (.int cx), .val (.long mm), .second, .val (.ref ac), .val (.ref ol), .val (.int vd), .unset, .unset, .val (.int xd), .val (.int ad), .val (.long md), .second, .val (.long wh), .second, .val (.long wl), .second] [(.int (XT.cmpL wl ((9223372036854775807 : Int64) - wh)))])) _
              refine XS.ifNo X585.here hx rfl (hb hby at_872) rfl (XT.ll_le_f hc872_603) ?_
              refine Stand.ldc2J (g := (mkF m 875 #[.val (.long va), .second, .val (.int ra), .val (.int rb), .val (.int rx), .val (.int se), .val (.int ln), .val (.int ub), .val (.int qq), .val (.int ca), .val (.int cb), .val (.int cx), .val (.long mm), .second, .val (.ref ac), .val (.ref ol), .val (.int vd), .unset, .unset, .val (.int xd), .val (.int ad), .val (.long md), .second, .val (.long wh), .second, .val (.long wl), .second] [])) X585 hx hown (mvT hZ (hw _ (List.mem_of_getElem? (i := 4) rfl))) rfl (hb hby at_875) ?_
              refine XS.goto X585.here hx rfl (pc0 := 878) (pc' := 886) rfl (hb hby at_878) (by decide) (by decide) ?_
              refine XS.lstore X585.here hx rfl (hb hby at_886) rfl (l' := #[.val (.long va), .second, .val (.int ra), .val (.int rb), .val (.int rx), .val (.int se), .val (.int ln), .val (.int ub), .val (.int qq), .val (.int ca), .val (.int cb), .val (.int cx), .val (.long mm), .second, .val (.ref ac), .val (.ref ol), .val (.int vd), .val (.long (9223372036854775807 : Int64)), .second, .val (.int xd), .val (.int ad), .val (.long md), .second, .val (.long wh), .second, .val (.long wl), .second]) rfl ?_
              show Steps p.tables e below (T585.setTop (mkF m 888 #[.val (.long va), .second, .val (.int ra), .val (.int rb), .val (.int rx), .val (.int se), .val (.int ln), .val (.int ub), .val (.int qq), .val (.int ca), .val (.int cb), .val (.int cx), .val (.long mm), .second, .val (.ref ac), .val (.ref ol), .val (.int vd), .val (.long (9223372036854775807 : Int64)), .second, .val (.int xd), .val (.int ad), .val (.long md), .second, .val (.long wh), .second, .val (.long wl), .second] [])) _
              refine XS.goto X585.here hx rfl (pc0 := 888) (pc' := 939) rfl (hb hby at_888) (by decide) (by decide) ?_
              refine XS.aload X585.here hx rfl (hb hby at_939) rfl rfl ?_
              show Steps p.tables e below (T585.setTop (mkF m 941 #[.val (.long va), .second, .val (.int ra), .val (.int rb), .val (.int rx), .val (.int se), .val (.int ln), .val (.int ub), .val (.int qq), .val (.int ca), .val (.int cb), .val (.int cx), .val (.long mm), .second, .val (.ref ac), .val (.ref ol), .val (.int vd), .val (.long (9223372036854775807 : Int64)), .second, .val (.int xd), .val (.int ad), .val (.long md), .second, .val (.long wh), .second, .val (.long wl), .second] [(.ref ol)])) _
              refine st604.trans ?_
              show Steps p.tables e below (T604.setTop (mkF m 944 #[.val (.long va), .second, .val (.int ra), .val (.int rb), .val (.int rx), .val (.int se), .val (.int ln), .val (.int ub), .val (.int qq), .val (.int ca), .val (.int cb), .val (.int cx), .val (.long mm), .second, .val (.ref ac), .val (.ref ol), .val (.int vd), .val (.long (9223372036854775807 : Int64)), .second, .val (.int xd), .val (.int ad), .val (.long md), .second, .val (.long wh), .second, .val (.long wl), .second] [(.int (nar .boolean (own_res fcc nn).1))])) _
              refine XS.ifNo X604.here hx rfl (hb hby at_944) rfl (XT.i0_eq_f (own_nb1 hres)) ?_
              refine XS.aload X604.here hx rfl (hb hby at_947) rfl rfl ?_
              show Steps p.tables e below (T604.setTop (mkF m 949 #[.val (.long va), .second, .val (.int ra), .val (.int rb), .val (.int rx), .val (.int se), .val (.int ln), .val (.int ub), .val (.int qq), .val (.int ca), .val (.int cb), .val (.int cx), .val (.long mm), .second, .val (.ref ac), .val (.ref ol), .val (.int vd), .val (.long (9223372036854775807 : Int64)), .second, .val (.int xd), .val (.int ad), .val (.long md), .second, .val (.long wh), .second, .val (.long wl), .second] [(.ref ol)])) _
              refine st605.trans ?_
              refine XS.lload X605.here hx rfl (hb hby at_952) rfl ?_
              refine XT.lcmp X605.here hx rfl (hb hby at_954) rfl ?_
              show Steps p.tables e below (T605.setTop (mkF m 955 #[.val (.long va), .second, .val (.int ra), .val (.int rb), .val (.int rx), .val (.int se), .val (.int ln), .val (.int ub), .val (.int qq), .val (.int ca), .val (.int cb), .val (.int cx), .val (.long mm), .second, .val (.ref ac), .val (.ref ol), .val (.int vd), .val (.long (9223372036854775807 : Int64)), .second, .val (.int xd), .val (.int ad), .val (.long md), .second, .val (.long wh), .second, .val (.long wl), .second] [(.int (XT.cmpL (own_res fcc nn).2 (9223372036854775807 : Int64)))])) _
              refine XS.ifNo X605.here hx rfl (hb hby at_955) rfl (XT.ll_ne_f ((own_19 hG hln hc761_461 (own_mid1 hG hc785_469 h_md) h_xd h_ad hc835_556 h_wh h_wl).1 hc872_603)) ?_
              refine XS.iconst X605.here hx rfl (hb hby at_958) ?_
              refine XS.goto X605.here hx rfl (pc0 := 959) (pc' := 963) rfl (hb hby at_959) (by decide) (by decide) ?_
              exact kt
            have CK607 := CHr.keep (Z := Z) (EL := EL1) K597 sf0 CC400.1
            obtain ⟨fs, hr, hrun, hended, hEnd⟩ := X605.leaveW hS (by rw [hE605]; exact Nat.le_trans hk K597.1) (v := some (.int (1 : Int32))) (fun h => by rw [Bd.returns] at h; cases h)
            have CT := CK607.trans (CHv.at (s := s) (vm0 := T400.vm) X605 hZ hEL CK607.1)
            refine ⟨_, _, pre606 _ ?_, hrun, hended, _, _, rfl, ?_, ?_, hEnd.1, hEnd.2.1, hEnd.2.2.1, hEnd.2.2.2.mono (by decide) (by decide)⟩
            · show Steps p.tables e below (T605.setTop (mkF m 963 #[.val (.long va), .second, .val (.int ra), .val (.int rb), .val (.int rx), .val (.int se), .val (.int ln), .val (.int ub), .val (.int qq), .val (.int ca), .val (.int cb), .val (.int cx), .val (.long mm), .second, .val (.ref ac), .val (.ref ol), .val (.int vd), .val (.long (9223372036854775807 : Int64)), .second, .val (.int xd), .val (.int ad), .val (.long md), .second, .val (.long wh), .second, .val (.long wl), .second] [(.int (1 : Int32))])) _
              exact retN X605 hx (t := .boolean) Bd.returns (by simp) (hb hby at_963) hr
            · show Q0 Z va ra rb rx se cs fmv em h0 n0 _ T605.heap _
              rw [hE605]
              exact ⟨rfl, N605⟩
            · rw [hh]
              show CHr Z EL1 s.vm h0 T605.vm T605.heap
              rw [hE605]
              exact CR411.trans CT
          · skip
            obtain ⟨cq608, kq608, q608a, q608b, q608c⟩ := isOf hZ rfl f592
            obtain ⟨_, _, ⟨T608, L608, k608, n608⟩, -, X608, ⟨Lc608, hQ608, l608, y608, z608⟩, st608⟩ := X585.virtualBack hx (y := (⟨"java/util/OptionalLong", "isPresent", "()Z"⟩ : MethodName)) (z := (⟨"java/util/OptionalLong", "isPresent", "()Z"⟩ : MethodName)) hown (mvT hZ (hw _ (List.mem_of_getElem? (i := 121) rfl))) (mvT hZ (hw _ (List.mem_of_getElem? (i := 122) rfl))) (notFace_of_selects (args := #[]) (mvT hZ (hw _ (List.mem_of_getElem? (i := 124) rfl)))) (mvT hZ (hw _ (List.mem_of_getElem? (i := 124) rfl))) (mvT hZ (hw _ (List.mem_of_getElem? (i := 123) rfl))) (by decide) (backOf (W := 0) (rm22 l Z a0 hw [] ol (own_res fcc nn).1 (own_res fcc nn).2 T585.heap n0 Z595 f592 f593 f594) hZ (hw _ (List.mem_of_getElem? (i := 125) rfl)) (hw _ (List.mem_of_getElem? (i := 105) rfl)) (by decide) (by decide)) q608a q608c (g := (mkF m 941 #[.val (.long va), .second, .val (.int ra), .val (.int rb), .val (.int rx), .val (.int se), .val (.int ln), .val (.int ub), .val (.int qq), .val (.int ca), .val (.int cb), .val (.int cx), .val (.long mm), .second, .val (.ref ac), .val (.ref ol), .val (.int vd), .val (.long (wh + wl)), .second, .val (.int xd), .val (.int ad), .val (.long md), .second, .val (.long wh), .second, .val (.long wl), .second] [(.ref ol)])) rfl (by rw [hml]; rfl) (Steps.refl _) (argsL := []) (rest := []) (lenOf pd_8 rfl) rfl (by show 2 * 0 + _ ≤ _; exact Nat.le_of_eq rfl) (hb hby at_941) (fun _ _ => ⟨rfl, rfl, (by decide : 31 + 0 ≤ _), (by decide : 502 + 0 ≤ _)⟩)
            dsimp only [Pt.U, Pt.locs, Pt.cells, Pt.slots] at X608 l608 y608 z608 st608 hQ608
            subst l608 y608 z608
            obtain ⟨rfl, N608q, hE608⟩ := hQ608
            have N608 := Fr.app N585 N608q
            obtain ⟨cq609, kq609, q609a, q609b, q609c⟩ := isOf hZ hE608 f592
            obtain ⟨_, _, ⟨T609, L609, k609, n609⟩, -, X609, ⟨Lc609, hQ609, l609, y609, z609⟩, st609⟩ := X608.virtualBack hx (y := (⟨"java/util/OptionalLong", "getAsLong", "()J"⟩ : MethodName)) (z := (⟨"java/util/OptionalLong", "getAsLong", "()J"⟩ : MethodName)) hown (mvT hZ (hw _ (List.mem_of_getElem? (i := 126) rfl))) (mvT hZ (hw _ (List.mem_of_getElem? (i := 127) rfl))) (notFace_of_selects (args := #[]) (mvT hZ (hw _ (List.mem_of_getElem? (i := 129) rfl)))) (mvT hZ (hw _ (List.mem_of_getElem? (i := 129) rfl))) (mvT hZ (hw _ (List.mem_of_getElem? (i := 128) rfl))) (by decide) (backOf (W := 0) (rm23 l Z a0 hw [] ol (own_res fcc nn).1 (own_res fcc nn).2 T585.heap n0 Z595 f592 f593 f594 hip) hZ (hw _ (List.mem_of_getElem? (i := 130) rfl)) (hw _ (List.mem_of_getElem? (i := 105) rfl)) (by decide) (by decide)) q609a q609c (g := (mkF m 949 #[.val (.long va), .second, .val (.int ra), .val (.int rb), .val (.int rx), .val (.int se), .val (.int ln), .val (.int ub), .val (.int qq), .val (.int ca), .val (.int cb), .val (.int cx), .val (.long mm), .second, .val (.ref ac), .val (.ref ol), .val (.int vd), .val (.long (wh + wl)), .second, .val (.int xd), .val (.int ad), .val (.long md), .second, .val (.long wh), .second, .val (.long wl), .second] [(.ref ol)])) rfl (by rw [hml]; rfl) (Steps.refl _) (argsL := []) (rest := []) (lenOf pd_19 rfl) rfl (by show 2 * 0 + _ ≤ _; exact Nat.le_of_eq rfl) (hb hby at_949) (fun _ _ => ⟨rfl, hE608, (by decide : 31 + 0 ≤ _), (by decide : 502 + 0 ≤ _)⟩)
            dsimp only [Pt.U, Pt.locs, Pt.cells, Pt.slots] at X609 l609 y609 z609 st609 hQ609
            subst l609 y609 z609
            obtain ⟨rfl, N609q, hE609⟩ := hQ609
            have N609 := Fr.app N608 N609q
            have pre610 : ∀ t, Steps p.tables e below (T609.setTop (mkF m 963 #[.val (.long va), .second, .val (.int ra), .val (.int rb), .val (.int rx), .val (.int se), .val (.int ln), .val (.int ub), .val (.int qq), .val (.int ca), .val (.int cb), .val (.int cx), .val (.long mm), .second, .val (.ref ac), .val (.ref ol), .val (.int vd), .val (.long (wh + wl)), .second, .val (.int xd), .val (.int ad), .val (.long md), .second, .val (.long wh), .second, .val (.long wl), .second] [(.int (1 : Int32))])) t → Steps p.tables e below (s₁.setTop (entryFrame m #[(.long va), (.int ra), (.int rb), (.int rx), (.int se)] maxLocals)) t := by
              intro t kt
              refine pre602 _ ?_
              show Steps p.tables e below (T585.setTop (mkF m 872 #[.val (.long va), .second, .val (.int ra), .val (.int rb), .val (.int rx), .val (.int se), .val (.int ln), .val (.int ub), .val (.int qq), .val (.int ca), .val (.int cb), .val (.int cx), .val (.long mm), .second, .val (.ref ac), .val (.ref ol), .val (.int vd), .unset, .unset, .val (.int xd), .val (.int ad), .val (.long md), .second, .val (.long wh), .second, .val (.long wl), .second] [(.int (XT.cmpL wl ((9223372036854775807 : Int64) - wh)))])) _
              refine XS.ifYes X585.here hx rfl (pc0 := 872) (pc' := 881) rfl (hb hby at_872) rfl (XT.ll_le_t hc872_603) (by decide) (by decide) ?_
              refine XS.lload X585.here hx rfl (hb hby at_881) rfl ?_
              refine XS.lload X585.here hx rfl (hb hby at_883) rfl ?_
              refine XS.ladd X585.here hx rfl (hb hby at_885) rfl ?_
              show Steps p.tables e below (T585.setTop (mkF m 886 #[.val (.long va), .second, .val (.int ra), .val (.int rb), .val (.int rx), .val (.int se), .val (.int ln), .val (.int ub), .val (.int qq), .val (.int ca), .val (.int cb), .val (.int cx), .val (.long mm), .second, .val (.ref ac), .val (.ref ol), .val (.int vd), .unset, .unset, .val (.int xd), .val (.int ad), .val (.long md), .second, .val (.long wh), .second, .val (.long wl), .second] [(.long (wh + wl))])) _
              refine XS.lstore X585.here hx rfl (hb hby at_886) rfl (l' := #[.val (.long va), .second, .val (.int ra), .val (.int rb), .val (.int rx), .val (.int se), .val (.int ln), .val (.int ub), .val (.int qq), .val (.int ca), .val (.int cb), .val (.int cx), .val (.long mm), .second, .val (.ref ac), .val (.ref ol), .val (.int vd), .val (.long (wh + wl)), .second, .val (.int xd), .val (.int ad), .val (.long md), .second, .val (.long wh), .second, .val (.long wl), .second]) rfl ?_
              refine XS.goto X585.here hx rfl (pc0 := 888) (pc' := 939) rfl (hb hby at_888) (by decide) (by decide) ?_
              refine XS.aload X585.here hx rfl (hb hby at_939) rfl rfl ?_
              show Steps p.tables e below (T585.setTop (mkF m 941 #[.val (.long va), .second, .val (.int ra), .val (.int rb), .val (.int rx), .val (.int se), .val (.int ln), .val (.int ub), .val (.int qq), .val (.int ca), .val (.int cb), .val (.int cx), .val (.long mm), .second, .val (.ref ac), .val (.ref ol), .val (.int vd), .val (.long (wh + wl)), .second, .val (.int xd), .val (.int ad), .val (.long md), .second, .val (.long wh), .second, .val (.long wl), .second] [(.ref ol)])) _
              refine st608.trans ?_
              show Steps p.tables e below (T608.setTop (mkF m 944 #[.val (.long va), .second, .val (.int ra), .val (.int rb), .val (.int rx), .val (.int se), .val (.int ln), .val (.int ub), .val (.int qq), .val (.int ca), .val (.int cb), .val (.int cx), .val (.long mm), .second, .val (.ref ac), .val (.ref ol), .val (.int vd), .val (.long (wh + wl)), .second, .val (.int xd), .val (.int ad), .val (.long md), .second, .val (.long wh), .second, .val (.long wl), .second] [(.int (nar .boolean (own_res fcc nn).1))])) _
              refine XS.ifNo X608.here hx rfl (hb hby at_944) rfl (XT.i0_eq_f (own_nb1 hres)) ?_
              refine XS.aload X608.here hx rfl (hb hby at_947) rfl rfl ?_
              show Steps p.tables e below (T608.setTop (mkF m 949 #[.val (.long va), .second, .val (.int ra), .val (.int rb), .val (.int rx), .val (.int se), .val (.int ln), .val (.int ub), .val (.int qq), .val (.int ca), .val (.int cb), .val (.int cx), .val (.long mm), .second, .val (.ref ac), .val (.ref ol), .val (.int vd), .val (.long (wh + wl)), .second, .val (.int xd), .val (.int ad), .val (.long md), .second, .val (.long wh), .second, .val (.long wl), .second] [(.ref ol)])) _
              refine st609.trans ?_
              refine XS.lload X609.here hx rfl (hb hby at_952) rfl ?_
              refine XT.lcmp X609.here hx rfl (hb hby at_954) rfl ?_
              show Steps p.tables e below (T609.setTop (mkF m 955 #[.val (.long va), .second, .val (.int ra), .val (.int rb), .val (.int rx), .val (.int se), .val (.int ln), .val (.int ub), .val (.int qq), .val (.int ca), .val (.int cb), .val (.int cx), .val (.long mm), .second, .val (.ref ac), .val (.ref ol), .val (.int vd), .val (.long (wh + wl)), .second, .val (.int xd), .val (.int ad), .val (.long md), .second, .val (.long wh), .second, .val (.long wl), .second] [(.int (XT.cmpL (own_res fcc nn).2 (wh + wl)))])) _
              refine XS.ifNo X609.here hx rfl (hb hby at_955) rfl (XT.ll_ne_f ((own_19 hG hln hc761_461 (own_mid1 hG hc785_469 h_md) h_xd h_ad hc835_556 h_wh h_wl).2 hc872_603)) ?_
              refine XS.iconst X609.here hx rfl (hb hby at_958) ?_
              refine XS.goto X609.here hx rfl (pc0 := 959) (pc' := 963) rfl (hb hby at_959) (by decide) (by decide) ?_
              exact kt
            have CK611 := CHr.keep (Z := Z) (EL := EL1) K597 sf0 CC400.1
            obtain ⟨fs, hr, hrun, hended, hEnd⟩ := X609.leaveW hS (by rw [hE609]; exact Nat.le_trans hk K597.1) (v := some (.int (1 : Int32))) (fun h => by rw [Bd.returns] at h; cases h)
            have CT := CK611.trans (CHv.at (s := s) (vm0 := T400.vm) X609 hZ hEL CK611.1)
            refine ⟨_, _, pre610 _ ?_, hrun, hended, _, _, rfl, ?_, ?_, hEnd.1, hEnd.2.1, hEnd.2.2.1, hEnd.2.2.2.mono (by decide) (by decide)⟩
            · show Steps p.tables e below (T609.setTop (mkF m 963 #[.val (.long va), .second, .val (.int ra), .val (.int rb), .val (.int rx), .val (.int se), .val (.int ln), .val (.int ub), .val (.int qq), .val (.int ca), .val (.int cb), .val (.int cx), .val (.long mm), .second, .val (.ref ac), .val (.ref ol), .val (.int vd), .val (.long (wh + wl)), .second, .val (.int xd), .val (.int ad), .val (.long md), .second, .val (.long wh), .second, .val (.long wl), .second] [(.int (1 : Int32))])) _
              exact retN X609 hx (t := .boolean) Bd.returns (by simp) (hb hby at_963) hr
            · show Q0 Z va ra rb rx se cs fmv em h0 n0 _ T609.heap _
              rw [hE609]
              exact ⟨rfl, N609⟩
            · rw [hh]
              show CHr Z EL1 s.vm h0 T609.vm T609.heap
              rw [hE609]
              exact CR411.trans CT
set_option maxRecDepth 65536 in
set_option maxHeartbeats 40000000 in
theorem comes_1 {Post : Tables → Env → Array Value → State → Outcome → State → Prop} (hpost : ∀ tb e args s v u, (limb_1_1.after args s (.returned v) u = true ∧ limb_1_2.after args s (.returned v) u = true ∧ True) → ReturnedEndW s (.returned v) u (Jvm.fieldLocs frame_1_writes args s ++ Jvm.arrayLocs frame_1_arrays args s ++ Jvm.staticLocs frame_1_statics s) 64 1984 → Post tb e args s (.returned v) u) :
    ArmFor flags0 classFile x code maxLocals ret World_1 tables_1 room_1 Calls_1 rest_1 Pre_1 Post := by
  intro l hfl _ _ p e ha hc hk s m args below hf hA hF happ hP
  obtain ⟨hcalls, hrest, hpre⟩ := hP
  obtain ⟨-, -, -, hnamed, -, -, -, hat⟩ := (Spec.applies_iff hf).mp happ
  obtain ⟨hg, hn⟩ := and_e (Cond.before_iff.mp (show (Jvm.Cond.and given_1 narrow_1).before args s = true from hpre))
  obtain ⟨g1, g2⟩ := and_e hg
  obtain ⟨g3, g4⟩ := and_e g2
  obtain ⟨g5, g6⟩ := and_e g4
  obtain ⟨g7, g8⟩ := and_e g6
  obtain ⟨g9, g10⟩ := and_e g8
  obtain ⟨w0, w1, w2, w3, w4, rfl⟩ : ∃ w0 w1 w2 w3 w4 : Value, args = #[w0, w1, w2, w3, w4] := by
    have hs : args.size = 5 := by simpa [Cond.value, given_1] using g1
    obtain ⟨L⟩ := args
    match L, hs with
    | [w0, w1, w2, w3, w4], _ => exact ⟨w0, w1, w2, w3, w4, rfl⟩
  have hw := fun d (hd : d ∈ tables_1) => atoms_spec (ws := Jvm.Cond.code x code maxLocals ret :: tables_1) hat d (List.mem_cons_of_mem _ hd)
  have hfit : Fit s := fun {y c} hc i hi => by
    obtain ⟨ha, rfl⟩ := Array.getElem?_eq_some_iff.mp hc
    have q := List.all_eq_true.mp ((Array.all_eq_true_iff_forall_mem.mp hF) _ (Array.getElem_mem ha)) i (List.mem_range.mpr hi)
    simpa [Array.getElem?_eq_getElem hi] using q
  obtain ⟨hsets, hown0⟩ := atoms_of _ (rest_1_c_eq ▸ (show rest_1_c.before _ s = true from hrest))
  have hr0 := Cond.before_iff.mp hown0
  obtain ⟨i0, ei0⟩ := isL_v g3
  obtain rfl : w0 = (.long i0) := Option.some.inj ei0
  obtain ⟨i1, ei1⟩ := is_v g5
  obtain rfl : w1 = (.int i1) := Option.some.inj ei1
  obtain ⟨i2, ei2⟩ := is_v g7
  obtain rfl : w2 = (.int i2) := Option.some.inj ei2
  obtain ⟨i3, ei3⟩ := is_v g9
  obtain rfl : w3 = (.int i3) := Option.some.inj ei3
  obtain ⟨i4, ei4⟩ := is_v g10
  obtain rfl : w4 = (.int i4) := Option.some.inj ei4
  obtain ⟨cs, fmv, em, hst, hem, hcw⟩ := own_sets hsets
  have CHs : CHv s EL1 s.vm s.heap := CHv.start (own_EW hw) (fun q hq => by cases List.mem_singleton.mp hq; exact hcalls.1 _ (List.mem_of_getElem? (i := 0) rfl)) hcw (own_wS hw _ (List.mem_of_getElem? (i := 2) rfl)) (own_wS hw _ (List.mem_of_getElem? (i := 1) rfl))
  obtain ⟨n, o, h1, h2, h3, _, L, rfl, ⟨rfl, N⟩, -, hq⟩ := rm0 l s _ hw tables_1 i0 i1 i2 i3 i4 cs fmv em s.heap s.heap.size (Nat.le_refl _) (Old.start s) hst hem p e ha hc hk s m _ below hf ((Spec.applies_iff_loose hf).mp happ).1 ⟨rfl, State.Warmed39.refl s, rfl, CHs⟩ trivial
  refine ⟨n, _, h1, h2, h3, hpost _ _ _ _ _ _ ⟨Cond.after_iff.mpr rfl, Cond.after_iff.mpr (eq_i res_at (Term.int_eval (1)) rfl), trivial⟩ ⟨hq.1, hq.2.1, hq.2.2.1, (hq.2.2.2.sift fun y hy => Or.inr (N y hy)).mono (by decide) (by decide)⟩⟩
theorem main_1_1 : Claimed_1_1 := comes_1 fun _ _ _ _ _ _ h hF => ⟨h.1, hF⟩
theorem main_1_2 : Claimed_1_2 := comes_1 fun _ _ _ _ _ _ h hF => ⟨h.2.1, hF⟩
end Jvm.Pilot.@@N@@
namespace Jvm.Pilot.@@N@@
open Jvm Jvm.ClassFile Sem Op Lib Jvm.Free Jvm.Stand Jvm.Pilot.@@N@@.Jvm.D
/-! MADE BY PROGRAM (witnessworld.py) out of the Statement's table words and the real class files: 23 classes; the members and pool entries that the words name. The judged class is class 1, her method 5. -/
namespace start1
open Jvm.ClassFile
def u (s : String) : CpInfo := .utf8 (stringToUtf16 s)
/-- a pool by its gaps: so many unusable entries, then the entry; so many at the end -/
def gap : Nat → List CpInfo → List CpInfo
  | 0, r => r
  | n + 1, r => .unusable :: gap n r
def poolList (es : List (Nat × CpInfo)) (last : Nat) : List CpInfo := es.foldr (fun e r => gap e.1 (e.2 :: r)) (gap last [])
def pool (es : List (Nat × CpInfo)) (last : Nat) : Array CpInfo := ⟨poolList es last⟩
def fileOf (pool : Array CpInfo) (this : Nat) (attrs : Array Attribute := #[]) (ms : Array MethodInfo := #[]) (fl : Nat := 33) (sup : Nat := 0) (ifs : Array Nat := #[]) (fds : Array FieldInfo := #[]) : ClassFile where
  minorVersion := 0
  majorVersion := 65
  constantPool := pool
  accessFlags := fl
  thisClass := this
  superClass := sup
  interfaces := ifs
  fields := fds
  methods := ms
  attributes := attrs
def plain (name : String) (sup : Option ClassId) : Class where
  name := name
  kind := .ordinary
  loader := none
  accessFlags := 33
  super := sup
  interfaces := #[]
  cf := none
  fields := #[]
  methods := #[]
  instanceTypes := #[]
  staticTypes := #[]
  resolved := #[]
  callSites := []
  init := .initialized
  statics := none
  mirror := none

def pool0 : Array CpInfo := pool [(5, u "<init>"), (0, u "()V"), (1, .class_ 10), (1, u "java/lang/Object")] 113

def k0c0 : Code := { maxStack := 0, maxLocals := 1, code := object_method_1_code, exceptionTable := #[], attributes := #[] }
def k0m0 : Method := { name := "<init>", desc := "()V", sig := { parameters := [], returnType := none }, accessFlags := 1, code := some k0c0 }
/-- java/lang/Object -/
def k0 : Class := { plain "java/lang/Object" none with
  accessFlags := 33
  interfaces := #[]
  cf := some (fileOf pool0 8 #[] #[{ accessFlags := 1, nameIndex := 5, descriptorIndex := 6, attributes := #[] }] 33 0 #[] #[])
  fields := #[]
  methods := #[k0m0]
  instanceTypes := #[]
  staticTypes := #[]
  resolved := Array.replicate 124 none
  statics := none }

def pool1 : Array CpInfo := pool [(2, .class_ 4), (1, u "java/lang/Object"), (0, u "<init>"), (0, u "()V"), (0, .long 10), (1, .long 100), (1, .long 1000), (1, .long 10000), (1, .long 100000), (1, .long 1000000), (1, .long 10000000), (1, .long 100000000), (1, .long 1000000000), (1, .long 10000000000), (1, .long 100000000000), (1, .long 1000000000000), (1, .long 10000000000000), (1, .long 100000000000000), (1, .long 1000000000000000), (1, .long 10000000000000000), (1, .long 100000000000000000), (1, .long 1000000000000000000), (1, .methodref 44 45), (0, .class_ 46), (0, .nameAndType 47 48), (0, u "com/example/relent/relent/WholeNumbersUnsignedPinLaw"), (0, u "pow10"), (0, u "(I)J"), (0, .methodref 44 50), (0, .nameAndType 51 52), (0, u "draw"), (0, u "(I)C"), (2, .long 9223372036854775807), (1, .methodref 44 58), (0, .nameAndType 59 60), (0, u "at"), (0, u "(IICCCIJ)C"), (0, .class_ 62), (0, u "java/lang/String"), (0, .methodref 61 64), (0, .nameAndType 5 65), (0, u "([C)V"), (0, .methodref 67 68), (0, .class_ 69), (0, .nameAndType 70 71), (0, u "com/example/relent/relent/WholeNumbers"), (0, u "unsigned"), (0, u "(Ljava/lang/String;)Ljava/util/OptionalLong;"), (0, .methodref 44 73), (0, .nameAndType 74 75), (0, u "isDigit"), (0, u "(C)Z"), (0, .methodref 77 78), (0, .class_ 79), (0, .nameAndType 80 81), (0, u "java/util/OptionalLong"), (0, u "isPresent"), (0, u "()Z"), (0, .long 922337203685477580), (1, .methodref 77 85), (0, .nameAndType 86 87), (0, u "getAsLong"), (0, u "()J"), (3, u "law"), (0, u "(JIIII)Z")] 4

def k1m0 : Method := { name := "<init>", desc := "()V", sig := { parameters := [], returnType := none }, accessFlags := 2, code := none }
def k1c1 : Code := { maxStack := 5, maxLocals := 2, code := method_2_code, exceptionTable := #[], attributes := #[] }
def k1m1 : Method := { name := "pow10", desc := "(I)J", sig := { parameters := [.int], returnType := some .long }, accessFlags := 10, code := some k1c1 }
def k1c2 : Code := { maxStack := 3, maxLocals := 1, code := method_3_code, exceptionTable := #[], attributes := #[] }
def k1m2 : Method := { name := "draw", desc := "(I)C", sig := { parameters := [.int], returnType := some .char }, accessFlags := 10, code := some k1c2 }
def k1c3 : Code := { maxStack := 2, maxLocals := 1, code := method_4_code, exceptionTable := #[], attributes := #[] }
def k1m3 : Method := { name := "isDigit", desc := "(C)Z", sig := { parameters := [.char], returnType := some .boolean }, accessFlags := 10, code := some k1c3 }
def k1c4 : Code := { maxStack := 5, maxLocals := 8, code := method_5_code, exceptionTable := #[], attributes := #[] }
def k1m4 : Method := { name := "at", desc := "(IICCCIJ)C", sig := { parameters := [.int, .int, .char, .char, .char, .int, .long], returnType := some .char }, accessFlags := 10, code := some k1c4 }
def k1c5 : Code := { maxStack := 10, maxLocals := 27, code := code, exceptionTable := #[], attributes := #[] }
def k1m5 : Method := { name := "law", desc := "(JIIII)Z", sig := { parameters := [.long, .int, .int, .int, .int], returnType := some .boolean }, accessFlags := 9, code := some k1c5 }
/-- com/example/relent/relent/WholeNumbersUnsignedPinLaw -/
def k1 : Class := { plain "com/example/relent/relent/WholeNumbersUnsignedPinLaw" (some 0) with
  accessFlags := 49
  interfaces := #[]
  cf := some (fileOf pool1 44 #[] #[{ accessFlags := 2, nameIndex := 5, descriptorIndex := 6, attributes := #[] }, { accessFlags := 10, nameIndex := 47, descriptorIndex := 48, attributes := #[] }, { accessFlags := 10, nameIndex := 51, descriptorIndex := 52, attributes := #[] }, { accessFlags := 10, nameIndex := 74, descriptorIndex := 75, attributes := #[] }, { accessFlags := 10, nameIndex := 59, descriptorIndex := 60, attributes := #[] }, { accessFlags := 9, nameIndex := 91, descriptorIndex := 92, attributes := #[] }] 49 2 #[] #[])
  fields := #[]
  methods := #[k1m0, k1m1, k1m2, k1m3, k1m4, k1m5]
  instanceTypes := #[]
  staticTypes := #[]
  resolved := Array.replicate 97 none
  statics := none }

def pool2 : Array CpInfo := pool [(1, .class_ 2), (0, u "java/io/Serializable"), (0, .class_ 4), (0, u "java/lang/Object")] 2

/-- java/io/Serializable -/
def k2 : Class := { plain "java/io/Serializable" (some 0) with
  accessFlags := 1537
  interfaces := #[]
  cf := some (fileOf pool2 1 #[] #[] 1537 3 #[] #[])
  fields := #[]
  methods := #[]
  instanceTypes := #[]
  staticTypes := #[]
  resolved := Array.replicate 7 none
  statics := none }

def pool3 : Array CpInfo := pool [(1, .class_ 2), (0, u "java/lang/Comparable"), (0, .class_ 4), (0, u "java/lang/Object")] 7

/-- java/lang/Comparable -/
def k3 : Class := { plain "java/lang/Comparable" (some 0) with
  accessFlags := 1537
  interfaces := #[]
  cf := some (fileOf pool3 1 #[] #[] 1537 3 #[] #[])
  fields := #[]
  methods := #[]
  instanceTypes := #[]
  staticTypes := #[]
  resolved := Array.replicate 12 none
  statics := none }

def pool4 : Array CpInfo := pool [(2, .class_ 4), (1, u "java/lang/CharSequence"), (42, .class_ 48), (0, u "java/lang/CharSequence$1CodePointIterator"), (10, .class_ 60), (0, u "java/lang/CharSequence$1CharIterator"), (5, .class_ 67), (0, u "java/lang/Object")] 63

/-- java/lang/CharSequence -/
def k4 : Class := { plain "java/lang/CharSequence" (some 0) with
  accessFlags := 1537
  interfaces := #[]
  cf := some (fileOf pool4 2 #[.nestMembers #[47, 59]] #[] 1537 66 #[] #[])
  fields := #[]
  methods := #[]
  instanceTypes := #[]
  staticTypes := #[]
  resolved := Array.replicate 131 none
  statics := none }

def pool5 : Array CpInfo := pool [(1, .class_ 2), (0, u "java/lang/constant/Constable"), (0, .class_ 4), (0, u "java/lang/Object")] 6

/-- java/lang/constant/Constable -/
def k5 : Class := { plain "java/lang/constant/Constable" (some 0) with
  accessFlags := 1537
  interfaces := #[]
  cf := some (fileOf pool5 1 #[] #[] 1537 3 #[] #[])
  fields := #[]
  methods := #[]
  instanceTypes := #[]
  staticTypes := #[]
  resolved := Array.replicate 11 none
  statics := none }

def pool6 : Array CpInfo := pool [(1, .class_ 2), (0, u "java/lang/constant/ConstantDesc"), (0, .class_ 4), (0, u "java/lang/Object")] 32

/-- java/lang/constant/ConstantDesc -/
def k6 : Class := { plain "java/lang/constant/ConstantDesc" (some 0) with
  accessFlags := 1537
  interfaces := #[]
  cf := some (fileOf pool6 1 #[] #[] 1537 3 #[] #[])
  fields := #[]
  methods := #[]
  instanceTypes := #[]
  staticTypes := #[]
  resolved := Array.replicate 37 none
  statics := none }

def pool7 : Array CpInfo := pool [(1, .methodref 2 3), (0, .class_ 4), (0, .nameAndType 5 6), (0, u "java/lang/Object"), (0, u "<init>"), (0, u "()V"), (0, .string 8), (0, u ""), (0, .fieldref 10 11), (0, .class_ 12), (0, .nameAndType 13 14), (0, u "java/lang/String"), (0, u "value"), (0, u "[B"), (0, .fieldref 10 16), (0, .nameAndType 17 18), (0, u "coder"), (0, u "B"), (2, u "hash"), (0, u "I"), (2, u "hashIsZero"), (0, u "Z"), (0, .methodref 10 28), (0, .nameAndType 5 29), (0, u "([CIILjava/lang/Void;)V"), (8, .fieldref 10 39), (0, .nameAndType 40 26), (0, u "COMPACT_STRINGS"), (1, .class_ 44), (1, u "java/lang/StringUTF16"), (0, u "compress"), (1, .methodref 42 48), (0, .nameAndType 49 50), (0, u "coderFromArrayLen"), (0, u "([BI)B"), (56, .class_ 109), (1, u "java/lang/StringLatin1"), (32, u "()Z"), (34, .methodref 42 178), (0, .nameAndType 45 179), (0, u "([CII)[B"), (154, u "()I"), (0, .methodref 10 336), (0, .nameAndType 17 337), (0, u "()B"), (25, u "([BI)C"), (27, u "(II)V"), (35, u "(I)C"), (64, .methodref 10 493), (0, .nameAndType 494 142), (0, u "isLatin1"), (0, .methodref 107 496), (0, .nameAndType 497 363), (0, u "charAt"), (3, u "checkIndex"), (5, u "length"), (67, .class_ 576), (0, u "java/lang/CharSequence"), (22, u "CASE_INSENSITIVE_ORDER"), (0, u "Ljava/util/Comparator;"), (91, u "isEmpty"), (317, u "([C)V"), (42, .fieldref 1054 1055), (0, .class_ 1056), (0, .nameAndType 1057 1058), (0, u "jdk/internal/util/Preconditions"), (0, u "SIOOBE_FORMATTER"), (0, u "Ljava/util/function/BiFunction;"), (0, .methodref 1054 1060), (0, .nameAndType 501 1061), (0, u "(IILjava/util/function/BiFunction;)I"), (39, u "serialPersistentFields"), (0, u "[Ljava/io/ObjectStreamField;"), (0, .class_ 1104), (0, u "java/lang/String$CaseInsensitiveComparator"), (1, .class_ 1107), (0, u "java/io/Serializable"), (0, .class_ 1109), (0, u "java/lang/Comparable"), (0, .class_ 1111), (0, u "java/lang/constant/Constable"), (0, .class_ 1113), (0, u "java/lang/constant/ConstantDesc"), (2, u "serialVersionUID"), (0, u "J"), (3, u "REPL"), (0, u "C"), (2, u "LATIN1"), (1, u "UTF16")] 323

def k7m0 : Method := { name := "<init>", desc := "()V", sig := { parameters := [], returnType := none }, accessFlags := 1, code := none }
def k7c1 : Code := { maxStack := 5, maxLocals := 2, code := jdk_42_method_3_code, exceptionTable := #[], attributes := #[] }
def k7m1 : Method := { name := "<init>", desc := "([C)V", sig := { parameters := [(.array .char)], returnType := none }, accessFlags := 1, code := some k7c1 }
def k7c2 : Code := { maxStack := 2, maxLocals := 1, code := jdk_42_method_54_code, exceptionTable := #[], attributes := #[] }
def k7m2 : Method := { name := "length", desc := "()I", sig := { parameters := [], returnType := some .int }, accessFlags := 1, code := some k7c2 }
def k7c3 : Code := { maxStack := 1, maxLocals := 1, code := jdk_42_method_55_code, exceptionTable := #[], attributes := #[] }
def k7m3 : Method := { name := "isEmpty", desc := "()Z", sig := { parameters := [], returnType := some .boolean }, accessFlags := 1, code := some k7c3 }
def k7c4 : Code := { maxStack := 2, maxLocals := 2, code := jdk_42_method_56_code, exceptionTable := #[], attributes := #[] }
def k7m4 : Method := { name := "charAt", desc := "(I)C", sig := { parameters := [.int], returnType := some .char }, accessFlags := 1, code := some k7c4 }
def k7c5 : Code := { maxStack := 4, maxLocals := 6, code := jdk_42_method_149_code, exceptionTable := #[], attributes := #[] }
def k7m5 : Method := { name := "<init>", desc := "([CIILjava/lang/Void;)V", sig := { parameters := [(.array .char), .int, .int, (.object "java/lang/Void")], returnType := none }, accessFlags := 2, code := some k7c5 }
def k7c6 : Code := { maxStack := 1, maxLocals := 1, code := jdk_42_method_152_code, exceptionTable := #[], attributes := #[] }
def k7m6 : Method := { name := "coder", desc := "()B", sig := { parameters := [], returnType := some .byte }, accessFlags := 0, code := some k7c6 }
def k7c7 : Code := { maxStack := 1, maxLocals := 1, code := jdk_42_method_154_code, exceptionTable := #[], attributes := #[] }
def k7m7 : Method := { name := "isLatin1", desc := "()Z", sig := { parameters := [], returnType := some .boolean }, accessFlags := 0, code := some k7c7 }
def k7c8 : Code := { maxStack := 3, maxLocals := 2, code := jdk_42_method_155_code, exceptionTable := #[], attributes := #[] }
def k7m8 : Method := { name := "checkIndex", desc := "(II)V", sig := { parameters := [.int, .int], returnType := none }, accessFlags := 8, code := some k7c8 }
/-- java/lang/String -/
def k7 : Class := { plain "java/lang/String" (some 0) with
  accessFlags := 49
  interfaces := #[2, 3, 4, 5, 6]
  cf := some (fileOf pool7 10 #[.nestMembers #[1103]] #[{ accessFlags := 1, nameIndex := 5, descriptorIndex := 6, attributes := #[] }, { accessFlags := 1, nameIndex := 5, descriptorIndex := 1010, attributes := #[] }, { accessFlags := 1, nameIndex := 507, descriptorIndex := 334, attributes := #[] }, { accessFlags := 1, nameIndex := 692, descriptorIndex := 142, attributes := #[] }, { accessFlags := 1, nameIndex := 497, descriptorIndex := 427, attributes := #[] }, { accessFlags := 2, nameIndex := 5, descriptorIndex := 29, attributes := #[] }, { accessFlags := 0, nameIndex := 17, descriptorIndex := 337, attributes := #[] }, { accessFlags := 0, nameIndex := 494, descriptorIndex := 142, attributes := #[] }, { accessFlags := 8, nameIndex := 501, descriptorIndex := 391, attributes := #[] }] 49 2 #[1106, 1108, 575, 1110, 1112] #[{ accessFlags := 18, nameIndex := 13, descriptorIndex := 14, attributes := #[] }, { accessFlags := 18, nameIndex := 17, descriptorIndex := 18, attributes := #[] }, { accessFlags := 2, nameIndex := 21, descriptorIndex := 22, attributes := #[] }, { accessFlags := 2, nameIndex := 25, descriptorIndex := 26, attributes := #[] }, { accessFlags := 26, nameIndex := 1116, descriptorIndex := 1117, attributes := #[] }, { accessFlags := 24, nameIndex := 40, descriptorIndex := 26, attributes := #[] }, { accessFlags := 26, nameIndex := 1101, descriptorIndex := 1102, attributes := #[] }, { accessFlags := 26, nameIndex := 1121, descriptorIndex := 1122, attributes := #[] }, { accessFlags := 25, nameIndex := 599, descriptorIndex := 600, attributes := #[] }, { accessFlags := 24, nameIndex := 1125, descriptorIndex := 18, attributes := #[] }, { accessFlags := 24, nameIndex := 1127, descriptorIndex := 18, attributes := #[] }])
  fields := #[{ name := "value", type := (.array .byte), accessFlags := 18, slot := 0, constantValue := 0 }, { name := "coder", type := .byte, accessFlags := 18, slot := 1, constantValue := 0 }, { name := "hash", type := .int, accessFlags := 2, slot := 2, constantValue := 0 }, { name := "hashIsZero", type := .boolean, accessFlags := 2, slot := 3, constantValue := 0 }, { name := "serialVersionUID", type := .long, accessFlags := 26, slot := 0, constantValue := 0 }, { name := "COMPACT_STRINGS", type := .boolean, accessFlags := 24, slot := 1, constantValue := 0 }, { name := "serialPersistentFields", type := (.array (.object "java/io/ObjectStreamField")), accessFlags := 26, slot := 2, constantValue := 0 }, { name := "REPL", type := .char, accessFlags := 26, slot := 3, constantValue := 0 }, { name := "CASE_INSENSITIVE_ORDER", type := (.object "java/util/Comparator"), accessFlags := 25, slot := 4, constantValue := 0 }, { name := "LATIN1", type := .byte, accessFlags := 24, slot := 5, constantValue := 0 }, { name := "UTF16", type := .byte, accessFlags := 24, slot := 6, constantValue := 0 }]
  methods := #[k7m0, k7m1, k7m2, k7m3, k7m4, k7m5, k7m6, k7m7, k7m8]
  instanceTypes := #[(.array .byte), .byte, .int, .boolean]
  staticTypes := #[.long, .boolean, (.array (.object "java/io/ObjectStreamField")), .char, (.object "java/util/Comparator"), .byte, .byte]
  resolved := Array.replicate 1451 none
  statics := some 0 }

def pool8 : Array CpInfo := pool [(6, .class_ 8), (1, u "java/lang/Object"), (0, u "<init>"), (0, u "()V"), (1, .class_ 14), (1, u "java/lang/StringUTF16"), (31, u "$assertionsDisabled"), (0, u "Z"), (13, u "HI_BYTE_SHIFT"), (0, u "I"), (2, u "LO_BYTE_SHIFT"), (49, .methodref 12 116), (0, .nameAndType 117 118), (0, u "compress"), (0, u "([CI[BII)I"), (3, u "([CII)[B"), (138, u "coderFromArrayLen"), (0, u "([BI)B"), (106, .class_ 371), (1, u "java/lang/StringUTF16$LinesSpliterator"), (58, u "MAX_LENGTH"), (196, .class_ 628), (0, u "java/lang/StringUTF16$CodePointsSpliterator"), (0, .class_ 630), (0, u "java/lang/StringUTF16$CharsSpliterator")] 4

def k8m0 : Method := { name := "<init>", desc := "()V", sig := { parameters := [], returnType := none }, accessFlags := 0, code := none }
def k8c1 : Code := { maxStack := 2, maxLocals := 2, code := jdk_52_method_15_code, exceptionTable := #[], attributes := #[] }
def k8m1 : Method := { name := "coderFromArrayLen", desc := "([BI)B", sig := { parameters := [(.array .byte), .int], returnType := some .byte }, accessFlags := 8, code := some k8c1 }
def k8c2 : Code := { maxStack := 5, maxLocals := 6, code := jdk_52_method_16_code, exceptionTable := #[], attributes := #[] }
def k8m2 : Method := { name := "compress", desc := "([CII)[B", sig := { parameters := [(.array .char), .int, .int], returnType := some (.array .byte) }, accessFlags := 9, code := some k8c2 }
def k8c3 : Code := { maxStack := 3, maxLocals := 7, code := jdk_52_method_21_code, exceptionTable := #[], attributes := #[] }
def k8m3 : Method := { name := "compress", desc := "([CI[BII)I", sig := { parameters := [(.array .char), .int, (.array .byte), .int, .int], returnType := some .int }, accessFlags := 9, code := some k8c3 }
/-- java/lang/StringUTF16 -/
def k8 : Class := { plain "java/lang/StringUTF16" (some 0) with
  accessFlags := 48
  interfaces := #[]
  cf := some (fileOf pool8 12 #[.nestMembers #[627, 629, 369]] #[{ accessFlags := 0, nameIndex := 9, descriptorIndex := 10, attributes := #[] }, { accessFlags := 8, nameIndex := 261, descriptorIndex := 262, attributes := #[] }, { accessFlags := 9, nameIndex := 117, descriptorIndex := 122, attributes := #[] }, { accessFlags := 9, nameIndex := 117, descriptorIndex := 118, attributes := #[] }] 48 6 #[] #[{ accessFlags := 26, nameIndex := 61, descriptorIndex := 62, attributes := #[] }, { accessFlags := 26, nameIndex := 65, descriptorIndex := 62, attributes := #[] }, { accessFlags := 24, nameIndex := 430, descriptorIndex := 62, attributes := #[] }, { accessFlags := 4120, nameIndex := 46, descriptorIndex := 47, attributes := #[] }])
  fields := #[{ name := "HI_BYTE_SHIFT", type := .int, accessFlags := 26, slot := 0, constantValue := 0 }, { name := "LO_BYTE_SHIFT", type := .int, accessFlags := 26, slot := 1, constantValue := 0 }, { name := "MAX_LENGTH", type := .int, accessFlags := 24, slot := 2, constantValue := 0 }, { name := "$assertionsDisabled", type := .boolean, accessFlags := 4120, slot := 3, constantValue := 0 }]
  methods := #[k8m0, k8m1, k8m2, k8m3]
  instanceTypes := #[]
  staticTypes := #[.int, .int, .int, .boolean]
  resolved := Array.replicate 635 none
  statics := none }

def pool9 : Array CpInfo := pool [(2, .class_ 4), (1, u "java/lang/Object"), (0, u "<init>"), (0, u "()V"), (0, .methodref 8 9), (0, .class_ 10), (0, .nameAndType 11 12), (0, u "java/lang/String"), (0, u "isEmpty"), (0, u "()Z"), (0, .methodref 14 15), (0, .class_ 16), (0, .nameAndType 17 18), (0, u "java/util/OptionalLong"), (0, u "empty"), (0, u "()Ljava/util/OptionalLong;"), (0, .methodref 8 20), (0, .nameAndType 21 22), (0, u "length"), (0, u "()I"), (0, .methodref 8 24), (0, .nameAndType 25 26), (0, u "charAt"), (0, u "(I)C"), (2, .long 9223372036854775807), (1, .long 10), (1, .methodref 14 34), (0, .nameAndType 35 36), (0, u "of"), (0, u "(J)Ljava/util/OptionalLong;"), (7, .class_ 46), (1, u "com/example/relent/relent/WholeNumbers"), (0, u "unsigned"), (0, u "(Ljava/lang/String;)Ljava/util/OptionalLong;")] 17

def k9m0 : Method := { name := "<init>", desc := "()V", sig := { parameters := [], returnType := none }, accessFlags := 2, code := none }
def k9c1 : Code := { maxStack := 6, maxLocals := 5, code := prog_40_method_2_code, exceptionTable := #[], attributes := #[] }
def k9m1 : Method := { name := "unsigned", desc := "(Ljava/lang/String;)Ljava/util/OptionalLong;", sig := { parameters := [(.object "java/lang/String")], returnType := some (.object "java/util/OptionalLong") }, accessFlags := 8, code := some k9c1 }
/-- com/example/relent/relent/WholeNumbers -/
def k9 : Class := { plain "com/example/relent/relent/WholeNumbers" (some 0) with
  accessFlags := 48
  interfaces := #[]
  cf := some (fileOf pool9 44 #[] #[{ accessFlags := 2, nameIndex := 5, descriptorIndex := 6, attributes := #[] }, { accessFlags := 8, nameIndex := 47, descriptorIndex := 48, attributes := #[] }] 48 2 #[] #[])
  fields := #[]
  methods := #[k9m0, k9m1]
  instanceTypes := #[]
  staticTypes := #[]
  resolved := Array.replicate 66 none
  statics := none }

def pool10 : Array CpInfo := pool [(1, .class_ 2), (0, u "java/lang/String"), (1, .class_ 6), (1, u "java/lang/Object"), (0, u "<init>"), (0, u "()V"), (0, .methodref 1 10), (0, .nameAndType 11 12), (0, u "checkIndex"), (0, u "(II)V"), (1, .class_ 16), (1, u "java/lang/StringLatin1"), (36, u "([BI)C"), (67, u "$assertionsDisabled"), (0, u "Z"), (98, .class_ 223), (1, u "java/lang/StringLatin1$LinesSpliterator"), (28, u "charAt"), (137, .class_ 391), (0, u "java/lang/StringLatin1$CharsSpliterator")] 3

def k10m0 : Method := { name := "<init>", desc := "()V", sig := { parameters := [], returnType := none }, accessFlags := 0, code := none }
def k10c1 : Code := { maxStack := 2, maxLocals := 2, code := jdk_43_method_2_code, exceptionTable := #[], attributes := #[] }
def k10m1 : Method := { name := "charAt", desc := "([BI)C", sig := { parameters := [(.array .byte), .int], returnType := some .char }, accessFlags := 9, code := some k10c1 }
/-- java/lang/StringLatin1 -/
def k10 : Class := { plain "java/lang/StringLatin1" (some 0) with
  accessFlags := 48
  interfaces := #[]
  cf := some (fileOf pool10 14 #[.nestMembers #[390, 221]] #[{ accessFlags := 0, nameIndex := 7, descriptorIndex := 8, attributes := #[] }, { accessFlags := 9, nameIndex := 252, descriptorIndex := 53, attributes := #[] }] 48 4 #[] #[{ accessFlags := 4120, nameIndex := 121, descriptorIndex := 122, attributes := #[] }])
  fields := #[{ name := "$assertionsDisabled", type := .boolean, accessFlags := 4120, slot := 0, constantValue := 0 }]
  methods := #[k10m0, k10m1]
  instanceTypes := #[]
  staticTypes := #[.boolean]
  resolved := Array.replicate 395 none
  statics := none }

def pool11 : Array CpInfo := pool [(2, .class_ 4), (1, u "java/lang/Object"), (0, u "<init>"), (0, u "()V"), (17, .class_ 26), (1, u "jdk/internal/util/Preconditions"), (6, u "checkIndex"), (21, .class_ 56), (0, u "jdk/internal/util/Preconditions$4"), (57, .class_ 115), (0, u "jdk/internal/util/Preconditions$1"), (7, u "SIOOBE_FORMATTER"), (0, u "Ljava/util/function/BiFunction;"), (0, .class_ 126), (0, u "jdk/internal/util/Preconditions$2"), (3, u "AIOOBE_FORMATTER"), (0, .class_ 132), (0, u "jdk/internal/util/Preconditions$3"), (3, u "IOOBE_FORMATTER"), (41, u "(IILjava/util/function/BiFunction;)I")] 15

def k11m0 : Method := { name := "<init>", desc := "()V", sig := { parameters := [], returnType := none }, accessFlags := 1, code := none }
def k11c1 : Code := { maxStack := 3, maxLocals := 3, code := jdk_41_method_11_code, exceptionTable := #[], attributes := #[] }
def k11m1 : Method := { name := "checkIndex", desc := "(IILjava/util/function/BiFunction;)I", sig := { parameters := [.int, .int, (.object "java/util/function/BiFunction")], returnType := some .int }, accessFlags := 9, code := some k11c1 }
/-- jdk/internal/util/Preconditions -/
def k11 : Class := { plain "jdk/internal/util/Preconditions" (some 0) with
  accessFlags := 33
  interfaces := #[]
  cf := some (fileOf pool11 24 #[.nestMembers #[55, 131, 125, 114]] #[{ accessFlags := 1, nameIndex := 5, descriptorIndex := 6, attributes := #[] }, { accessFlags := 9, nameIndex := 33, descriptorIndex := 178, attributes := #[] }] 33 2 #[] #[{ accessFlags := 25, nameIndex := 123, descriptorIndex := 124, attributes := #[] }, { accessFlags := 25, nameIndex := 130, descriptorIndex := 124, attributes := #[] }, { accessFlags := 25, nameIndex := 136, descriptorIndex := 124, attributes := #[] }])
  fields := #[{ name := "SIOOBE_FORMATTER", type := (.object "java/util/function/BiFunction"), accessFlags := 25, slot := 0, constantValue := 0 }, { name := "AIOOBE_FORMATTER", type := (.object "java/util/function/BiFunction"), accessFlags := 25, slot := 1, constantValue := 0 }, { name := "IOOBE_FORMATTER", type := (.object "java/util/function/BiFunction"), accessFlags := 25, slot := 2, constantValue := 0 }]
  methods := #[k11m0, k11m1]
  instanceTypes := #[]
  staticTypes := #[(.object "java/util/function/BiFunction"), (.object "java/util/function/BiFunction"), (.object "java/util/function/BiFunction")]
  resolved := Array.replicate 194 none
  statics := some 1 }

def pool12 : Array CpInfo := pool [(1, .methodref 2 3), (0, .class_ 4), (0, .nameAndType 5 6), (0, u "java/lang/Object"), (0, u "<init>"), (0, u "()V"), (0, .fieldref 8 9), (0, .class_ 10), (0, .nameAndType 11 12), (0, u "java/util/OptionalLong"), (0, u "isPresent"), (0, u "Z"), (0, .fieldref 8 14), (0, .nameAndType 15 16), (0, u "value"), (0, u "J"), (0, .fieldref 8 18), (0, .nameAndType 19 20), (0, u "EMPTY"), (0, u "Ljava/util/OptionalLong;"), (0, .methodref 8 22), (0, .nameAndType 5 23), (0, u "(J)V"), (21, u "of"), (3, u "empty"), (5, u "getAsLong"), (0, u "()J"), (39, u "()Ljava/util/OptionalLong;"), (0, u "(J)Ljava/util/OptionalLong;"), (1, u "()Z")] 38

def k12m0 : Method := { name := "<init>", desc := "()V", sig := { parameters := [], returnType := none }, accessFlags := 2, code := none }
def k12c1 : Code := { maxStack := 1, maxLocals := 0, code := jdk_2650_method_2_code, exceptionTable := #[], attributes := #[] }
def k12m1 : Method := { name := "empty", desc := "()Ljava/util/OptionalLong;", sig := { parameters := [], returnType := some (.object "java/util/OptionalLong") }, accessFlags := 9, code := some k12c1 }
def k12c2 : Code := { maxStack := 3, maxLocals := 3, code := jdk_2650_method_3_code, exceptionTable := #[], attributes := #[] }
def k12m2 : Method := { name := "<init>", desc := "(J)V", sig := { parameters := [.long], returnType := none }, accessFlags := 2, code := some k12c2 }
def k12c3 : Code := { maxStack := 4, maxLocals := 2, code := jdk_2650_method_4_code, exceptionTable := #[], attributes := #[] }
def k12m3 : Method := { name := "of", desc := "(J)Ljava/util/OptionalLong;", sig := { parameters := [.long], returnType := some (.object "java/util/OptionalLong") }, accessFlags := 9, code := some k12c3 }
def k12c4 : Code := { maxStack := 3, maxLocals := 1, code := jdk_2650_method_5_code, exceptionTable := #[], attributes := #[] }
def k12m4 : Method := { name := "getAsLong", desc := "()J", sig := { parameters := [], returnType := some .long }, accessFlags := 1, code := some k12c4 }
def k12c5 : Code := { maxStack := 1, maxLocals := 1, code := jdk_2650_method_6_code, exceptionTable := #[], attributes := #[] }
def k12m5 : Method := { name := "isPresent", desc := "()Z", sig := { parameters := [], returnType := some .boolean }, accessFlags := 1, code := some k12c5 }
/-- java/util/OptionalLong -/
def k12 : Class := { plain "java/util/OptionalLong" (some 0) with
  accessFlags := 49
  interfaces := #[]
  cf := some (fileOf pool12 8 #[] #[{ accessFlags := 2, nameIndex := 5, descriptorIndex := 6, attributes := #[] }, { accessFlags := 9, nameIndex := 49, descriptorIndex := 96, attributes := #[] }, { accessFlags := 2, nameIndex := 5, descriptorIndex := 23, attributes := #[] }, { accessFlags := 9, nameIndex := 45, descriptorIndex := 97, attributes := #[] }, { accessFlags := 1, nameIndex := 55, descriptorIndex := 56, attributes := #[] }, { accessFlags := 1, nameIndex := 11, descriptorIndex := 99, attributes := #[] }] 49 2 #[] #[{ accessFlags := 26, nameIndex := 19, descriptorIndex := 20, attributes := #[] }, { accessFlags := 18, nameIndex := 11, descriptorIndex := 12, attributes := #[] }, { accessFlags := 18, nameIndex := 15, descriptorIndex := 16, attributes := #[] }])
  fields := #[{ name := "EMPTY", type := (.object "java/util/OptionalLong"), accessFlags := 26, slot := 0, constantValue := 0 }, { name := "isPresent", type := .boolean, accessFlags := 18, slot := 0, constantValue := 0 }, { name := "value", type := .long, accessFlags := 18, slot := 1, constantValue := 0 }]
  methods := #[k12m0, k12m1, k12m2, k12m3, k12m4, k12m5]
  instanceTypes := #[.boolean, .long]
  staticTypes := #[(.object "java/util/OptionalLong")]
  resolved := Array.replicate 138 none
  statics := some 2 }

def pool13 : Array CpInfo := pool [(9, u "<init>"), (6, .class_ 18), (1, u "java/lang/Object"), (0, u "()V"), (1, .class_ 23), (1, u "jdk/internal/util/ArraysSupport"), (0, u "LOG2_ARRAY_LONG_INDEX_SCALE"), (0, u "I"), (2, u "U"), (0, u "Ljdk/internal/misc/Unsafe;"), (8, u "BIG_ENDIAN"), (0, u "Z"), (8, u "LOG2_BYTE_BIT_SIZE"), (4, u "LOG2_ARRAY_INT_INDEX_SCALE"), (54, u "JLA"), (0, u "Ljdk/internal/access/JavaLangAccess;"), (11, u "LOG2_ARRAY_BOOLEAN_INDEX_SCALE"), (9, u "LOG2_ARRAY_BYTE_INDEX_SCALE"), (5, u "LOG2_ARRAY_CHAR_INDEX_SCALE"), (5, u "LOG2_ARRAY_SHORT_INDEX_SCALE"), (18, u "LOG2_ARRAY_FLOAT_INDEX_SCALE"), (24, u "LOG2_ARRAY_DOUBLE_INDEX_SCALE"), (89, u "T_BOOLEAN"), (2, u "T_CHAR"), (1, u "T_FLOAT"), (1, u "T_DOUBLE"), (1, u "T_BYTE"), (1, u "T_SHORT"), (1, u "T_INT"), (1, u "T_LONG"), (1, u "SOFT_MAX_ARRAY_LENGTH")] 83

def k13m0 : Method := { name := "<init>", desc := "()V", sig := { parameters := [], returnType := none }, accessFlags := 2, code := none }
/-- jdk/internal/util/ArraysSupport -/
def k13 : Class := { plain "jdk/internal/util/ArraysSupport" (some 0) with
  accessFlags := 33
  interfaces := #[]
  cf := some (fileOf pool13 21 #[] #[{ accessFlags := 2, nameIndex := 9, descriptorIndex := 19, attributes := #[] }] 33 16 #[] #[{ accessFlags := 24, nameIndex := 28, descriptorIndex := 29, attributes := #[] }, { accessFlags := 26, nameIndex := 38, descriptorIndex := 39, attributes := #[] }, { accessFlags := 25, nameIndex := 121, descriptorIndex := 25, attributes := #[] }, { accessFlags := 25, nameIndex := 131, descriptorIndex := 25, attributes := #[] }, { accessFlags := 25, nameIndex := 137, descriptorIndex := 25, attributes := #[] }, { accessFlags := 25, nameIndex := 143, descriptorIndex := 25, attributes := #[] }, { accessFlags := 25, nameIndex := 53, descriptorIndex := 25, attributes := #[] }, { accessFlags := 25, nameIndex := 24, descriptorIndex := 25, attributes := #[] }, { accessFlags := 25, nameIndex := 162, descriptorIndex := 25, attributes := #[] }, { accessFlags := 25, nameIndex := 187, descriptorIndex := 25, attributes := #[] }, { accessFlags := 26, nameIndex := 48, descriptorIndex := 25, attributes := #[] }, { accessFlags := 25, nameIndex := 277, descriptorIndex := 25, attributes := #[] }, { accessFlags := 25, nameIndex := 280, descriptorIndex := 25, attributes := #[] }, { accessFlags := 25, nameIndex := 282, descriptorIndex := 25, attributes := #[] }, { accessFlags := 25, nameIndex := 284, descriptorIndex := 25, attributes := #[] }, { accessFlags := 25, nameIndex := 286, descriptorIndex := 25, attributes := #[] }, { accessFlags := 25, nameIndex := 288, descriptorIndex := 25, attributes := #[] }, { accessFlags := 25, nameIndex := 290, descriptorIndex := 25, attributes := #[] }, { accessFlags := 25, nameIndex := 292, descriptorIndex := 25, attributes := #[] }, { accessFlags := 26, nameIndex := 108, descriptorIndex := 109, attributes := #[] }, { accessFlags := 25, nameIndex := 294, descriptorIndex := 25, attributes := #[] }])
  fields := #[{ name := "U", type := (.object "jdk/internal/misc/Unsafe"), accessFlags := 24, slot := 0, constantValue := 0 }, { name := "BIG_ENDIAN", type := .boolean, accessFlags := 26, slot := 1, constantValue := 0 }, { name := "LOG2_ARRAY_BOOLEAN_INDEX_SCALE", type := .int, accessFlags := 25, slot := 2, constantValue := 0 }, { name := "LOG2_ARRAY_BYTE_INDEX_SCALE", type := .int, accessFlags := 25, slot := 3, constantValue := 0 }, { name := "LOG2_ARRAY_CHAR_INDEX_SCALE", type := .int, accessFlags := 25, slot := 4, constantValue := 0 }, { name := "LOG2_ARRAY_SHORT_INDEX_SCALE", type := .int, accessFlags := 25, slot := 5, constantValue := 0 }, { name := "LOG2_ARRAY_INT_INDEX_SCALE", type := .int, accessFlags := 25, slot := 6, constantValue := 0 }, { name := "LOG2_ARRAY_LONG_INDEX_SCALE", type := .int, accessFlags := 25, slot := 7, constantValue := 0 }, { name := "LOG2_ARRAY_FLOAT_INDEX_SCALE", type := .int, accessFlags := 25, slot := 8, constantValue := 0 }, { name := "LOG2_ARRAY_DOUBLE_INDEX_SCALE", type := .int, accessFlags := 25, slot := 9, constantValue := 0 }, { name := "LOG2_BYTE_BIT_SIZE", type := .int, accessFlags := 26, slot := 10, constantValue := 0 }, { name := "T_BOOLEAN", type := .int, accessFlags := 25, slot := 11, constantValue := 0 }, { name := "T_CHAR", type := .int, accessFlags := 25, slot := 12, constantValue := 0 }, { name := "T_FLOAT", type := .int, accessFlags := 25, slot := 13, constantValue := 0 }, { name := "T_DOUBLE", type := .int, accessFlags := 25, slot := 14, constantValue := 0 }, { name := "T_BYTE", type := .int, accessFlags := 25, slot := 15, constantValue := 0 }, { name := "T_SHORT", type := .int, accessFlags := 25, slot := 16, constantValue := 0 }, { name := "T_INT", type := .int, accessFlags := 25, slot := 17, constantValue := 0 }, { name := "T_LONG", type := .int, accessFlags := 25, slot := 18, constantValue := 0 }, { name := "JLA", type := (.object "jdk/internal/access/JavaLangAccess"), accessFlags := 26, slot := 19, constantValue := 0 }, { name := "SOFT_MAX_ARRAY_LENGTH", type := .int, accessFlags := 25, slot := 20, constantValue := 0 }]
  methods := #[k13m0]
  instanceTypes := #[]
  staticTypes := #[(.object "jdk/internal/misc/Unsafe"), .boolean, .int, .int, .int, .int, .int, .int, .int, .int, .int, .int, .int, .int, .int, .int, .int, .int, .int, (.object "jdk/internal/access/JavaLangAccess"), .int]
  resolved := Array.replicate 378 none
  statics := none }

def pool14 : Array CpInfo := pool [(1, u "java/lang/Cloneable"), (0, .class_ 1), (0, u "java/lang/Object"), (0, .class_ 3)] 3

/-- java/lang/Cloneable -/
def k14 : Class := { plain "java/lang/Cloneable" (some 0) with
  accessFlags := 1537
  interfaces := #[]
  cf := some (fileOf pool14 2 #[] #[] 1537 4 #[] #[])
  fields := #[]
  methods := #[]
  instanceTypes := #[]
  staticTypes := #[]
  resolved := Array.replicate 8 none
  statics := none }

/-- the primitive byte -/
def k15 : Class := { plain "byte" none with kind := .primitive 'B', accessFlags := 0x411 }
/-- [B -/
def k16 : Class := { plain "[B" (some 0) with kind := .array 15 .byte, interfaces := #[14, 2], accessFlags := 1041 }

/-- the primitive char -/
def k17 : Class := { plain "char" none with kind := .primitive 'C', accessFlags := 0x411 }
/-- [C -/
def k18 : Class := { plain "[C" (some 0) with kind := .array 17 .char, interfaces := #[14, 2], accessFlags := 1041 }

/-- the primitive int -/
def k19 : Class := { plain "int" none with kind := .primitive 'I', accessFlags := 0x411 }
/-- [I -/
def k20 : Class := { plain "[I" (some 0) with kind := .array 19 .int, interfaces := #[14, 2], accessFlags := 1041 }

/-- the primitive long -/
def k21 : Class := { plain "long" none with kind := .primitive 'J', accessFlags := 0x411 }
/-- [J -/
def k22 : Class := { plain "[J" (some 0) with kind := .array 21 .long, interfaces := #[14, 2], accessFlags := 1041 }

def heap : Heap := #[{ cls := 7, slots := #[.long 0, .int 1, .null, .int 0, .null, .int 0, .int 0], vm := .statics 7 },
  { cls := 11, slots := #[.null, .null, .null], vm := .statics 11 },
  { cls := 12, slots := #[.ref 3], vm := .statics 12 },
  { cls := 12, slots := #[.int 0, .long 0], vm := .none }]
def classes : Array Class := #[k0, k1, k2, k3, k4, k5, k6, k7, k8, k9, k10, k11, k12, k13, k14, k15, k16, k17, k18, k19, k20, k21, k22]
def interned : List (Array UInt16 × Addr) := []
def slotsUsed : Nat := 13
def theMethod : MethodId := ⟨1, 5⟩
def args0 : Array Value := #[.long 5, .int 2, .int 2, .int 2, .int 3]
def aboutOver (below : List Frame) : State where
  vm := { classes := classes, interned := interned.toArray }
  heap := heap
  slotsUsed := slotsUsed
  threads := #[{ frames := .invoking theMethod args0 :: below }]
def below0 : List Frame := [.native { method := ⟨0, 0⟩, args := #[] }]
def about1 : State := aboutOver below0
def p0 : Program := .bare "" "" ""
def e0 : Env := launch0.env 0 0 0
theorem w_frames : about1.frames = Frame.invoking theMethod args0 :: below0 := rfl
set_option maxRecDepth 65536 in
theorem w_args : argsFit about1.vm theMethod args0 = true := by decide +kernel
set_option maxRecDepth 65536 in
theorem w_heap : heapFits about1 = true := by decide +kernel
set_option maxRecDepth 65536 in
theorem w_runnable : about1.curStatus? = some .runnable := by decide +kernel
set_option maxRecDepth 65536 in
theorem w_alone : about1.alone = true := by decide +kernel
set_option maxRecDepth 65536 in
theorem w_named : about1.methodNamed? x = some theMethod := by decide +kernel
set_option maxRecDepth 65536 in
theorem w_hears : about1.hears theMethod below0 = true := by decide +kernel
set_option maxRecDepth 65536 in
theorem w_ripe : about1.ripe theMethod args0 below0 = true := by decide +kernel
theorem w_running : about1.status = .running := rfl
set_option maxRecDepth 65536 in
theorem w_room : about1.hasRoom e0.platform room_1 = true :=
  launch0.hasRoom_least _ room_1 (by decide +kernel) (by decide +kernel) (by decide +kernel) (by decide +kernel) (by decide +kernel) (by decide +kernel)
theorem allAtoms_all (ts : List Jvm.Cond) (a : Array Jvm.Value) (st : Jvm.State) : (allAtoms ts).before a st = ts.all (fun c => c.before a st) := by
  induction ts with
  | nil => rfl
  | cons c t ih =>
    show (Jvm.Cond.and c (allAtoms t)).before a st = _
    rw [Jvm.Cond.before_and, ih, List.all_cons]
def words1 : List Jvm.Cond := Jvm.Cond.code x code maxLocals ret :: tables_1
/-- a 'code' word, met by the world's own term for the bytes: nothing is compared byte by byte -/
theorem code_word {y : MethodName} {bytes : ByteArray} {mx : Nat} {rt : Option FieldType} {a : Array Value} {s : State} {m : MethodId} {meth : Method} {c : Code} (h1 : s.methodNamed? y = some m) (h2 : s.vm.method? m = some meth) (h3 : meth.code = some c) (h4 : c.code = bytes)
    (h5 : (c.maxLocals == mx && c.exceptionTable.isEmpty && decide (c.maxStack ≤ mostOperands) && decide (meth.sig.returnType = rt) && !meth.locks && decide (parseMethodDescriptor y.desc = some meth.sig)) = true) : (Jvm.Cond.code y bytes mx rt).before a s = true := by
  simp only [Bool.and_eq_true, beq_iff_eq, Bool.not_eq_true', decide_eq_true_eq] at h5
  obtain ⟨⟨⟨⟨⟨g1, g2⟩, g3⟩, g4⟩, g5⟩, g6⟩ := h5
  simp [Cond.before, Cond.holds, Cond.value, h1, h2, h3, h4, g1, g2, g3, g4, g5, g6]
def isCode : Jvm.Cond → Bool
  | .code _ _ _ _ => true
  | _ => false
theorem all_split {L : List Jvm.Cond} {P : Jvm.Cond → Bool} (h1 : L.all (fun c => isCode c || P c) = true) (h2 : ∀ c ∈ L.filter isCode, P c = true) : L.all P = true := by
  refine List.all_eq_true.mpr fun c hc => ?_
  have h := List.all_eq_true.mp h1 c hc
  rcases Bool.eq_false_or_eq_true (isCode c) with hi | hi
  · exact h2 c (List.mem_filter.mpr ⟨hc, hi⟩)
  · simpa [hi] using h
set_option maxRecDepth 65536 in
theorem w_c0 : (Jvm.Cond.code x code maxLocals ret).before args0 about1 = true := code_word (m := ⟨1, 5⟩) (meth := k1m5) (c := k1c5) (by decide +kernel) rfl rfl rfl (by decide +kernel)
set_option maxRecDepth 65536 in
theorem w_c1 : (Jvm.Cond.code ({ cls := "com/example/relent/relent/WholeNumbersUnsignedPinLaw", name := "draw", desc := "(I)C" } : Jvm.MethodName) method_3_code (1 : Nat) (Option.some Jvm.ClassFile.FieldType.char)).before args0 about1 = true := code_word (m := ⟨1, 2⟩) (meth := k1m2) (c := k1c2) (by decide +kernel) rfl rfl rfl (by decide +kernel)
set_option maxRecDepth 65536 in
theorem w_c2 : (Jvm.Cond.code ({ cls := "com/example/relent/relent/WholeNumbersUnsignedPinLaw", name := "pow10", desc := "(I)J" } : Jvm.MethodName) method_2_code (2 : Nat) (Option.some Jvm.ClassFile.FieldType.long)).before args0 about1 = true := code_word (m := ⟨1, 1⟩) (meth := k1m1) (c := k1c1) (by decide +kernel) rfl rfl rfl (by decide +kernel)
set_option maxRecDepth 65536 in
theorem w_c3 : (Jvm.Cond.code ({ cls := "com/example/relent/relent/WholeNumbersUnsignedPinLaw", name := "at", desc := "(IICCCIJ)C" } : Jvm.MethodName) method_5_code (8 : Nat) (Option.some Jvm.ClassFile.FieldType.char)).before args0 about1 = true := code_word (m := ⟨1, 4⟩) (meth := k1m4) (c := k1c4) (by decide +kernel) rfl rfl rfl (by decide +kernel)
set_option maxRecDepth 65536 in
theorem w_c4 : (Jvm.Cond.code ({ cls := "java/lang/String", name := "<init>", desc := "([C)V" } : Jvm.MethodName) jdk_42_method_3_code (2 : Nat) (Option.none : Option Jvm.ClassFile.FieldType)).before args0 about1 = true := code_word (m := ⟨7, 1⟩) (meth := k7m1) (c := k7c1) (by decide +kernel) rfl rfl rfl (by decide +kernel)
set_option maxRecDepth 65536 in
theorem w_c5 : (Jvm.Cond.code ({ cls := "java/lang/String", name := "<init>", desc := "([CIILjava/lang/Void;)V" } : Jvm.MethodName) jdk_42_method_149_code (6 : Nat) (Option.none : Option Jvm.ClassFile.FieldType)).before args0 about1 = true := code_word (m := ⟨7, 5⟩) (meth := k7m5) (c := k7c5) (by decide +kernel) rfl rfl rfl (by decide +kernel)
set_option maxRecDepth 65536 in
theorem w_c6 : (Jvm.Cond.code ({ cls := "java/lang/Object", name := "<init>", desc := "()V" } : Jvm.MethodName) object_method_1_code (1 : Nat) (Option.none : Option Jvm.ClassFile.FieldType)).before args0 about1 = true := code_word (m := ⟨0, 0⟩) (meth := k0m0) (c := k0c0) (by decide +kernel) rfl rfl rfl (by decide +kernel)
set_option maxRecDepth 65536 in
theorem w_c7 : (Jvm.Cond.code ({ cls := "java/lang/StringUTF16", name := "compress", desc := "([CII)[B" } : Jvm.MethodName) jdk_52_method_16_code (6 : Nat) (Option.some (Jvm.ClassFile.FieldType.array Jvm.ClassFile.FieldType.byte))).before args0 about1 = true := code_word (m := ⟨8, 2⟩) (meth := k8m2) (c := k8c2) (by decide +kernel) rfl rfl rfl (by decide +kernel)
set_option maxRecDepth 65536 in
theorem w_c8 : (Jvm.Cond.code ({ cls := "java/lang/StringUTF16", name := "compress", desc := "([CI[BII)I" } : Jvm.MethodName) jdk_52_method_21_code (7 : Nat) (Option.some Jvm.ClassFile.FieldType.int)).before args0 about1 = true := code_word (m := ⟨8, 3⟩) (meth := k8m3) (c := k8c3) (by decide +kernel) rfl rfl rfl (by decide +kernel)
set_option maxRecDepth 65536 in
theorem w_c9 : (Jvm.Cond.code ({ cls := "java/lang/StringUTF16", name := "coderFromArrayLen", desc := "([BI)B" } : Jvm.MethodName) jdk_52_method_15_code (2 : Nat) (Option.some Jvm.ClassFile.FieldType.byte)).before args0 about1 = true := code_word (m := ⟨8, 1⟩) (meth := k8m1) (c := k8c1) (by decide +kernel) rfl rfl rfl (by decide +kernel)
set_option maxRecDepth 65536 in
theorem w_c10 : (Jvm.Cond.code ({ cls := "com/example/relent/relent/WholeNumbers", name := "unsigned", desc := "(Ljava/lang/String;)Ljava/util/OptionalLong;" } : Jvm.MethodName) prog_40_method_2_code (5 : Nat) (Option.some (Jvm.ClassFile.FieldType.object "java/util/OptionalLong"))).before args0 about1 = true := code_word (m := ⟨9, 1⟩) (meth := k9m1) (c := k9c1) (by decide +kernel) rfl rfl rfl (by decide +kernel)
set_option maxRecDepth 65536 in
theorem w_c11 : (Jvm.Cond.code ({ cls := "java/lang/String", name := "isEmpty", desc := "()Z" } : Jvm.MethodName) jdk_42_method_55_code (1 : Nat) (Option.some Jvm.ClassFile.FieldType.boolean)).before args0 about1 = true := code_word (m := ⟨7, 3⟩) (meth := k7m3) (c := k7c3) (by decide +kernel) rfl rfl rfl (by decide +kernel)
set_option maxRecDepth 65536 in
theorem w_c12 : (Jvm.Cond.code ({ cls := "java/lang/String", name := "length", desc := "()I" } : Jvm.MethodName) jdk_42_method_54_code (1 : Nat) (Option.some Jvm.ClassFile.FieldType.int)).before args0 about1 = true := code_word (m := ⟨7, 2⟩) (meth := k7m2) (c := k7c2) (by decide +kernel) rfl rfl rfl (by decide +kernel)
set_option maxRecDepth 65536 in
theorem w_c13 : (Jvm.Cond.code ({ cls := "java/lang/String", name := "coder", desc := "()B" } : Jvm.MethodName) jdk_42_method_152_code (1 : Nat) (Option.some Jvm.ClassFile.FieldType.byte)).before args0 about1 = true := code_word (m := ⟨7, 6⟩) (meth := k7m6) (c := k7c6) (by decide +kernel) rfl rfl rfl (by decide +kernel)
set_option maxRecDepth 65536 in
theorem w_c14 : (Jvm.Cond.code ({ cls := "java/lang/String", name := "charAt", desc := "(I)C" } : Jvm.MethodName) jdk_42_method_56_code (2 : Nat) (Option.some Jvm.ClassFile.FieldType.char)).before args0 about1 = true := code_word (m := ⟨7, 4⟩) (meth := k7m4) (c := k7c4) (by decide +kernel) rfl rfl rfl (by decide +kernel)
set_option maxRecDepth 65536 in
theorem w_c15 : (Jvm.Cond.code ({ cls := "java/lang/String", name := "isLatin1", desc := "()Z" } : Jvm.MethodName) jdk_42_method_154_code (1 : Nat) (Option.some Jvm.ClassFile.FieldType.boolean)).before args0 about1 = true := code_word (m := ⟨7, 7⟩) (meth := k7m7) (c := k7c7) (by decide +kernel) rfl rfl rfl (by decide +kernel)
set_option maxRecDepth 65536 in
theorem w_c16 : (Jvm.Cond.code ({ cls := "java/lang/StringLatin1", name := "charAt", desc := "([BI)C" } : Jvm.MethodName) jdk_43_method_2_code (2 : Nat) (Option.some Jvm.ClassFile.FieldType.char)).before args0 about1 = true := code_word (m := ⟨10, 1⟩) (meth := k10m1) (c := k10c1) (by decide +kernel) rfl rfl rfl (by decide +kernel)
set_option maxRecDepth 65536 in
theorem w_c17 : (Jvm.Cond.code ({ cls := "java/lang/String", name := "checkIndex", desc := "(II)V" } : Jvm.MethodName) jdk_42_method_155_code (2 : Nat) (Option.none : Option Jvm.ClassFile.FieldType)).before args0 about1 = true := code_word (m := ⟨7, 8⟩) (meth := k7m8) (c := k7c8) (by decide +kernel) rfl rfl rfl (by decide +kernel)
set_option maxRecDepth 65536 in
theorem w_c18 : (Jvm.Cond.code ({ cls := "jdk/internal/util/Preconditions", name := "checkIndex", desc := "(IILjava/util/function/BiFunction;)I" } : Jvm.MethodName) jdk_41_method_11_code (3 : Nat) (Option.some Jvm.ClassFile.FieldType.int)).before args0 about1 = true := code_word (m := ⟨11, 1⟩) (meth := k11m1) (c := k11c1) (by decide +kernel) rfl rfl rfl (by decide +kernel)
set_option maxRecDepth 65536 in
theorem w_c19 : (Jvm.Cond.code ({ cls := "java/util/OptionalLong", name := "of", desc := "(J)Ljava/util/OptionalLong;" } : Jvm.MethodName) jdk_2650_method_4_code (2 : Nat) (Option.some (Jvm.ClassFile.FieldType.object "java/util/OptionalLong"))).before args0 about1 = true := code_word (m := ⟨12, 3⟩) (meth := k12m3) (c := k12c3) (by decide +kernel) rfl rfl rfl (by decide +kernel)
set_option maxRecDepth 65536 in
theorem w_c20 : (Jvm.Cond.code ({ cls := "java/util/OptionalLong", name := "<init>", desc := "(J)V" } : Jvm.MethodName) jdk_2650_method_3_code (3 : Nat) (Option.none : Option Jvm.ClassFile.FieldType)).before args0 about1 = true := code_word (m := ⟨12, 2⟩) (meth := k12m2) (c := k12c2) (by decide +kernel) rfl rfl rfl (by decide +kernel)
set_option maxRecDepth 65536 in
theorem w_c21 : (Jvm.Cond.code ({ cls := "com/example/relent/relent/WholeNumbersUnsignedPinLaw", name := "isDigit", desc := "(C)Z" } : Jvm.MethodName) method_4_code (1 : Nat) (Option.some Jvm.ClassFile.FieldType.boolean)).before args0 about1 = true := code_word (m := ⟨1, 3⟩) (meth := k1m3) (c := k1c3) (by decide +kernel) rfl rfl rfl (by decide +kernel)
set_option maxRecDepth 65536 in
theorem w_c22 : (Jvm.Cond.code ({ cls := "java/util/OptionalLong", name := "isPresent", desc := "()Z" } : Jvm.MethodName) jdk_2650_method_6_code (1 : Nat) (Option.some Jvm.ClassFile.FieldType.boolean)).before args0 about1 = true := code_word (m := ⟨12, 5⟩) (meth := k12m5) (c := k12c5) (by decide +kernel) rfl rfl rfl (by decide +kernel)
set_option maxRecDepth 65536 in
theorem w_c23 : (Jvm.Cond.code ({ cls := "java/util/OptionalLong", name := "getAsLong", desc := "()J" } : Jvm.MethodName) jdk_2650_method_5_code (1 : Nat) (Option.some Jvm.ClassFile.FieldType.long)).before args0 about1 = true := code_word (m := ⟨12, 4⟩) (meth := k12m4) (c := k12c4) (by decide +kernel) rfl rfl rfl (by decide +kernel)
set_option maxRecDepth 65536 in
theorem w_c24 : (Jvm.Cond.code ({ cls := "java/util/OptionalLong", name := "empty", desc := "()Ljava/util/OptionalLong;" } : Jvm.MethodName) jdk_2650_method_2_code (0 : Nat) (Option.some (Jvm.ClassFile.FieldType.object "java/util/OptionalLong"))).before args0 about1 = true := code_word (m := ⟨12, 1⟩) (meth := k12m1) (c := k12c1) (by decide +kernel) rfl rfl rfl (by decide +kernel)
def codes1 : List Jvm.Cond := [Jvm.Cond.code x code maxLocals ret, Jvm.Cond.code ({ cls := "com/example/relent/relent/WholeNumbersUnsignedPinLaw", name := "draw", desc := "(I)C" } : Jvm.MethodName) method_3_code (1 : Nat) (Option.some Jvm.ClassFile.FieldType.char), Jvm.Cond.code ({ cls := "com/example/relent/relent/WholeNumbersUnsignedPinLaw", name := "pow10", desc := "(I)J" } : Jvm.MethodName) method_2_code (2 : Nat) (Option.some Jvm.ClassFile.FieldType.long), Jvm.Cond.code ({ cls := "com/example/relent/relent/WholeNumbersUnsignedPinLaw", name := "at", desc := "(IICCCIJ)C" } : Jvm.MethodName) method_5_code (8 : Nat) (Option.some Jvm.ClassFile.FieldType.char), Jvm.Cond.code ({ cls := "java/lang/String", name := "<init>", desc := "([C)V" } : Jvm.MethodName) jdk_42_method_3_code (2 : Nat) (Option.none : Option Jvm.ClassFile.FieldType), Jvm.Cond.code ({ cls := "java/lang/String", name := "<init>", desc := "([CIILjava/lang/Void;)V" } : Jvm.MethodName) jdk_42_method_149_code (6 : Nat) (Option.none : Option Jvm.ClassFile.FieldType), Jvm.Cond.code ({ cls := "java/lang/Object", name := "<init>", desc := "()V" } : Jvm.MethodName) object_method_1_code (1 : Nat) (Option.none : Option Jvm.ClassFile.FieldType), Jvm.Cond.code ({ cls := "java/lang/StringUTF16", name := "compress", desc := "([CII)[B" } : Jvm.MethodName) jdk_52_method_16_code (6 : Nat) (Option.some (Jvm.ClassFile.FieldType.array Jvm.ClassFile.FieldType.byte)), Jvm.Cond.code ({ cls := "java/lang/StringUTF16", name := "compress", desc := "([CI[BII)I" } : Jvm.MethodName) jdk_52_method_21_code (7 : Nat) (Option.some Jvm.ClassFile.FieldType.int), Jvm.Cond.code ({ cls := "java/lang/StringUTF16", name := "coderFromArrayLen", desc := "([BI)B" } : Jvm.MethodName) jdk_52_method_15_code (2 : Nat) (Option.some Jvm.ClassFile.FieldType.byte), Jvm.Cond.code ({ cls := "com/example/relent/relent/WholeNumbers", name := "unsigned", desc := "(Ljava/lang/String;)Ljava/util/OptionalLong;" } : Jvm.MethodName) prog_40_method_2_code (5 : Nat) (Option.some (Jvm.ClassFile.FieldType.object "java/util/OptionalLong")), Jvm.Cond.code ({ cls := "java/lang/String", name := "isEmpty", desc := "()Z" } : Jvm.MethodName) jdk_42_method_55_code (1 : Nat) (Option.some Jvm.ClassFile.FieldType.boolean), Jvm.Cond.code ({ cls := "java/lang/String", name := "length", desc := "()I" } : Jvm.MethodName) jdk_42_method_54_code (1 : Nat) (Option.some Jvm.ClassFile.FieldType.int), Jvm.Cond.code ({ cls := "java/lang/String", name := "coder", desc := "()B" } : Jvm.MethodName) jdk_42_method_152_code (1 : Nat) (Option.some Jvm.ClassFile.FieldType.byte), Jvm.Cond.code ({ cls := "java/lang/String", name := "charAt", desc := "(I)C" } : Jvm.MethodName) jdk_42_method_56_code (2 : Nat) (Option.some Jvm.ClassFile.FieldType.char), Jvm.Cond.code ({ cls := "java/lang/String", name := "isLatin1", desc := "()Z" } : Jvm.MethodName) jdk_42_method_154_code (1 : Nat) (Option.some Jvm.ClassFile.FieldType.boolean), Jvm.Cond.code ({ cls := "java/lang/StringLatin1", name := "charAt", desc := "([BI)C" } : Jvm.MethodName) jdk_43_method_2_code (2 : Nat) (Option.some Jvm.ClassFile.FieldType.char), Jvm.Cond.code ({ cls := "java/lang/String", name := "checkIndex", desc := "(II)V" } : Jvm.MethodName) jdk_42_method_155_code (2 : Nat) (Option.none : Option Jvm.ClassFile.FieldType), Jvm.Cond.code ({ cls := "jdk/internal/util/Preconditions", name := "checkIndex", desc := "(IILjava/util/function/BiFunction;)I" } : Jvm.MethodName) jdk_41_method_11_code (3 : Nat) (Option.some Jvm.ClassFile.FieldType.int), Jvm.Cond.code ({ cls := "java/util/OptionalLong", name := "of", desc := "(J)Ljava/util/OptionalLong;" } : Jvm.MethodName) jdk_2650_method_4_code (2 : Nat) (Option.some (Jvm.ClassFile.FieldType.object "java/util/OptionalLong")), Jvm.Cond.code ({ cls := "java/util/OptionalLong", name := "<init>", desc := "(J)V" } : Jvm.MethodName) jdk_2650_method_3_code (3 : Nat) (Option.none : Option Jvm.ClassFile.FieldType), Jvm.Cond.code ({ cls := "com/example/relent/relent/WholeNumbersUnsignedPinLaw", name := "isDigit", desc := "(C)Z" } : Jvm.MethodName) method_4_code (1 : Nat) (Option.some Jvm.ClassFile.FieldType.boolean), Jvm.Cond.code ({ cls := "java/util/OptionalLong", name := "isPresent", desc := "()Z" } : Jvm.MethodName) jdk_2650_method_6_code (1 : Nat) (Option.some Jvm.ClassFile.FieldType.boolean), Jvm.Cond.code ({ cls := "java/util/OptionalLong", name := "getAsLong", desc := "()J" } : Jvm.MethodName) jdk_2650_method_5_code (1 : Nat) (Option.some Jvm.ClassFile.FieldType.long), Jvm.Cond.code ({ cls := "java/util/OptionalLong", name := "empty", desc := "()Ljava/util/OptionalLong;" } : Jvm.MethodName) jdk_2650_method_2_code (0 : Nat) (Option.some (Jvm.ClassFile.FieldType.object "java/util/OptionalLong"))]
set_option maxRecDepth 65536 in
theorem codes_eq : words1.filter isCode = codes1 := rfl
theorem w_codes : ∀ c ∈ words1.filter isCode, c.before args0 about1 = true := by
  rw [codes_eq]
  intro c hc
  simp only [codes1, List.mem_cons, List.not_mem_nil, or_false] at hc
  rcases hc with rfl | rfl | rfl | rfl | rfl | rfl | rfl | rfl | rfl | rfl | rfl | rfl | rfl | rfl | rfl | rfl | rfl | rfl | rfl | rfl | rfl | rfl | rfl | rfl | rfl
  · exact w_c0
  · exact w_c1
  · exact w_c2
  · exact w_c3
  · exact w_c4
  · exact w_c5
  · exact w_c6
  · exact w_c7
  · exact w_c8
  · exact w_c9
  · exact w_c10
  · exact w_c11
  · exact w_c12
  · exact w_c13
  · exact w_c14
  · exact w_c15
  · exact w_c16
  · exact w_c17
  · exact w_c18
  · exact w_c19
  · exact w_c20
  · exact w_c21
  · exact w_c22
  · exact w_c23
  · exact w_c24
set_option maxRecDepth 65536 in
theorem w_t1 : (words1.take 24).all (fun c => isCode c || c.before args0 about1) = true := by decide +kernel
set_option maxRecDepth 65536 in
theorem w_t2 : ((words1.drop 24).take 24).all (fun c => isCode c || c.before args0 about1) = true := by decide +kernel
set_option maxRecDepth 65536 in
theorem w_t3 : (((words1.drop 24).drop 24).take 24).all (fun c => isCode c || c.before args0 about1) = true := by decide +kernel
set_option maxRecDepth 65536 in
theorem w_t4 : ((((words1.drop 24).drop 24).drop 24).take 24).all (fun c => isCode c || c.before args0 about1) = true := by decide +kernel
set_option maxRecDepth 65536 in
theorem w_t5 : (((((words1.drop 24).drop 24).drop 24).drop 24).take 24).all (fun c => isCode c || c.before args0 about1) = true := by decide +kernel
set_option maxRecDepth 65536 in
theorem w_t6 : (((((words1.drop 24).drop 24).drop 24).drop 24).drop 24).all (fun c => isCode c || c.before args0 about1) = true := by decide +kernel
theorem w_tables : (allAtoms (Jvm.Cond.code x code maxLocals ret :: tables_1)).before args0 about1 = true := by
  rw [allAtoms_all]
  show words1.all (fun c => c.before args0 about1) = true
  refine all_split ?_ w_codes
  rw [← List.take_append_drop 24 words1, List.all_append, w_t1, ← List.take_append_drop 24 (words1.drop 24), List.all_append, w_t2, ← List.take_append_drop 24 ((words1.drop 24).drop 24), List.all_append, w_t3, ← List.take_append_drop 24 (((words1.drop 24).drop 24).drop 24), List.all_append, w_t4, ← List.take_append_drop 24 ((((words1.drop 24).drop 24).drop 24).drop 24), List.all_append, w_t5, w_t6]
  rfl
set_option maxRecDepth 65536 in
theorem w_rest : rest_1_c.before args0 about1 = true := by decide +kernel
set_option maxRecDepth 65536 in
theorem w_case : (Jvm.Cond.and given_1 narrow_1).before args0 about1 = true := by decide +kernel
set_option maxRecDepth 65536 in
theorem w_consts : constsHeld consts_1 about1 := Jvm.Lit.constsHeldB_iff.mp (by decide +kernel)
theorem w_applies : (headSpec (Jvm.Cond.code x code maxLocals ret :: tables_1) room_1).applies x e0.platform about1 = true :=
  (Spec.applies_iff w_frames).mpr ⟨w_running, w_runnable, w_alone, w_named, w_hears, w_ripe, w_room, w_tables⟩
theorem atStart : AtStart classFile x code maxLocals ret World_1 tables_1 room_1 Calls_1 rest_1 Pre_1 launch0 p0 e0 about1 theMethod args0 below0 :=
  ⟨lists_1, trivial, launch0.admits_env _ _ _, launch0.least_env, fairChoices_fair.cas, fairChoices_fair.clock, w_frames, w_args, w_heap, w_applies, ⟨w_consts, trivial⟩, w_rest, w_case⟩
end start1
theorem witness_1 : WitnessClaimed_1 := ⟨start1.p0, start1.e0, start1.about1, start1.theMethod, start1.args0, start1.below0, start1.atStart⟩
end Jvm.Pilot.@@N@@
