import JvmDerived
import JvmDerived.Pilot.@@N@@Statement
import JvmDerived.Pilot.@@N@@Code
set_option linter.unusedVariables false
set_option linter.unusedSimpArgs false
namespace Jvm.Pilot.@@N@@
open Jvm Jvm.ClassFile Sem Op Lib Jvm.Free Jvm.Stand Jvm.LawKit Jvm.RoadKit Bundle Jvm.Pilot.@@N@@.Jvm.D
section Own
variable {p : Program} {l : Launch} {e : Env} {R : Room} {s : State} {m : MethodId} {args : Array Value} {below : List Frame} {meth : Method} {c : Code} {T : State} {locs : List Loc} {cells slots : Nat} {Z : State} {h h' : Heap} {a b : Addr} {n k : Nat}
/-- a function with one place turned -/
def owUp {α : Type} (f : Nat → α) (k : Nat) (v : α) : Nat → α := fun i => if i = k then v else f i
theorem owUp_at {α : Type} {f : Nat → α} {k : Nat} {v : α} : owUp f k v k = v := if_pos rfl
theorem owUp_ne {α : Type} {f : Nat → α} {k i : Nat} {v : α} (q : i ≠ k) : owUp f k v i = f i := if_neg q
theorem owUpP {α : Type} {P : α → Prop} {f : Nat → α} {k : Nat} {v : α} (hf : ∀ i, P (f i)) (hv : P v) : ∀ i, P (owUp f k v i) := fun i => by
  by_cases q : i = k
  · rw [q, owUp_at]; exact hv
  · rw [owUp_ne q]; exact hf i
theorem owIdx {j : Int32} {k : Nat} (hj : j.toInt = (k : Int)) : j.toNatClampNeg = k := by
  have q : j.toNatClampNeg = j.toInt.toNat := rfl
  rw [q, hj]; rfl
theorem owIn {j : Int32} {k n sz : Nat} (hj : j.toInt = (k : Int)) (hk : k < n) (hs : sz = n) : ¬ (j < 0 ∨ sz ≤ j.toNatClampNeg) := by
  rw [owIdx hj, Int32.lt_iff_toInt_lt, hj, hs]
  have q : (0 : Int32).toInt = 0 := rfl
  omega
theorem owSlot {cl : Cell} {k i : Nat} {v : Value} (hk : k < cl.slots.size) : (cl.setSlot k v).slots[i]? = if i = k then some v else cl.slots[i]? := by
  by_cases q : i = k
  · subst q; rw [if_pos rfl]; simp [Cell.setSlot, hk]
  · rw [if_neg q]; exact Array.getElem?_setIfInBounds_ne (Ne.symm q)
/-- an array of ints (bytes, chars ..) whose components a function tells -/
def owAI (Z : State) (h : Heap) (a : Addr) (ty : FieldType) (n : Nat) (f : Nat → Int32) : Prop := ∃ c : Cell, Arr Z h a c ty ∧ c.slots.size = n ∧ ∀ i, i < n → c.slots[i]? = some (.int (f i))
/-- an array of longs -/
def owAJ (Z : State) (h : Heap) (a : Addr) (ty : FieldType) (n : Nat) (f : Nat → Int64) : Prop := ∃ c : Cell, Arr Z h a c ty ∧ c.slots.size = n ∧ ∀ i, i < n → c.slots[i]? = some (.long (f i))
theorem owAI.lt {ty : FieldType} {f : Nat → Int32} (F : owAI Z h a ty n f) : a < h.size := by obtain ⟨c, A, -⟩ := F; exact A.lt
theorem owAI.ext {ty : FieldType} {f : Nat → Int32} (F : owAI Z h a ty n f) (E : Ext h h') : owAI Z h' a ty n f := by obtain ⟨c, A, r⟩ := F; exact ⟨c, A.ext E, r⟩
theorem owAI.other {ty : FieldType} {f : Nat → Int32} {sl : Nat} {v : Value} (F : owAI Z h b ty n f) (W : Wr h h' a sl v) (q : b ≠ a) : owAI Z h' b ty n f := by obtain ⟨c, A, r⟩ := F; exact ⟨c, A.other W q, r⟩
theorem owAI.keep {ty : FieldType} {f : Nat → Int32} {ws : List Addr} (F : owAI Z h a ty n f) (K : Keep h h' ws) (q : a ∉ ws) : owAI Z h' a ty n f := by obtain ⟨c, A, r⟩ := F; exact ⟨c, ⟨K.2.1 a c A.1 q, A.2⟩, r⟩
theorem owAJ.lt {ty : FieldType} {f : Nat → Int64} (F : owAJ Z h a ty n f) : a < h.size := by obtain ⟨c, A, -⟩ := F; exact A.lt
theorem owAJ.ext {ty : FieldType} {f : Nat → Int64} (F : owAJ Z h a ty n f) (E : Ext h h') : owAJ Z h' a ty n f := by obtain ⟨c, A, r⟩ := F; exact ⟨c, A.ext E, r⟩
theorem owAJ.other {ty : FieldType} {f : Nat → Int64} {sl : Nat} {v : Value} (F : owAJ Z h b ty n f) (W : Wr h h' a sl v) (q : b ≠ a) : owAJ Z h' b ty n f := by obtain ⟨c, A, r⟩ := F; exact ⟨c, A.other W q, r⟩
theorem owAJ.keep {ty : FieldType} {f : Nat → Int64} {ws : List Addr} (F : owAJ Z h a ty n f) (K : Keep h h' ws) (q : a ∉ ws) : owAJ Z h' a ty n f := by obtain ⟨c, A, r⟩ := F; exact ⟨c, ⟨K.2.1 a c A.1 q, A.2⟩, r⟩
theorem owAI.new {ty : FieldType} {k : ClassId} {z : Int32} (A : Arr Z h a (newA k ty z) ty) (hz : z.toInt = (n : Int)) (hd : defaultValue ty = .int 0) : owAI Z h a ty n (fun _ => 0) :=
  ⟨_, A, by rw [sz_new]; exact owIdx hz, fun i hi => by rw [← hd]; simp [newA, owIdx hz, hi]⟩
theorem owAJ.new {ty : FieldType} {k : ClassId} {z : Int32} (A : Arr Z h a (newA k ty z) ty) (hz : z.toInt = (n : Int)) (hd : defaultValue ty = .long 0) : owAJ Z h a ty n (fun _ => 0) :=
  ⟨_, A, by rw [sz_new]; exact owIdx hz, fun i hi => by rw [← hd]; simp [newA, owIdx hz, hi]⟩
theorem owAI.to {ty : FieldType} {f g : Nat → Int32} (F : owAI Z h a ty n f) (q : ∀ i, i < n → f i = g i) : owAI Z h a ty n g := by
  obtain ⟨c, A, S, H⟩ := F; exact ⟨c, A, S, fun i hi => by rw [H i hi, q i hi]⟩
theorem owAJ.to {ty : FieldType} {f g : Nat → Int64} (F : owAJ Z h a ty n f) (q : ∀ i, i < n → f i = g i) : owAJ Z h a ty n g := by
  obtain ⟨c, A, S, H⟩ := F; exact ⟨c, A, S, fun i hi => by rw [H i hi, q i hi]⟩
theorem owLdB (X : Stand p l e R s m args below meth c T locs cells slots) (hx : p.tables.exec = Jvm.exec) (hZ : Z.Warmed39 s.vm) (eT : T.heap = h) {f : Nat → Int32} (A : owAI Z h a .byte n f) {j : Int32} (hj : j.toInt = (k : Int)) (hk : k < n) {g : JFrame} (hg : g.method = m) {rest : List Value} (hs : g.stack = .int j :: .ref a :: rest) (hd : decode c.code g.pc = .ok (.baload, 1)) (target : State) (kt : Steps p.tables e below (T.setTop { g with pc := g.pc + 1, stack := .int (f k) :: rest }) target) : Steps p.tables e below (T.setTop g) target := by
  obtain ⟨cl, Ar, S, H⟩ := A
  exact X.baloadBytes hx (by rw [eT]; exact Ar.1) (State.isArrayOf_alike hZ.alike Ar.2.1) Ar.2.2 (owIn hj hk S) (by rw [owIdx hj]; exact H k hk) hg hs hd target kt
theorem owLdC (X : Stand p l e R s m args below meth c T locs cells slots) (hx : p.tables.exec = Jvm.exec) (hZ : Z.Warmed39 s.vm) (eT : T.heap = h) {f : Nat → Int32} (A : owAI Z h a .char n f) {j : Int32} (hj : j.toInt = (k : Int)) (hk : k < n) {g : JFrame} (hg : g.method = m) {rest : List Value} (hs : g.stack = .int j :: .ref a :: rest) (hd : decode c.code g.pc = .ok (.caload, 1)) (target : State) (kt : Steps p.tables e below (T.setTop { g with pc := g.pc + 1, stack := .int (f k) :: rest }) target) : Steps p.tables e below (T.setTop g) target := by
  obtain ⟨cl, Ar, S, H⟩ := A
  exact X.caload hx (by rw [eT]; exact Ar.1) (State.isArrayOf_alike hZ.alike Ar.2.1) Ar.2.2 (owIn hj hk S) (by rw [owIdx hj]; exact H k hk) hg hs hd target kt
theorem owLdI (X : Stand p l e R s m args below meth c T locs cells slots) (hx : p.tables.exec = Jvm.exec) (hZ : Z.Warmed39 s.vm) (eT : T.heap = h) {f : Nat → Int32} (A : owAI Z h a .int n f) {j : Int32} (hj : j.toInt = (k : Int)) (hk : k < n) {g : JFrame} (hg : g.method = m) {rest : List Value} (hs : g.stack = .int j :: .ref a :: rest) (hd : decode c.code g.pc = .ok (.iaload, 1)) (target : State) (kt : Steps p.tables e below (T.setTop { g with pc := g.pc + 1, stack := .int (f k) :: rest }) target) : Steps p.tables e below (T.setTop g) target := by
  obtain ⟨cl, Ar, S, H⟩ := A
  exact X.iaload hx (by rw [eT]; exact Ar.1) (State.isArrayOf_alike hZ.alike Ar.2.1) Ar.2.2 (owIn hj hk S) (by rw [owIdx hj]; exact H k hk) hg hs hd target kt
theorem owLdJ (X : Stand p l e R s m args below meth c T locs cells slots) (hx : p.tables.exec = Jvm.exec) (hZ : Z.Warmed39 s.vm) (eT : T.heap = h) {f : Nat → Int64} (A : owAJ Z h a .long n f) {j : Int32} (hj : j.toInt = (k : Int)) (hk : k < n) {g : JFrame} (hg : g.method = m) {rest : List Value} (hs : g.stack = .int j :: .ref a :: rest) (hd : decode c.code g.pc = .ok (.laload, 1)) (target : State) (kt : Steps p.tables e below (T.setTop { g with pc := g.pc + 1, stack := .long (f k) :: rest }) target) : Steps p.tables e below (T.setTop g) target := by
  obtain ⟨cl, Ar, S, H⟩ := A
  exact X.laload hx (by rw [eT]; exact Ar.1) (State.isArrayOf_alike hZ.alike Ar.2.1) Ar.2.2 (owIn hj hk S) (by rw [owIdx hj]; exact H k hk) hg hs hd target kt
/-- an array of objects -/
def owAR (Z : State) (h : Heap) (a : Addr) (ty : FieldType) (n : Nat) (f : Nat → Addr) : Prop := ∃ c : Cell, Arr Z h a c ty ∧ c.slots.size = n ∧ ∀ i, i < n → c.slots[i]? = some (.ref (f i))
theorem owAR.lt {ty : FieldType} {f : Nat → Addr} (F : owAR Z h a ty n f) : a < h.size := by obtain ⟨c, A, -⟩ := F; exact A.lt
theorem owAR.ext {ty : FieldType} {f : Nat → Addr} (F : owAR Z h a ty n f) (E : Ext h h') : owAR Z h' a ty n f := by obtain ⟨c, A, r⟩ := F; exact ⟨c, A.ext E, r⟩
theorem owAR.other {ty : FieldType} {f : Nat → Addr} {sl : Nat} {v : Value} (F : owAR Z h b ty n f) (W : Wr h h' a sl v) (q : b ≠ a) : owAR Z h' b ty n f := by obtain ⟨c, A, r⟩ := F; exact ⟨c, A.other W q, r⟩
theorem owAR.keep {ty : FieldType} {f : Nat → Addr} {ws : List Addr} (F : owAR Z h a ty n f) (K : Keep h h' ws) (q : a ∉ ws) : owAR Z h' a ty n f := by obtain ⟨c, A, r⟩ := F; exact ⟨c, ⟨K.2.1 a c A.1 q, A.2⟩, r⟩
theorem owLdR (X : Stand p l e R s m args below meth c T locs cells slots) (hx : p.tables.exec = Jvm.exec) (hZ : Z.Warmed39 s.vm) (eT : T.heap = h) {ty : FieldType} {f : Nat → Addr} (A : owAR Z h a ty n f) (hty : ty.isReference = true) {j : Int32} (hj : j.toInt = (k : Int)) (hk : k < n) {g : JFrame} (hg : g.method = m) {rest : List Value} (hs : g.stack = .int j :: .ref a :: rest) (hd : decode c.code g.pc = .ok (.aaload, 1)) (target : State) (kt : Steps p.tables e below (T.setTop { g with pc := g.pc + 1, stack := .ref (f k) :: rest }) target) : Steps p.tables e below (T.setTop g) target := by
  obtain ⟨cl, Ar, S, H⟩ := A
  exact X.aaload hx (by rw [eT]; exact Ar.1) (State.isArrayOf_alike hZ.alike Ar.2.1) hty Ar.2.2 (owIn hj hk S) (by rw [owIdx hj]; exact H k hk) hg hs hd target kt
theorem owLenI (X : Stand p l e R s m args below meth c T locs cells slots) (hx : p.tables.exec = Jvm.exec) (hZ : Z.Warmed39 s.vm) (eT : T.heap = h) {ty : FieldType} {f : Nat → Int32} (A : owAI Z h a ty n f) {z : Int32} (hz : n.toInt32 = z) {g : JFrame} (hg : g.method = m) {rest : List Value} (hs : g.stack = .ref a :: rest) (hd : decode c.code g.pc = .ok (.arraylength, 1)) (target : State) (kt : Steps p.tables e below (T.setTop { g with pc := g.pc + 1, stack := .int z :: rest }) target) : Steps p.tables e below (T.setTop g) target := by
  obtain ⟨cl, Ar, S, H⟩ := A
  exact X.arraylength hx (by rw [eT]; exact Ar.1) (State.isArrayOf_alike hZ.alike Ar.2.1) hg hs hd target (by rw [S, hz]; exact kt)
theorem owLenJ (X : Stand p l e R s m args below meth c T locs cells slots) (hx : p.tables.exec = Jvm.exec) (hZ : Z.Warmed39 s.vm) (eT : T.heap = h) {ty : FieldType} {f : Nat → Int64} (A : owAJ Z h a ty n f) {z : Int32} (hz : n.toInt32 = z) {g : JFrame} (hg : g.method = m) {rest : List Value} (hs : g.stack = .ref a :: rest) (hd : decode c.code g.pc = .ok (.arraylength, 1)) (target : State) (kt : Steps p.tables e below (T.setTop { g with pc := g.pc + 1, stack := .int z :: rest }) target) : Steps p.tables e below (T.setTop g) target := by
  obtain ⟨cl, Ar, S, H⟩ := A
  exact X.arraylength hx (by rw [eT]; exact Ar.1) (State.isArrayOf_alike hZ.alike Ar.2.1) hg hs hd target (by rw [S, hz]; exact kt)
theorem owSetI {ty : FieldType} {f : Nat → Int32} {cl : Cell} {x : Int32} (Ar : Arr Z h a cl ty) (S : cl.slots.size = n) (H : ∀ i, i < n → cl.slots[i]? = some (.int (f i))) (hk : k < n) (W : Wr h h' a k (.int x)) : owAI Z h' a ty n (owUp f k x) :=
  ⟨cl.setSlot k (.int x), Ar.same W, by rw [sz_set]; exact S, fun i hi => by
    rw [owSlot (by omega)]
    by_cases q : i = k
    · rw [if_pos q, q, owUp_at]
    · rw [if_neg q, owUp_ne q]; exact H i hi⟩
theorem owSetJ {ty : FieldType} {f : Nat → Int64} {cl : Cell} {x : Int64} (Ar : Arr Z h a cl ty) (S : cl.slots.size = n) (H : ∀ i, i < n → cl.slots[i]? = some (.long (f i))) (hk : k < n) (W : Wr h h' a k (.long x)) : owAJ Z h' a ty n (owUp f k x) :=
  ⟨cl.setSlot k (.long x), Ar.same W, by rw [sz_set]; exact S, fun i hi => by
    rw [owSlot (by omega)]
    by_cases q : i = k
    · rw [if_pos q, q, owUp_at]
    · rw [if_neg q, owUp_ne q]; exact H i hi⟩
theorem owStB (X : Stand p l e R s m args below meth c T locs cells slots) (hx : p.tables.exec = Jvm.exec) (hZ : Z.Warmed39 s.vm) (eT : T.heap = h) {f : Nat → Int32} (A : owAI Z h a .byte n f) {j x : Int32} (hj : j.toInt = (k : Int)) (hk : k < n) {g : JFrame} (hg : g.method = m) {rest : List Value} (hs : g.stack = .int x :: .int j :: .ref a :: rest) (hd : decode c.code g.pc = .ok (.bastore, 1)) :
    ∃ T' h', Stand p l e R s m args below meth c T' (locs ++ [⟨a, k⟩]) cells slots ∧ T'.heap = h' ∧ Wr h h' a k (.int x.toInt8.toInt32) ∧ owAI Z h' a .byte n (owUp f k x.toInt8.toInt32) ∧ ∀ target, Steps p.tables e below (T'.setTop { g with pc := g.pc + 1, stack := rest }) target → Steps p.tables e below (T.setTop g) target := by
  obtain ⟨cl, Ar, S, H⟩ := A
  have st := stB X hx hZ eT Ar (j := j) (owIn hj hk S) hg hs hd
  rw [owIdx hj] at st
  obtain ⟨T', h', X', e', W, st⟩ := st
  exact ⟨T', h', X', e', W, owSetI Ar S H hk W, st⟩
theorem owStC (X : Stand p l e R s m args below meth c T locs cells slots) (hx : p.tables.exec = Jvm.exec) (hZ : Z.Warmed39 s.vm) (eT : T.heap = h) {f : Nat → Int32} (A : owAI Z h a .char n f) {j x : Int32} (hj : j.toInt = (k : Int)) (hk : k < n) {g : JFrame} (hg : g.method = m) {rest : List Value} (hs : g.stack = .int x :: .int j :: .ref a :: rest) (hd : decode c.code g.pc = .ok (.castore, 1)) :
    ∃ T' h', Stand p l e R s m args below meth c T' (locs ++ [⟨a, k⟩]) cells slots ∧ T'.heap = h' ∧ Wr h h' a k (.int x.toUInt32.toUInt16.toUInt32.toInt32) ∧ owAI Z h' a .char n (owUp f k x.toUInt32.toUInt16.toUInt32.toInt32) ∧ ∀ target, Steps p.tables e below (T'.setTop { g with pc := g.pc + 1, stack := rest }) target → Steps p.tables e below (T.setTop g) target := by
  obtain ⟨cl, Ar, S, H⟩ := A
  have st := stC X hx hZ eT Ar (j := j) (owIn hj hk S) hg hs hd
  rw [owIdx hj] at st
  obtain ⟨T', h', X', e', W, st⟩ := st
  exact ⟨T', h', X', e', W, owSetI Ar S H hk W, st⟩
theorem owStI (X : Stand p l e R s m args below meth c T locs cells slots) (hx : p.tables.exec = Jvm.exec) (hZ : Z.Warmed39 s.vm) (eT : T.heap = h) {f : Nat → Int32} (A : owAI Z h a .int n f) {j x : Int32} (hj : j.toInt = (k : Int)) (hk : k < n) {g : JFrame} (hg : g.method = m) {rest : List Value} (hs : g.stack = .int x :: .int j :: .ref a :: rest) (hd : decode c.code g.pc = .ok (.iastore, 1)) :
    ∃ T' h', Stand p l e R s m args below meth c T' (locs ++ [⟨a, k⟩]) cells slots ∧ T'.heap = h' ∧ Wr h h' a k (.int x) ∧ owAI Z h' a .int n (owUp f k x) ∧ ∀ target, Steps p.tables e below (T'.setTop { g with pc := g.pc + 1, stack := rest }) target → Steps p.tables e below (T.setTop g) target := by
  obtain ⟨cl, Ar, S, H⟩ := A
  have st := stI X hx hZ eT Ar (j := j) (owIn hj hk S) hg hs hd
  rw [owIdx hj] at st
  obtain ⟨T', h', X', e', W, st⟩ := st
  exact ⟨T', h', X', e', W, owSetI Ar S H hk W, st⟩
theorem owStJ (X : Stand p l e R s m args below meth c T locs cells slots) (hx : p.tables.exec = Jvm.exec) (hZ : Z.Warmed39 s.vm) (eT : T.heap = h) {f : Nat → Int64} (A : owAJ Z h a .long n f) {j : Int32} {x : Int64} (hj : j.toInt = (k : Int)) (hk : k < n) {g : JFrame} (hg : g.method = m) {rest : List Value} (hs : g.stack = .long x :: .int j :: .ref a :: rest) (hd : decode c.code g.pc = .ok (.lastore, 1)) :
    ∃ T' h', Stand p l e R s m args below meth c T' (locs ++ [⟨a, k⟩]) cells slots ∧ T'.heap = h' ∧ Wr h h' a k (.long x) ∧ owAJ Z h' a .long n (owUp f k x) ∧ ∀ target, Steps p.tables e below (T'.setTop { g with pc := g.pc + 1, stack := rest }) target → Steps p.tables e below (T.setTop g) target := by
  obtain ⟨cl, Ar, S, H⟩ := A
  have st := stJ X hx hZ eT Ar (j := j) (owIn hj hk S) hg hs hd
  rw [owIdx hj] at st
  obtain ⟨T', h', X', e', W, st⟩ := st
  exact ⟨T', h', X', e', W, owSetJ Ar S H hk W, st⟩
theorem owSel {s : State} {args : Array Value} {y : MethodName} {n : Nat} (hi : (Cond.instantiable y.cls n).before args s = true) (hpriv : s.PrivateAt y) (hinst : (Cond.instanceMethod y).before args s = true) (hy : y.cls ≠ "java/lang/invoke/MethodHandle" ∧ y.cls ≠ "java/lang/invoke/VarHandle") : (Cond.selects y.cls y y).before args s = true := by
  obtain ⟨c, k, h1, h2, -, h4, -⟩ := Cond.instantiable_spec hi
  have h5 : k.isInterface = false := by cases hq : k.isInterface <;> simp_all
  exact selects_self_of_private h1 h2 h5 hpriv hinst hy
theorem owRetI (X : Stand p l e R s m args below meth c T locs cells slots) (hx : p.tables.exec = Jvm.exec) {pc : Nat} {Ls : Array Slot} {z : Int32} (hret : meth.sig.returnType = some .int) (hd : decode c.code pc = .ok (.ireturn, 1)) {fs : List Frame}
    (hl : ∀ (f : JFrame) (acts : List Action), f.method = m → f.locked = none → f.entered = [] → (doReturn e (T.setTop f) acts (some (.int z))).1 = T.setFrames fs) : Steps p.tables e below (T.setTop (mkF m pc Ls [.int z])) (T.setFrames fs) :=
  X.ireturnOut hx hret rfl (Or.inl rfl) hd hl
end Own

def own_kx (v : Int32) : Nat := (v.toInt / 64).toNat
theorem own_kx1 {v : Int32} (h : 0 ≤ v.toInt ∧ v.toInt < 65536) : ((v.toUInt32 >>> ((6 : Int32) &&& 31).toUInt32).toInt32).toInt = (own_kx v : Int) := by
  have h1 := c_iushr v 6 6 (by decide) (by decide)
  rw [h1]; unfold own_kx; omega
theorem own_kx2 {v : Int32} (h : 0 ≤ v.toInt ∧ v.toInt < 65536) : own_kx v < 1024 := by unfold own_kx; omega
theorem own_kd {v w : Int32} (h : 0 ≤ v.toInt ∧ v.toInt < 65536) (hw : w = (v / (64 : Int32))) : w.toInt = (own_kx v : Int) := by
  have h1 := (c_idiv v 64 64 rfl (by decide)).1 h.1
  rw [hw, h1]; unfold own_kx; omega
theorem own_1024 {i : Int32} {k : Nat} (h1 : i.toInt = (k : Int)) (h2 : k + 0 = 1024) : i = (1024 : Int32) := Int32.toInt_inj.mp (by have o : (1024 : Int32).toInt = 1024 := rfl; omega)
theorem own_lt {i : Int32} {k d : Nat} (h1 : i.toInt = (k : Int)) (h2 : k + (d + 1) = 1024) : i < (1024 : Int32) := by
  rw [Int32.lt_iff_toInt_lt]
  have o : (1024 : Int32).toInt = 1024 := rfl
  omega
theorem own_up {i : Int32} {k : Nat} (h : i.toInt = (k : Int)) (h2 : k ≤ 1024) : (i + (1 : Int32)).toInt = ((k + 1 : Nat) : Int) := by
  have q := c_iadd i 1
  have r := rng32 (i + 1)
  have o : (1 : Int32).toInt = 1 := rfl
  omega

theorem d6_0 : decode jdk_35_method_50_code 0 = .ok (.lload_n 0, 1) := by decide +kernel
theorem d6_1 : decode jdk_35_method_50_code 1 = .ok (.lload_n 0, 1) := by decide +kernel
theorem d6_2 : decode jdk_35_method_50_code 2 = .ok (.iconst 1, 1) := by decide +kernel
theorem d6_3 : decode jdk_35_method_50_code 3 = .ok (.lushr, 1) := by decide +kernel
theorem d6_4 : decode jdk_35_method_50_code 4 = .ok (.ldc2_w 314, 3) := by decide +kernel
theorem d6_7 : decode jdk_35_method_50_code 7 = .ok (.land, 1) := by decide +kernel
theorem d6_8 : decode jdk_35_method_50_code 8 = .ok (.lsub, 1) := by decide +kernel
theorem d6_9 : decode jdk_35_method_50_code 9 = .ok (.lstore_n 0, 1) := by decide +kernel
theorem d6_10 : decode jdk_35_method_50_code 10 = .ok (.lload_n 0, 1) := by decide +kernel
theorem d6_11 : decode jdk_35_method_50_code 11 = .ok (.ldc2_w 316, 3) := by decide +kernel
theorem d6_14 : decode jdk_35_method_50_code 14 = .ok (.land, 1) := by decide +kernel
theorem d6_15 : decode jdk_35_method_50_code 15 = .ok (.lload_n 0, 1) := by decide +kernel
theorem d6_16 : decode jdk_35_method_50_code 16 = .ok (.iconst 2, 1) := by decide +kernel
theorem d6_17 : decode jdk_35_method_50_code 17 = .ok (.lushr, 1) := by decide +kernel
theorem d6_18 : decode jdk_35_method_50_code 18 = .ok (.ldc2_w 316, 3) := by decide +kernel
theorem d6_21 : decode jdk_35_method_50_code 21 = .ok (.land, 1) := by decide +kernel
theorem d6_22 : decode jdk_35_method_50_code 22 = .ok (.ladd, 1) := by decide +kernel
theorem d6_23 : decode jdk_35_method_50_code 23 = .ok (.lstore_n 0, 1) := by decide +kernel
theorem d6_24 : decode jdk_35_method_50_code 24 = .ok (.lload_n 0, 1) := by decide +kernel
theorem d6_25 : decode jdk_35_method_50_code 25 = .ok (.lload_n 0, 1) := by decide +kernel
theorem d6_26 : decode jdk_35_method_50_code 26 = .ok (.iconst 4, 1) := by decide +kernel
theorem d6_27 : decode jdk_35_method_50_code 27 = .ok (.lushr, 1) := by decide +kernel
theorem d6_28 : decode jdk_35_method_50_code 28 = .ok (.ladd, 1) := by decide +kernel
theorem d6_29 : decode jdk_35_method_50_code 29 = .ok (.ldc2_w 318, 3) := by decide +kernel
theorem d6_32 : decode jdk_35_method_50_code 32 = .ok (.land, 1) := by decide +kernel
theorem d6_33 : decode jdk_35_method_50_code 33 = .ok (.lstore_n 0, 1) := by decide +kernel
theorem d6_34 : decode jdk_35_method_50_code 34 = .ok (.lload_n 0, 1) := by decide +kernel
theorem d6_35 : decode jdk_35_method_50_code 35 = .ok (.lload_n 0, 1) := by decide +kernel
theorem d6_36 : decode jdk_35_method_50_code 36 = .ok (.bipush 8, 2) := by decide +kernel
theorem d6_38 : decode jdk_35_method_50_code 38 = .ok (.lushr, 1) := by decide +kernel
theorem d6_39 : decode jdk_35_method_50_code 39 = .ok (.ladd, 1) := by decide +kernel
theorem d6_40 : decode jdk_35_method_50_code 40 = .ok (.lstore_n 0, 1) := by decide +kernel
theorem d6_41 : decode jdk_35_method_50_code 41 = .ok (.lload_n 0, 1) := by decide +kernel
theorem d6_42 : decode jdk_35_method_50_code 42 = .ok (.lload_n 0, 1) := by decide +kernel
theorem d6_43 : decode jdk_35_method_50_code 43 = .ok (.bipush 16, 2) := by decide +kernel
theorem d6_45 : decode jdk_35_method_50_code 45 = .ok (.lushr, 1) := by decide +kernel
theorem d6_46 : decode jdk_35_method_50_code 46 = .ok (.ladd, 1) := by decide +kernel
theorem d6_47 : decode jdk_35_method_50_code 47 = .ok (.lstore_n 0, 1) := by decide +kernel
theorem d6_48 : decode jdk_35_method_50_code 48 = .ok (.lload_n 0, 1) := by decide +kernel
theorem d6_49 : decode jdk_35_method_50_code 49 = .ok (.lload_n 0, 1) := by decide +kernel
theorem d6_50 : decode jdk_35_method_50_code 50 = .ok (.bipush 32, 2) := by decide +kernel
theorem d6_52 : decode jdk_35_method_50_code 52 = .ok (.lushr, 1) := by decide +kernel
theorem d6_53 : decode jdk_35_method_50_code 53 = .ok (.ladd, 1) := by decide +kernel
theorem d6_54 : decode jdk_35_method_50_code 54 = .ok (.lstore_n 0, 1) := by decide +kernel
theorem d6_55 : decode jdk_35_method_50_code 55 = .ok (.lload_n 0, 1) := by decide +kernel
theorem d6_56 : decode jdk_35_method_50_code 56 = .ok (.l2i, 1) := by decide +kernel
theorem d6_57 : decode jdk_35_method_50_code 57 = .ok (.bipush 127, 2) := by decide +kernel
theorem d6_59 : decode jdk_35_method_50_code 59 = .ok (.iand, 1) := by decide +kernel
theorem d6_60 : decode jdk_35_method_50_code 60 = .ok (.ireturn, 1) := by decide +kernel
theorem pn_6 : plainName "java/lang/Long" = true := by first | (simp [plainName, overriddenIn]; done) | decide +kernel
theorem ef_6 (m : MethodId) (x0 : Int64) : entryFrame m #[(.long x0)] 2 = mkF m 0 #[.val (.long x0), .second] [] := by first | (simp [entryFrame, mkF, argsToLocals, Value.category]; done) | rfl
def Q6 (Z : State) (q1 : Int64) (h0 : Heap) (n0 : Nat) (v : Option Value) (h : Heap) (L : List Loc) : Prop := ∃ r : Int32, v = some (.int r) ∧ Fr n0 L ∧ h = h0
set_option maxRecDepth 65536 in
set_option maxHeartbeats 40000000 in
theorem rm6 (l : Launch) (Z : State) (a0 : Array Value) (hw : ∀ d ∈ tables_1, d.before a0 Z = true) (ws : List Jvm.Cond) (q1 : Int64) (h0 : Heap) (n0 : Nat) (Z0 : n0 ≤ h0.size) :
    MetFree l (⟨"java/lang/Long", "bitCount", "(J)I"⟩ : MethodName) (head1 (Jvm.Cond.code (⟨"java/lang/Long", "bitCount", "(J)I"⟩ : MethodName) jdk_35_method_50_code 2 (some .int) :: ws) ({ frames := 0, cells := 0, slots := 0, locals := 0 } : Room)) (fun a U => a = #[(.long q1)] ∧ Z.Warmed39 U.vm ∧ U.heap = h0) (fun _ _ _ _ _ => True) (fun _ U o U' => ∃ v L, o = .returned v ∧ Q6 Z q1 h0 n0 v U'.heap L ∧ FrameEnd U o U' L ({ frames := 0, cells := 0, slots := 0, locals := 0 } : Room).cells ({ frames := 0, cells := 0, slots := 0, locals := 0 } : Room).slots) := by
  refine MetFree.of_bodySF (plainFor_of_name pn_6) hisR ?_
  intro p e s m args below meth c s₁ Bd hml0 hP hK
  obtain ⟨rfl, hZ, hh⟩ := hP
  have hx := Bd.exec
  have hby := Bd.bytes
  have hml : c.maxLocals = 2 := hml0
  have hown : s.vm.findClass "java/lang/Long" = some m.cls := findClass_of_methodNamed Bd.named
  have hnm := (name_of_methodNamed Bd.named Bd.method).1
  have X0 : Stand p l e ({ frames := 0, cells := 0, slots := 0, locals := 0 } : Room) s m #[(.long q1)] below meth c s₁ [] 0 0 := Stand.of_body Bd
  have e0 : s₁.heap = h0 := by rw [← hh, Bd.state]; rfl
  have N0 := Fr.nil n0
  have pre0 : ∀ t, Steps p.tables e below (s₁.setTop (mkF m 0 #[.val (.long q1), .second] [])) t → Steps p.tables e below (s₁.setTop (entryFrame m #[(.long q1)] 2)) t := fun t k => castTop (ef_6 m q1) k
  have pre1 : ∀ t, Steps p.tables e below (s₁.setTop (mkF m 9 #[.val (.long q1), .second] [(.long (q1 - (((q1.toUInt64 >>> ((1 : Int32) &&& 0x3f).toInt64.toUInt64).toInt64) &&& (6148914691236517205 : Int64))))])) t → Steps p.tables e below (s₁.setTop (entryFrame m #[(.long q1)] 2)) t := by
    intro t kt
    refine pre0 _ ?_
    show Steps p.tables e below (s₁.setTop (mkF m 0 #[.val (.long q1), .second] [])) _
    refine XS.lloadN X0.here hx rfl (hb hby d6_0) rfl ?_
    show Steps p.tables e below (s₁.setTop (mkF m 1 #[.val (.long q1), .second] [(.long q1)])) _
    refine XS.lloadN X0.here hx rfl (hb hby d6_1) rfl ?_
    show Steps p.tables e below (s₁.setTop (mkF m 2 #[.val (.long q1), .second] [(.long q1), (.long q1)])) _
    refine XS.iconst X0.here hx rfl (hb hby d6_2) ?_
    show Steps p.tables e below (s₁.setTop (mkF m 3 #[.val (.long q1), .second] [(.int (1 : Int32)), (.long q1), (.long q1)])) _
    refine XS.lushr X0.here hx rfl (hb hby d6_3) rfl ?_
    show Steps p.tables e below (s₁.setTop (mkF m 4 #[.val (.long q1), .second] [(.long ((q1.toUInt64 >>> ((1 : Int32) &&& 0x3f).toInt64.toUInt64).toInt64)), (.long q1)])) _
    refine Stand.ldc2J (g := (mkF m 4 #[.val (.long q1), .second] [(.long ((q1.toUInt64 >>> ((1 : Int32) &&& 0x3f).toInt64.toUInt64).toInt64)), (.long q1)])) X0 hx hown (mvT hZ (hw _ (List.mem_of_getElem? (i := 33) rfl))) rfl (hb hby d6_4) ?_
    show Steps p.tables e below (s₁.setTop (mkF m 7 #[.val (.long q1), .second] [(.long (6148914691236517205 : Int64)), (.long ((q1.toUInt64 >>> ((1 : Int32) &&& 0x3f).toInt64.toUInt64).toInt64)), (.long q1)])) _
    refine XS.land X0.here hx rfl (hb hby d6_7) rfl ?_
    show Steps p.tables e below (s₁.setTop (mkF m 8 #[.val (.long q1), .second] [(.long (((q1.toUInt64 >>> ((1 : Int32) &&& 0x3f).toInt64.toUInt64).toInt64) &&& (6148914691236517205 : Int64))), (.long q1)])) _
    refine XS.lsub X0.here hx rfl (hb hby d6_8) rfl ?_
    exact kt
  obtain ⟨c1, h_c1⟩ : ∃ z : Int64, z = (q1 - (((q1.toUInt64 >>> ((1 : Int32) &&& 0x3f).toInt64.toUInt64).toInt64) &&& (6148914691236517205 : Int64))) := ⟨_, rfl⟩
  have pre2 : ∀ t, Steps p.tables e below (s₁.setTop (mkF m 9 #[.val (.long q1), .second] [(.long c1)])) t → Steps p.tables e below (s₁.setTop (entryFrame m #[(.long q1)] 2)) t := by
    intro t kt
    rw [h_c1] at kt
    exact pre1 _ kt
  have pre3 : ∀ t, Steps p.tables e below (s₁.setTop (mkF m 23 #[.val (.long c1), .second] [(.long ((c1 &&& (3689348814741910323 : Int64)) + (((c1.toUInt64 >>> ((2 : Int32) &&& 0x3f).toInt64.toUInt64).toInt64) &&& (3689348814741910323 : Int64))))])) t → Steps p.tables e below (s₁.setTop (entryFrame m #[(.long q1)] 2)) t := by
    intro t kt
    refine pre2 _ ?_
    show Steps p.tables e below (s₁.setTop (mkF m 9 #[.val (.long q1), .second] [(.long c1)])) _
    refine XS.lstoreN X0.here hx rfl (hb hby d6_9) rfl (l' := #[.val (.long c1), .second]) rfl ?_
    show Steps p.tables e below (s₁.setTop (mkF m 10 #[.val (.long c1), .second] [])) _
    refine XS.lloadN X0.here hx rfl (hb hby d6_10) rfl ?_
    show Steps p.tables e below (s₁.setTop (mkF m 11 #[.val (.long c1), .second] [(.long c1)])) _
    refine Stand.ldc2J (g := (mkF m 11 #[.val (.long c1), .second] [(.long c1)])) X0 hx hown (mvT hZ (hw _ (List.mem_of_getElem? (i := 34) rfl))) rfl (hb hby d6_11) ?_
    show Steps p.tables e below (s₁.setTop (mkF m 14 #[.val (.long c1), .second] [(.long (3689348814741910323 : Int64)), (.long c1)])) _
    refine XS.land X0.here hx rfl (hb hby d6_14) rfl ?_
    show Steps p.tables e below (s₁.setTop (mkF m 15 #[.val (.long c1), .second] [(.long (c1 &&& (3689348814741910323 : Int64)))])) _
    refine XS.lloadN X0.here hx rfl (hb hby d6_15) rfl ?_
    show Steps p.tables e below (s₁.setTop (mkF m 16 #[.val (.long c1), .second] [(.long c1), (.long (c1 &&& (3689348814741910323 : Int64)))])) _
    refine XS.iconst X0.here hx rfl (hb hby d6_16) ?_
    show Steps p.tables e below (s₁.setTop (mkF m 17 #[.val (.long c1), .second] [(.int (2 : Int32)), (.long c1), (.long (c1 &&& (3689348814741910323 : Int64)))])) _
    refine XS.lushr X0.here hx rfl (hb hby d6_17) rfl ?_
    show Steps p.tables e below (s₁.setTop (mkF m 18 #[.val (.long c1), .second] [(.long ((c1.toUInt64 >>> ((2 : Int32) &&& 0x3f).toInt64.toUInt64).toInt64)), (.long (c1 &&& (3689348814741910323 : Int64)))])) _
    refine Stand.ldc2J (g := (mkF m 18 #[.val (.long c1), .second] [(.long ((c1.toUInt64 >>> ((2 : Int32) &&& 0x3f).toInt64.toUInt64).toInt64)), (.long (c1 &&& (3689348814741910323 : Int64)))])) X0 hx hown (mvT hZ (hw _ (List.mem_of_getElem? (i := 34) rfl))) rfl (hb hby d6_18) ?_
    show Steps p.tables e below (s₁.setTop (mkF m 21 #[.val (.long c1), .second] [(.long (3689348814741910323 : Int64)), (.long ((c1.toUInt64 >>> ((2 : Int32) &&& 0x3f).toInt64.toUInt64).toInt64)), (.long (c1 &&& (3689348814741910323 : Int64)))])) _
    refine XS.land X0.here hx rfl (hb hby d6_21) rfl ?_
    show Steps p.tables e below (s₁.setTop (mkF m 22 #[.val (.long c1), .second] [(.long (((c1.toUInt64 >>> ((2 : Int32) &&& 0x3f).toInt64.toUInt64).toInt64) &&& (3689348814741910323 : Int64))), (.long (c1 &&& (3689348814741910323 : Int64)))])) _
    refine XS.ladd X0.here hx rfl (hb hby d6_22) rfl ?_
    exact kt
  obtain ⟨c2, h_c2⟩ : ∃ z : Int64, z = ((c1 &&& (3689348814741910323 : Int64)) + (((c1.toUInt64 >>> ((2 : Int32) &&& 0x3f).toInt64.toUInt64).toInt64) &&& (3689348814741910323 : Int64))) := ⟨_, rfl⟩
  have pre4 : ∀ t, Steps p.tables e below (s₁.setTop (mkF m 23 #[.val (.long c1), .second] [(.long c2)])) t → Steps p.tables e below (s₁.setTop (entryFrame m #[(.long q1)] 2)) t := by
    intro t kt
    rw [h_c2] at kt
    exact pre3 _ kt
  have pre5 : ∀ t, Steps p.tables e below (s₁.setTop (mkF m 33 #[.val (.long c2), .second] [(.long ((c2 + ((c2.toUInt64 >>> ((4 : Int32) &&& 0x3f).toInt64.toUInt64).toInt64)) &&& (1085102592571150095 : Int64)))])) t → Steps p.tables e below (s₁.setTop (entryFrame m #[(.long q1)] 2)) t := by
    intro t kt
    refine pre4 _ ?_
    show Steps p.tables e below (s₁.setTop (mkF m 23 #[.val (.long c1), .second] [(.long c2)])) _
    refine XS.lstoreN X0.here hx rfl (hb hby d6_23) rfl (l' := #[.val (.long c2), .second]) rfl ?_
    show Steps p.tables e below (s₁.setTop (mkF m 24 #[.val (.long c2), .second] [])) _
    refine XS.lloadN X0.here hx rfl (hb hby d6_24) rfl ?_
    show Steps p.tables e below (s₁.setTop (mkF m 25 #[.val (.long c2), .second] [(.long c2)])) _
    refine XS.lloadN X0.here hx rfl (hb hby d6_25) rfl ?_
    show Steps p.tables e below (s₁.setTop (mkF m 26 #[.val (.long c2), .second] [(.long c2), (.long c2)])) _
    refine XS.iconst X0.here hx rfl (hb hby d6_26) ?_
    show Steps p.tables e below (s₁.setTop (mkF m 27 #[.val (.long c2), .second] [(.int (4 : Int32)), (.long c2), (.long c2)])) _
    refine XS.lushr X0.here hx rfl (hb hby d6_27) rfl ?_
    show Steps p.tables e below (s₁.setTop (mkF m 28 #[.val (.long c2), .second] [(.long ((c2.toUInt64 >>> ((4 : Int32) &&& 0x3f).toInt64.toUInt64).toInt64)), (.long c2)])) _
    refine XS.ladd X0.here hx rfl (hb hby d6_28) rfl ?_
    show Steps p.tables e below (s₁.setTop (mkF m 29 #[.val (.long c2), .second] [(.long (c2 + ((c2.toUInt64 >>> ((4 : Int32) &&& 0x3f).toInt64.toUInt64).toInt64)))])) _
    refine Stand.ldc2J (g := (mkF m 29 #[.val (.long c2), .second] [(.long (c2 + ((c2.toUInt64 >>> ((4 : Int32) &&& 0x3f).toInt64.toUInt64).toInt64)))])) X0 hx hown (mvT hZ (hw _ (List.mem_of_getElem? (i := 35) rfl))) rfl (hb hby d6_29) ?_
    show Steps p.tables e below (s₁.setTop (mkF m 32 #[.val (.long c2), .second] [(.long (1085102592571150095 : Int64)), (.long (c2 + ((c2.toUInt64 >>> ((4 : Int32) &&& 0x3f).toInt64.toUInt64).toInt64)))])) _
    refine XS.land X0.here hx rfl (hb hby d6_32) rfl ?_
    exact kt
  obtain ⟨c3, h_c3⟩ : ∃ z : Int64, z = ((c2 + ((c2.toUInt64 >>> ((4 : Int32) &&& 0x3f).toInt64.toUInt64).toInt64)) &&& (1085102592571150095 : Int64)) := ⟨_, rfl⟩
  have pre6 : ∀ t, Steps p.tables e below (s₁.setTop (mkF m 33 #[.val (.long c2), .second] [(.long c3)])) t → Steps p.tables e below (s₁.setTop (entryFrame m #[(.long q1)] 2)) t := by
    intro t kt
    rw [h_c3] at kt
    exact pre5 _ kt
  have pre7 : ∀ t, Steps p.tables e below (s₁.setTop (mkF m 40 #[.val (.long c3), .second] [(.long (c3 + ((c3.toUInt64 >>> ((8 : Int32) &&& 0x3f).toInt64.toUInt64).toInt64)))])) t → Steps p.tables e below (s₁.setTop (entryFrame m #[(.long q1)] 2)) t := by
    intro t kt
    refine pre6 _ ?_
    show Steps p.tables e below (s₁.setTop (mkF m 33 #[.val (.long c2), .second] [(.long c3)])) _
    refine XS.lstoreN X0.here hx rfl (hb hby d6_33) rfl (l' := #[.val (.long c3), .second]) rfl ?_
    show Steps p.tables e below (s₁.setTop (mkF m 34 #[.val (.long c3), .second] [])) _
    refine XS.lloadN X0.here hx rfl (hb hby d6_34) rfl ?_
    show Steps p.tables e below (s₁.setTop (mkF m 35 #[.val (.long c3), .second] [(.long c3)])) _
    refine XS.lloadN X0.here hx rfl (hb hby d6_35) rfl ?_
    show Steps p.tables e below (s₁.setTop (mkF m 36 #[.val (.long c3), .second] [(.long c3), (.long c3)])) _
    refine XS.bipush X0.here hx rfl (hb hby d6_36) ?_
    show Steps p.tables e below (s₁.setTop (mkF m 38 #[.val (.long c3), .second] [(.int (8 : Int32)), (.long c3), (.long c3)])) _
    refine XS.lushr X0.here hx rfl (hb hby d6_38) rfl ?_
    show Steps p.tables e below (s₁.setTop (mkF m 39 #[.val (.long c3), .second] [(.long ((c3.toUInt64 >>> ((8 : Int32) &&& 0x3f).toInt64.toUInt64).toInt64)), (.long c3)])) _
    refine XS.ladd X0.here hx rfl (hb hby d6_39) rfl ?_
    exact kt
  obtain ⟨c4, h_c4⟩ : ∃ z : Int64, z = (c3 + ((c3.toUInt64 >>> ((8 : Int32) &&& 0x3f).toInt64.toUInt64).toInt64)) := ⟨_, rfl⟩
  have pre8 : ∀ t, Steps p.tables e below (s₁.setTop (mkF m 40 #[.val (.long c3), .second] [(.long c4)])) t → Steps p.tables e below (s₁.setTop (entryFrame m #[(.long q1)] 2)) t := by
    intro t kt
    rw [h_c4] at kt
    exact pre7 _ kt
  have pre9 : ∀ t, Steps p.tables e below (s₁.setTop (mkF m 47 #[.val (.long c4), .second] [(.long (c4 + ((c4.toUInt64 >>> ((16 : Int32) &&& 0x3f).toInt64.toUInt64).toInt64)))])) t → Steps p.tables e below (s₁.setTop (entryFrame m #[(.long q1)] 2)) t := by
    intro t kt
    refine pre8 _ ?_
    show Steps p.tables e below (s₁.setTop (mkF m 40 #[.val (.long c3), .second] [(.long c4)])) _
    refine XS.lstoreN X0.here hx rfl (hb hby d6_40) rfl (l' := #[.val (.long c4), .second]) rfl ?_
    show Steps p.tables e below (s₁.setTop (mkF m 41 #[.val (.long c4), .second] [])) _
    refine XS.lloadN X0.here hx rfl (hb hby d6_41) rfl ?_
    show Steps p.tables e below (s₁.setTop (mkF m 42 #[.val (.long c4), .second] [(.long c4)])) _
    refine XS.lloadN X0.here hx rfl (hb hby d6_42) rfl ?_
    show Steps p.tables e below (s₁.setTop (mkF m 43 #[.val (.long c4), .second] [(.long c4), (.long c4)])) _
    refine XS.bipush X0.here hx rfl (hb hby d6_43) ?_
    show Steps p.tables e below (s₁.setTop (mkF m 45 #[.val (.long c4), .second] [(.int (16 : Int32)), (.long c4), (.long c4)])) _
    refine XS.lushr X0.here hx rfl (hb hby d6_45) rfl ?_
    show Steps p.tables e below (s₁.setTop (mkF m 46 #[.val (.long c4), .second] [(.long ((c4.toUInt64 >>> ((16 : Int32) &&& 0x3f).toInt64.toUInt64).toInt64)), (.long c4)])) _
    refine XS.ladd X0.here hx rfl (hb hby d6_46) rfl ?_
    exact kt
  obtain ⟨c5, h_c5⟩ : ∃ z : Int64, z = (c4 + ((c4.toUInt64 >>> ((16 : Int32) &&& 0x3f).toInt64.toUInt64).toInt64)) := ⟨_, rfl⟩
  have pre10 : ∀ t, Steps p.tables e below (s₁.setTop (mkF m 47 #[.val (.long c4), .second] [(.long c5)])) t → Steps p.tables e below (s₁.setTop (entryFrame m #[(.long q1)] 2)) t := by
    intro t kt
    rw [h_c5] at kt
    exact pre9 _ kt
  have pre11 : ∀ t, Steps p.tables e below (s₁.setTop (mkF m 54 #[.val (.long c5), .second] [(.long (c5 + ((c5.toUInt64 >>> ((32 : Int32) &&& 0x3f).toInt64.toUInt64).toInt64)))])) t → Steps p.tables e below (s₁.setTop (entryFrame m #[(.long q1)] 2)) t := by
    intro t kt
    refine pre10 _ ?_
    show Steps p.tables e below (s₁.setTop (mkF m 47 #[.val (.long c4), .second] [(.long c5)])) _
    refine XS.lstoreN X0.here hx rfl (hb hby d6_47) rfl (l' := #[.val (.long c5), .second]) rfl ?_
    show Steps p.tables e below (s₁.setTop (mkF m 48 #[.val (.long c5), .second] [])) _
    refine XS.lloadN X0.here hx rfl (hb hby d6_48) rfl ?_
    show Steps p.tables e below (s₁.setTop (mkF m 49 #[.val (.long c5), .second] [(.long c5)])) _
    refine XS.lloadN X0.here hx rfl (hb hby d6_49) rfl ?_
    show Steps p.tables e below (s₁.setTop (mkF m 50 #[.val (.long c5), .second] [(.long c5), (.long c5)])) _
    refine XS.bipush X0.here hx rfl (hb hby d6_50) ?_
    show Steps p.tables e below (s₁.setTop (mkF m 52 #[.val (.long c5), .second] [(.int (32 : Int32)), (.long c5), (.long c5)])) _
    refine XS.lushr X0.here hx rfl (hb hby d6_52) rfl ?_
    show Steps p.tables e below (s₁.setTop (mkF m 53 #[.val (.long c5), .second] [(.long ((c5.toUInt64 >>> ((32 : Int32) &&& 0x3f).toInt64.toUInt64).toInt64)), (.long c5)])) _
    refine XS.ladd X0.here hx rfl (hb hby d6_53) rfl ?_
    exact kt
  obtain ⟨c6, h_c6⟩ : ∃ z : Int64, z = (c5 + ((c5.toUInt64 >>> ((32 : Int32) &&& 0x3f).toInt64.toUInt64).toInt64)) := ⟨_, rfl⟩
  have pre12 : ∀ t, Steps p.tables e below (s₁.setTop (mkF m 54 #[.val (.long c5), .second] [(.long c6)])) t → Steps p.tables e below (s₁.setTop (entryFrame m #[(.long q1)] 2)) t := by
    intro t kt
    rw [h_c6] at kt
    exact pre11 _ kt
  have pre13 : ∀ t, Steps p.tables e below (s₁.setTop (mkF m 60 #[.val (.long c6), .second] [(.int ((c6.toInt32) &&& (127 : Int32)))])) t → Steps p.tables e below (s₁.setTop (entryFrame m #[(.long q1)] 2)) t := by
    intro t kt
    refine pre12 _ ?_
    show Steps p.tables e below (s₁.setTop (mkF m 54 #[.val (.long c5), .second] [(.long c6)])) _
    refine XS.lstoreN X0.here hx rfl (hb hby d6_54) rfl (l' := #[.val (.long c6), .second]) rfl ?_
    show Steps p.tables e below (s₁.setTop (mkF m 55 #[.val (.long c6), .second] [])) _
    refine XS.lloadN X0.here hx rfl (hb hby d6_55) rfl ?_
    show Steps p.tables e below (s₁.setTop (mkF m 56 #[.val (.long c6), .second] [(.long c6)])) _
    refine XS.l2i X0.here hx rfl (hb hby d6_56) rfl ?_
    show Steps p.tables e below (s₁.setTop (mkF m 57 #[.val (.long c6), .second] [(.int (c6.toInt32))])) _
    refine XS.bipush X0.here hx rfl (hb hby d6_57) ?_
    show Steps p.tables e below (s₁.setTop (mkF m 59 #[.val (.long c6), .second] [(.int (127 : Int32)), (.int (c6.toInt32))])) _
    refine XS.iand X0.here hx rfl (hb hby d6_59) rfl ?_
    exact kt
  obtain ⟨fs, hr, hrun, hended, hW, hsame⟩ := X0.leave (v := some (.int ((c6.toInt32) &&& (127 : Int32)))) (fun h => by rw [Bd.returns] at h; cases h)
  refine ⟨_, _, pre13 _ ?_, hrun, hended, _, _, rfl, ?_, ⟨_, rfl⟩, hW, hsame.mono (by decide) (by decide)⟩
  · show Steps p.tables e below (s₁.setTop (mkF m 60 #[.val (.long c6), .second] [(.int ((c6.toInt32) &&& (127 : Int32)))])) _
    exact owRetI X0 hx Bd.returns (hb hby d6_60) hr
  · show Q6 Z q1 h0 n0 _ s₁.heap _
    rw [e0]
    exact ⟨_, rfl, N0, rfl⟩
theorem d7_0 : decode prog_39_method_17_code 0 = .ok (.lload_n 0, 1) := by decide +kernel
theorem d7_1 : decode prog_39_method_17_code 1 = .ok (.lload_n 0, 1) := by decide +kernel
theorem d7_2 : decode prog_39_method_17_code 2 = .ok (.iconst 1, 1) := by decide +kernel
theorem d7_3 : decode prog_39_method_17_code 3 = .ok (.lshl, 1) := by decide +kernel
theorem d7_4 : decode prog_39_method_17_code 4 = .ok (.lload_n 2, 1) := by decide +kernel
theorem d7_5 : decode prog_39_method_17_code 5 = .ok (.lor, 1) := by decide +kernel
theorem d7_6 : decode prog_39_method_17_code 6 = .ok (.ldc2_w 57, 3) := by decide +kernel
theorem d7_9 : decode prog_39_method_17_code 9 = .ok (.lxor, 1) := by decide +kernel
theorem d7_10 : decode prog_39_method_17_code 10 = .ok (.land, 1) := by decide +kernel
theorem d7_11 : decode prog_39_method_17_code 11 = .ok (.invokestatic 51, 3) := by decide +kernel
theorem d7_14 : decode prog_39_method_17_code 14 = .ok (.ireturn, 1) := by decide +kernel
theorem pn_7 : plainName "com/example/bitweight/bitweight/chunk/WordChunk" = true := by first | (simp [plainName, overriddenIn]; done) | decide +kernel
theorem ef_7 (m : MethodId) (x0 : Int64) (x1 : Int64) : entryFrame m #[(.long x0), (.long x1)] 4 = mkF m 0 #[.val (.long x0), .second, .val (.long x1), .second] [] := by first | (simp [entryFrame, mkF, argsToLocals, Value.category]; done) | rfl
theorem pd_0 : parseMethodDescriptor "(J)I" = some ⟨[.long], some .int⟩ := by decide +kernel
def Q7 (Z : State) (q1 : Int64) (q2 : Int64) (h0 : Heap) (n0 : Nat) (v : Option Value) (h : Heap) (L : List Loc) : Prop := ∃ r : Int32, v = some (.int r) ∧ Fr n0 L ∧ h = h0
set_option maxRecDepth 65536 in
set_option maxHeartbeats 40000000 in
theorem rm7 (l : Launch) (Z : State) (a0 : Array Value) (hw : ∀ d ∈ tables_1, d.before a0 Z = true) (ws : List Jvm.Cond) (q1 : Int64) (q2 : Int64) (h0 : Heap) (n0 : Nat) (Z0 : n0 ≤ h0.size) :
    MetFree l (⟨"com/example/bitweight/bitweight/chunk/WordChunk", "runStarts", "(JJ)I"⟩ : MethodName) (head1 (Jvm.Cond.code (⟨"com/example/bitweight/bitweight/chunk/WordChunk", "runStarts", "(JJ)I"⟩ : MethodName) prog_39_method_17_code 4 (some .int) :: ws) ({ frames := 1, cells := 0, slots := 0, locals := 13 } : Room)) (fun a U => a = #[(.long q1), (.long q2)] ∧ Z.Warmed39 U.vm ∧ U.heap = h0) (fun _ _ _ _ _ => True) (fun _ U o U' => ∃ v L, o = .returned v ∧ Q7 Z q1 q2 h0 n0 v U'.heap L ∧ FrameEnd U o U' L ({ frames := 1, cells := 0, slots := 0, locals := 13 } : Room).cells ({ frames := 1, cells := 0, slots := 0, locals := 13 } : Room).slots) := by
  refine MetFree.of_bodySF (plainFor_of_name pn_7) hisR ?_
  intro p e s m args below meth c s₁ Bd hml0 hP hK
  obtain ⟨rfl, hZ, hh⟩ := hP
  have hx := Bd.exec
  have hby := Bd.bytes
  have hml : c.maxLocals = 4 := hml0
  have hown : s.vm.findClass "com/example/bitweight/bitweight/chunk/WordChunk" = some m.cls := findClass_of_methodNamed Bd.named
  have hnm := (name_of_methodNamed Bd.named Bd.method).1
  have X0 : Stand p l e ({ frames := 1, cells := 0, slots := 0, locals := 13 } : Room) s m #[(.long q1), (.long q2)] below meth c s₁ [] 0 0 := Stand.of_body Bd
  have e0 : s₁.heap = h0 := by rw [← hh, Bd.state]; rfl
  have N0 := Fr.nil n0
  have pre0 : ∀ t, Steps p.tables e below (s₁.setTop (mkF m 0 #[.val (.long q1), .second, .val (.long q2), .second] [])) t → Steps p.tables e below (s₁.setTop (entryFrame m #[(.long q1), (.long q2)] 4)) t := fun t k => castTop (ef_7 m q1 q2) k
  have pre1 : ∀ t, Steps p.tables e below (s₁.setTop (mkF m 11 #[.val (.long q1), .second, .val (.long q2), .second] [(.long (q1 &&& (((q1 <<< ((1 : Int32) &&& 0x3f).toInt64) ||| q2) ^^^ (-1 : Int64))))])) t → Steps p.tables e below (s₁.setTop (entryFrame m #[(.long q1), (.long q2)] 4)) t := by
    intro t kt
    refine pre0 _ ?_
    show Steps p.tables e below (s₁.setTop (mkF m 0 #[.val (.long q1), .second, .val (.long q2), .second] [])) _
    refine XS.lloadN X0.here hx rfl (hb hby d7_0) rfl ?_
    show Steps p.tables e below (s₁.setTop (mkF m 1 #[.val (.long q1), .second, .val (.long q2), .second] [(.long q1)])) _
    refine XS.lloadN X0.here hx rfl (hb hby d7_1) rfl ?_
    show Steps p.tables e below (s₁.setTop (mkF m 2 #[.val (.long q1), .second, .val (.long q2), .second] [(.long q1), (.long q1)])) _
    refine XS.iconst X0.here hx rfl (hb hby d7_2) ?_
    show Steps p.tables e below (s₁.setTop (mkF m 3 #[.val (.long q1), .second, .val (.long q2), .second] [(.int (1 : Int32)), (.long q1), (.long q1)])) _
    refine XS.lshl X0.here hx rfl (hb hby d7_3) rfl ?_
    show Steps p.tables e below (s₁.setTop (mkF m 4 #[.val (.long q1), .second, .val (.long q2), .second] [(.long (q1 <<< ((1 : Int32) &&& 0x3f).toInt64)), (.long q1)])) _
    refine XS.lloadN X0.here hx rfl (hb hby d7_4) rfl ?_
    show Steps p.tables e below (s₁.setTop (mkF m 5 #[.val (.long q1), .second, .val (.long q2), .second] [(.long q2), (.long (q1 <<< ((1 : Int32) &&& 0x3f).toInt64)), (.long q1)])) _
    refine XS.lor X0.here hx rfl (hb hby d7_5) rfl ?_
    show Steps p.tables e below (s₁.setTop (mkF m 6 #[.val (.long q1), .second, .val (.long q2), .second] [(.long ((q1 <<< ((1 : Int32) &&& 0x3f).toInt64) ||| q2)), (.long q1)])) _
    refine Stand.ldc2J (g := (mkF m 6 #[.val (.long q1), .second, .val (.long q2), .second] [(.long ((q1 <<< ((1 : Int32) &&& 0x3f).toInt64) ||| q2)), (.long q1)])) X0 hx hown (mvT hZ (hw _ (List.mem_of_getElem? (i := 39) rfl))) rfl (hb hby d7_6) ?_
    show Steps p.tables e below (s₁.setTop (mkF m 9 #[.val (.long q1), .second, .val (.long q2), .second] [(.long (-1 : Int64)), (.long ((q1 <<< ((1 : Int32) &&& 0x3f).toInt64) ||| q2)), (.long q1)])) _
    refine XS.lxor X0.here hx rfl (hb hby d7_9) rfl ?_
    show Steps p.tables e below (s₁.setTop (mkF m 10 #[.val (.long q1), .second, .val (.long q2), .second] [(.long (((q1 <<< ((1 : Int32) &&& 0x3f).toInt64) ||| q2) ^^^ (-1 : Int64))), (.long q1)])) _
    refine XS.land X0.here hx rfl (hb hby d7_10) rfl ?_
    exact kt
  obtain ⟨c1, h_c1⟩ : ∃ z : Int64, z = (q1 &&& (((q1 <<< ((1 : Int32) &&& 0x3f).toInt64) ||| q2) ^^^ (-1 : Int64))) := ⟨_, rfl⟩
  have pre2 : ∀ t, Steps p.tables e below (s₁.setTop (mkF m 11 #[.val (.long q1), .second, .val (.long q2), .second] [(.long c1)])) t → Steps p.tables e below (s₁.setTop (entryFrame m #[(.long q1), (.long q2)] 4)) t := by
    intro t kt
    rw [h_c1] at kt
    exact pre1 _ kt
  obtain ⟨_, _, ⟨T3, L3, k3, n3⟩, -, X3, ⟨Lc3, hQ3, l3, y3, z3⟩, st3⟩ := Jvm.LawKit.callS X0 hx (y := (⟨"java/lang/Long", "bitCount", "(J)I"⟩ : MethodName)) hown (mvT hZ (hw _ (List.mem_of_getElem? (i := 29) rfl))) (mvT hZ (hw _ (List.mem_of_getElem? (i := 30) rfl))) (mvT hZ (hw _ (List.mem_of_getElem? (i := 31) rfl))) (mvT hZ (hw _ (List.mem_of_getElem? (i := 32) rfl))) (by decide) (backOf (W := 0) (rm6 l Z a0 hw [] c1 h0 n0 Z0) hZ (hw _ (List.mem_of_getElem? (i := 32) rfl)) (hw _ (List.mem_of_getElem? (i := 31) rfl)) (by decide) (by decide)) (g := (mkF m 11 #[.val (.long q1), .second, .val (.long q2), .second] [(.long c1)])) rfl (by rw [hml]; rfl) (argsL := [(.long c1)]) (rest := []) (lenOf pd_0 rfl) rfl (by show 2 * 0 + _ ≤ _; exact Nat.le_of_eq rfl) (hb hby d7_11) (fun _ _ => ⟨rfl, e0, (by decide : 0 + 0 ≤ _), (by decide : 0 + 0 ≤ _)⟩)
  dsimp only [Pt.U, Pt.locs, Pt.cells, Pt.slots] at X3 l3 y3 z3 st3 hQ3
  subst l3 y3 z3
  obtain ⟨r3, rfl, N3q, hE3⟩ := hQ3
  have N3 := Fr.app N0 N3q
  have pre4 : ∀ t, Steps p.tables e below (T3.setTop (mkF m 14 #[.val (.long q1), .second, .val (.long q2), .second] [(.int r3)])) t → Steps p.tables e below (s₁.setTop (entryFrame m #[(.long q1), (.long q2)] 4)) t := by
    intro t kt
    refine pre2 _ ?_
    show Steps p.tables e below (s₁.setTop (mkF m 11 #[.val (.long q1), .second, .val (.long q2), .second] [(.long c1)])) _
    refine st3 _ ?_
    exact kt
  obtain ⟨fs, hr, hrun, hended, hW, hsame⟩ := X3.leave (v := some (.int r3)) (fun h => by rw [Bd.returns] at h; cases h)
  refine ⟨_, _, pre4 _ ?_, hrun, hended, _, _, rfl, ?_, ⟨_, rfl⟩, hW, hsame.mono (by decide) (by decide)⟩
  · show Steps p.tables e below (T3.setTop (mkF m 14 #[.val (.long q1), .second, .val (.long q2), .second] [(.int r3)])) _
    exact owRetI X3 hx Bd.returns (hb hby d7_14) hr
  · show Q7 Z q1 q2 h0 n0 _ T3.heap _
    rw [hE3]
    exact ⟨_, rfl, N3, rfl⟩
theorem d5_0 : decode prog_39_method_50_code 0 = .ok (.iconst 0, 1) := by decide +kernel
theorem d5_1 : decode prog_39_method_50_code 1 = .ok (.istore_n 1, 1) := by decide +kernel
theorem d5_2 : decode prog_39_method_50_code 2 = .ok (.iconst 0, 1) := by decide +kernel
theorem d5_3 : decode prog_39_method_50_code 3 = .ok (.istore_n 2, 1) := by decide +kernel
theorem d5_4 : decode prog_39_method_50_code 4 = .ok (.lconst 0, 1) := by decide +kernel
theorem d5_5 : decode prog_39_method_50_code 5 = .ok (.lstore_n 3, 1) := by decide +kernel
theorem d5_6 : decode prog_39_method_50_code 6 = .ok (.aload_n 0, 1) := by decide +kernel
theorem d5_7 : decode prog_39_method_50_code 7 = .ok (.getfield 18, 3) := by decide +kernel
theorem d5_10 : decode prog_39_method_50_code 10 = .ok (.astore 5, 2) := by decide +kernel
theorem d5_12 : decode prog_39_method_50_code 12 = .ok (.aload 5, 2) := by decide +kernel
theorem d5_14 : decode prog_39_method_50_code 14 = .ok (.arraylength, 1) := by decide +kernel
theorem d5_15 : decode prog_39_method_50_code 15 = .ok (.istore 6, 2) := by decide +kernel
theorem d5_17 : decode prog_39_method_50_code 17 = .ok (.iconst 0, 1) := by decide +kernel
theorem d5_18 : decode prog_39_method_50_code 18 = .ok (.istore 7, 2) := by decide +kernel
theorem d5_20 : decode prog_39_method_50_code 20 = .ok (.iload 7, 2) := by decide +kernel
theorem d5_22 : decode prog_39_method_50_code 22 = .ok (.iload 6, 2) := by decide +kernel
theorem d5_24 : decode prog_39_method_50_code 24 = .ok (.if_icmp .ge 39, 3) := by decide +kernel
theorem d5_27 : decode prog_39_method_50_code 27 = .ok (.aload 5, 2) := by decide +kernel
theorem d5_29 : decode prog_39_method_50_code 29 = .ok (.iload 7, 2) := by decide +kernel
theorem d5_31 : decode prog_39_method_50_code 31 = .ok (.laload, 1) := by decide +kernel
theorem d5_32 : decode prog_39_method_50_code 32 = .ok (.lstore 8, 2) := by decide +kernel
theorem d5_34 : decode prog_39_method_50_code 34 = .ok (.iload_n 1, 1) := by decide +kernel
theorem d5_35 : decode prog_39_method_50_code 35 = .ok (.lload 8, 2) := by decide +kernel
theorem d5_37 : decode prog_39_method_50_code 37 = .ok (.invokestatic 51, 3) := by decide +kernel
theorem d5_40 : decode prog_39_method_50_code 40 = .ok (.iadd, 1) := by decide +kernel
theorem d5_41 : decode prog_39_method_50_code 41 = .ok (.istore_n 1, 1) := by decide +kernel
theorem d5_42 : decode prog_39_method_50_code 42 = .ok (.iload_n 2, 1) := by decide +kernel
theorem d5_43 : decode prog_39_method_50_code 43 = .ok (.lload 8, 2) := by decide +kernel
theorem d5_45 : decode prog_39_method_50_code 45 = .ok (.lload_n 3, 1) := by decide +kernel
theorem d5_46 : decode prog_39_method_50_code 46 = .ok (.invokestatic 79, 3) := by decide +kernel
theorem d5_49 : decode prog_39_method_50_code 49 = .ok (.iadd, 1) := by decide +kernel
theorem d5_50 : decode prog_39_method_50_code 50 = .ok (.istore_n 2, 1) := by decide +kernel
theorem d5_51 : decode prog_39_method_50_code 51 = .ok (.lload 8, 2) := by decide +kernel
theorem d5_53 : decode prog_39_method_50_code 53 = .ok (.bipush 63, 2) := by decide +kernel
theorem d5_55 : decode prog_39_method_50_code 55 = .ok (.lushr, 1) := by decide +kernel
theorem d5_56 : decode prog_39_method_50_code 56 = .ok (.lstore_n 3, 1) := by decide +kernel
theorem d5_57 : decode prog_39_method_50_code 57 = .ok (.iinc 7 1, 3) := by decide +kernel
theorem d5_60 : decode prog_39_method_50_code 60 = .ok (.goto (-40), 3) := by decide +kernel
theorem d5_63 : decode prog_39_method_50_code 63 = .ok (.aload_n 0, 1) := by decide +kernel
theorem d5_64 : decode prog_39_method_50_code 64 = .ok (.iload_n 1, 1) := by decide +kernel
theorem d5_65 : decode prog_39_method_50_code 65 = .ok (.putfield 22, 3) := by decide +kernel
theorem d5_68 : decode prog_39_method_50_code 68 = .ok (.aload_n 0, 1) := by decide +kernel
theorem d5_69 : decode prog_39_method_50_code 69 = .ok (.iload_n 2, 1) := by decide +kernel
theorem d5_70 : decode prog_39_method_50_code 70 = .ok (.putfield 26, 3) := by decide +kernel
theorem d5_73 : decode prog_39_method_50_code 73 = .ok (.return_, 1) := by decide +kernel
theorem pn_5 : plainName "com/example/bitweight/bitweight/chunk/WordChunk" = true := by first | (simp [plainName, overriddenIn]; done) | decide +kernel
theorem ef_5 (m : MethodId) (x0 : Addr) : entryFrame m #[(.ref x0)] 10 = mkF m 0 #[.val (.ref x0), .unset, .unset, .unset, .unset, .unset, .unset, .unset, .unset, .unset] [] := by first | (simp [entryFrame, mkF, argsToLocals, Value.category]; done) | rfl
theorem pd_1 : parseMethodDescriptor "(JJ)I" = some ⟨[.long, .long], some .int⟩ := by decide +kernel
def Q5 (Z : State) (a1 : Addr) (aw : Addr) (uc ur : Int32) (fz : Nat → Int64) (h0 : Heap) (n0 : Nat) (v : Option Value) (h : Heap) (L : List Loc) : Prop := v = none ∧ Fr n0 L ∧ Keep h0 h [a1] ∧ Exa Z h a1 "com/example/bitweight/bitweight/chunk/WordChunk" ∧ Fld Z h a1 "com/example/bitweight/bitweight/chunk/WordChunk" "words" "[J" (.ref aw)
set_option maxRecDepth 65536 in
set_option maxHeartbeats 40000000 in
theorem rm5 (l : Launch) (Z : State) (a0 : Array Value) (hw : ∀ d ∈ tables_1, d.before a0 Z = true) (ws : List Jvm.Cond) (a1 : Addr) (aw : Addr) (uc ur : Int32) (fz : Nat → Int64) (h0 : Heap) (n0 : Nat) (Z0 : n0 ≤ h0.size) (E_a1 : Exa Z h0 a1 "com/example/bitweight/bitweight/chunk/WordChunk") (F_words : Fld Z h0 a1 "com/example/bitweight/bitweight/chunk/WordChunk" "words" "[J" (.ref aw)) (F_cardinality : Fld Z h0 a1 "com/example/bitweight/bitweight/chunk/WordChunk" "cardinality" "I" (.int uc)) (F_runs : Fld Z h0 a1 "com/example/bitweight/bitweight/chunk/WordChunk" "runs" "I" (.int ur)) (A_aw : owAJ Z h0 aw .long 1024 fz) (g_a1 : n0 ≤ a1) (n1w : a1 ≠ aw) :
    MetFree l (⟨"com/example/bitweight/bitweight/chunk/WordChunk", "recount", "()V"⟩ : MethodName) (head1 (Jvm.Cond.code (⟨"com/example/bitweight/bitweight/chunk/WordChunk", "recount", "()V"⟩ : MethodName) prog_39_method_50_code 10 none :: ws) ({ frames := 2, cells := 0, slots := 0, locals := 29 } : Room)) (fun a U => a = #[(.ref a1)] ∧ Z.Warmed39 U.vm ∧ U.heap = h0) (fun _ _ _ _ _ => True) (fun _ U o U' => ∃ v L, o = .returned v ∧ Q5 Z a1 aw uc ur fz h0 n0 v U'.heap L ∧ FrameEnd U o U' L ({ frames := 2, cells := 0, slots := 0, locals := 29 } : Room).cells ({ frames := 2, cells := 0, slots := 0, locals := 29 } : Room).slots) := by
  refine MetFree.of_bodySF (plainFor_of_name pn_5) hisR ?_
  intro p e s m args below meth c s₁ Bd hml0 hP hK
  obtain ⟨rfl, hZ, hh⟩ := hP
  have hx := Bd.exec
  have hby := Bd.bytes
  have hml : c.maxLocals = 10 := hml0
  have hown : s.vm.findClass "com/example/bitweight/bitweight/chunk/WordChunk" = some m.cls := findClass_of_methodNamed Bd.named
  have hnm := (name_of_methodNamed Bd.named Bd.method).1
  have X0 : Stand p l e ({ frames := 2, cells := 0, slots := 0, locals := 29 } : Room) s m #[(.ref a1)] below meth c s₁ [] 0 0 := Stand.of_body Bd
  have e0 : s₁.heap = h0 := by rw [← hh, Bd.state]; rfl
  have N0 := Fr.nil n0
  have pre0 : ∀ t, Steps p.tables e below (s₁.setTop (mkF m 0 #[.val (.ref a1), .unset, .unset, .unset, .unset, .unset, .unset, .unset, .unset, .unset] [])) t → Steps p.tables e below (s₁.setTop (entryFrame m #[(.ref a1)] 10)) t := fun t k => castTop (ef_5 m a1) k
  obtain ⟨T1, X1, hE1, st1⟩ := getF X0 hx hZ hown (host := "") (Or.inl (hw _ (List.mem_of_getElem? (i := 19) rfl))) Via.refl e0 F_words (g := (mkF m 7 #[.val (.ref a1), .val (.int (0 : Int32)), .val (.int (0 : Int32)), .val (.long (0 : Int64)), .second, .unset, .unset, .unset, .unset, .unset] [(.ref a1)])) rfl rfl (hb hby d5_7)
  obtain ⟨_, _, ⟨T2, L2, k2, n2⟩, -, X2, ⟨Lc2, hQ2, l2, y2, z2⟩, st2⟩ := Jvm.LawKit.callS X1 hx (y := (⟨"java/lang/Long", "bitCount", "(J)I"⟩ : MethodName)) hown (mvT hZ (hw _ (List.mem_of_getElem? (i := 29) rfl))) (mvT hZ (hw _ (List.mem_of_getElem? (i := 30) rfl))) (mvT hZ (hw _ (List.mem_of_getElem? (i := 31) rfl))) (mvT hZ (hw _ (List.mem_of_getElem? (i := 32) rfl))) (by decide) (backOf (W := 1) (rm6 l Z a0 hw [] (fz 0) h0 n0 Z0) hZ (hw _ (List.mem_of_getElem? (i := 32) rfl)) (hw _ (List.mem_of_getElem? (i := 31) rfl)) (by decide) (by decide)) (g := (mkF m 37 #[.val (.ref a1), .val (.int (0 : Int32)), .val (.int (0 : Int32)), .val (.long (0 : Int64)), .second, .val (.ref aw), .val (.int (1024 : Int32)), .val (.int (0 : Int32)), .val (.long (fz 0)), .second] [(.long (fz 0)), (.int (0 : Int32))])) rfl (by rw [hml]; rfl) (argsL := [(.long (fz 0))]) (rest := [(.int (0 : Int32))]) (lenOf pd_0 rfl) rfl (by show 2 * 0 + _ ≤ _; exact Nat.le_of_eq rfl) (hb hby d5_37) (fun _ _ => ⟨rfl, hE1, (by decide : 0 + 0 ≤ _), (by decide : 0 + 0 ≤ _)⟩)
  dsimp only [Pt.U, Pt.locs, Pt.cells, Pt.slots] at X2 l2 y2 z2 st2 hQ2
  subst l2 y2 z2
  obtain ⟨r2, rfl, N2q, hE2⟩ := hQ2
  have N2 := Fr.app N0 N2q
  obtain ⟨_, _, ⟨T3, L3, k3, n3⟩, -, X3, ⟨Lc3, hQ3, l3, y3, z3⟩, st3⟩ := Jvm.LawKit.callS X2 hx (y := (⟨"com/example/bitweight/bitweight/chunk/WordChunk", "runStarts", "(JJ)I"⟩ : MethodName)) hown (mvT hZ (hw _ (List.mem_of_getElem? (i := 36) rfl))) (mvT hZ (hw _ (List.mem_of_getElem? (i := 37) rfl))) (mvT hZ (hw _ (List.mem_of_getElem? (i := 4) rfl))) (mvT hZ (hw _ (List.mem_of_getElem? (i := 38) rfl))) (by decide) (backOf (W := 1) (rm7 l Z a0 hw [] (fz 0) (0 : Int64) h0 n0 Z0) hZ (hw _ (List.mem_of_getElem? (i := 38) rfl)) (hw _ (List.mem_of_getElem? (i := 4) rfl)) (by decide) (by decide)) (g := (mkF m 46 #[.val (.ref a1), .val (.int ((0 : Int32) + r2)), .val (.int (0 : Int32)), .val (.long (0 : Int64)), .second, .val (.ref aw), .val (.int (1024 : Int32)), .val (.int (0 : Int32)), .val (.long (fz 0)), .second] [(.long (0 : Int64)), (.long (fz 0)), (.int (0 : Int32))])) rfl (by rw [hml]; rfl) (argsL := [(.long (fz 0)), (.long (0 : Int64))]) (rest := [(.int (0 : Int32))]) (lenOf pd_1 rfl) rfl (by show 2 * 0 + _ ≤ _; exact Nat.le_of_eq rfl) (hb hby d5_46) (fun _ _ => ⟨rfl, hE2, (by decide : 0 + 0 ≤ _), (by decide : 0 + 0 ≤ _)⟩)
  dsimp only [Pt.U, Pt.locs, Pt.cells, Pt.slots] at X3 l3 y3 z3 st3 hQ3
  subst l3 y3 z3
  obtain ⟨r3, rfl, N3q, hE3⟩ := hQ3
  have N3 := Fr.app N2 N3q
  have pre4 : ∀ t, Steps p.tables e below (T3.setTop (mkF m 20 #[.val (.ref a1), .val (.int ((0 : Int32) + r2)), .val (.int ((0 : Int32) + r3)), .val (.long (((fz 0).toUInt64 >>> ((63 : Int32) &&& 0x3f).toInt64.toUInt64).toInt64)), .second, .val (.ref aw), .val (.int (1024 : Int32)), .val (.int (1 : Int32)), .val (.long (fz 0)), .second] [])) t → Steps p.tables e below (s₁.setTop (entryFrame m #[(.ref a1)] 10)) t := by
    intro t kt
    refine pre0 _ ?_
    show Steps p.tables e below (s₁.setTop (mkF m 0 #[.val (.ref a1), .unset, .unset, .unset, .unset, .unset, .unset, .unset, .unset, .unset] [])) _
    refine XS.iconst X0.here hx rfl (hb hby d5_0) ?_
    show Steps p.tables e below (s₁.setTop (mkF m 1 #[.val (.ref a1), .unset, .unset, .unset, .unset, .unset, .unset, .unset, .unset, .unset] [(.int (0 : Int32))])) _
    refine XS.istoreN X0.here hx rfl (hb hby d5_1) rfl (l' := #[.val (.ref a1), .val (.int (0 : Int32)), .unset, .unset, .unset, .unset, .unset, .unset, .unset, .unset]) rfl ?_
    show Steps p.tables e below (s₁.setTop (mkF m 2 #[.val (.ref a1), .val (.int (0 : Int32)), .unset, .unset, .unset, .unset, .unset, .unset, .unset, .unset] [])) _
    refine XS.iconst X0.here hx rfl (hb hby d5_2) ?_
    show Steps p.tables e below (s₁.setTop (mkF m 3 #[.val (.ref a1), .val (.int (0 : Int32)), .unset, .unset, .unset, .unset, .unset, .unset, .unset, .unset] [(.int (0 : Int32))])) _
    refine XS.istoreN X0.here hx rfl (hb hby d5_3) rfl (l' := #[.val (.ref a1), .val (.int (0 : Int32)), .val (.int (0 : Int32)), .unset, .unset, .unset, .unset, .unset, .unset, .unset]) rfl ?_
    show Steps p.tables e below (s₁.setTop (mkF m 4 #[.val (.ref a1), .val (.int (0 : Int32)), .val (.int (0 : Int32)), .unset, .unset, .unset, .unset, .unset, .unset, .unset] [])) _
    refine XS.lconst X0.here hx rfl (hb hby d5_4) ?_
    show Steps p.tables e below (s₁.setTop (mkF m 5 #[.val (.ref a1), .val (.int (0 : Int32)), .val (.int (0 : Int32)), .unset, .unset, .unset, .unset, .unset, .unset, .unset] [(.long (0 : Int64))])) _
    refine XS.lstoreN X0.here hx rfl (hb hby d5_5) rfl (l' := #[.val (.ref a1), .val (.int (0 : Int32)), .val (.int (0 : Int32)), .val (.long (0 : Int64)), .second, .unset, .unset, .unset, .unset, .unset]) rfl ?_
    show Steps p.tables e below (s₁.setTop (mkF m 6 #[.val (.ref a1), .val (.int (0 : Int32)), .val (.int (0 : Int32)), .val (.long (0 : Int64)), .second, .unset, .unset, .unset, .unset, .unset] [])) _
    refine XS.aloadN X0.here hx rfl (hb hby d5_6) rfl rfl ?_
    show Steps p.tables e below (s₁.setTop (mkF m 7 #[.val (.ref a1), .val (.int (0 : Int32)), .val (.int (0 : Int32)), .val (.long (0 : Int64)), .second, .unset, .unset, .unset, .unset, .unset] [(.ref a1)])) _
    refine st1 _ ?_
    show Steps p.tables e below (T1.setTop (mkF m 10 #[.val (.ref a1), .val (.int (0 : Int32)), .val (.int (0 : Int32)), .val (.long (0 : Int64)), .second, .unset, .unset, .unset, .unset, .unset] [(.ref aw)])) _
    refine XS.astore X1.here hx rfl (hb hby d5_10) rfl rfl (l' := #[.val (.ref a1), .val (.int (0 : Int32)), .val (.int (0 : Int32)), .val (.long (0 : Int64)), .second, .val (.ref aw), .unset, .unset, .unset, .unset]) rfl ?_
    show Steps p.tables e below (T1.setTop (mkF m 12 #[.val (.ref a1), .val (.int (0 : Int32)), .val (.int (0 : Int32)), .val (.long (0 : Int64)), .second, .val (.ref aw), .unset, .unset, .unset, .unset] [])) _
    refine XS.aload X1.here hx rfl (hb hby d5_12) rfl rfl ?_
    show Steps p.tables e below (T1.setTop (mkF m 14 #[.val (.ref a1), .val (.int (0 : Int32)), .val (.int (0 : Int32)), .val (.long (0 : Int64)), .second, .val (.ref aw), .unset, .unset, .unset, .unset] [(.ref aw)])) _
    refine owLenJ X1 hx hZ hE1 A_aw (z := (1024 : Int32)) rfl (g := (mkF m 14 #[.val (.ref a1), .val (.int (0 : Int32)), .val (.int (0 : Int32)), .val (.long (0 : Int64)), .second, .val (.ref aw), .unset, .unset, .unset, .unset] [(.ref aw)])) rfl rfl (hb hby d5_14) _ ?_
    show Steps p.tables e below (T1.setTop (mkF m 15 #[.val (.ref a1), .val (.int (0 : Int32)), .val (.int (0 : Int32)), .val (.long (0 : Int64)), .second, .val (.ref aw), .unset, .unset, .unset, .unset] [(.int (1024 : Int32))])) _
    refine XS.istore X1.here hx rfl (hb hby d5_15) rfl (l' := #[.val (.ref a1), .val (.int (0 : Int32)), .val (.int (0 : Int32)), .val (.long (0 : Int64)), .second, .val (.ref aw), .val (.int (1024 : Int32)), .unset, .unset, .unset]) rfl ?_
    show Steps p.tables e below (T1.setTop (mkF m 17 #[.val (.ref a1), .val (.int (0 : Int32)), .val (.int (0 : Int32)), .val (.long (0 : Int64)), .second, .val (.ref aw), .val (.int (1024 : Int32)), .unset, .unset, .unset] [])) _
    refine XS.iconst X1.here hx rfl (hb hby d5_17) ?_
    show Steps p.tables e below (T1.setTop (mkF m 18 #[.val (.ref a1), .val (.int (0 : Int32)), .val (.int (0 : Int32)), .val (.long (0 : Int64)), .second, .val (.ref aw), .val (.int (1024 : Int32)), .unset, .unset, .unset] [(.int (0 : Int32))])) _
    refine XS.istore X1.here hx rfl (hb hby d5_18) rfl (l' := #[.val (.ref a1), .val (.int (0 : Int32)), .val (.int (0 : Int32)), .val (.long (0 : Int64)), .second, .val (.ref aw), .val (.int (1024 : Int32)), .val (.int (0 : Int32)), .unset, .unset]) rfl ?_
    show Steps p.tables e below (T1.setTop (mkF m 20 #[.val (.ref a1), .val (.int (0 : Int32)), .val (.int (0 : Int32)), .val (.long (0 : Int64)), .second, .val (.ref aw), .val (.int (1024 : Int32)), .val (.int (0 : Int32)), .unset, .unset] [])) _
    refine XS.iload X1.here hx rfl (hb hby d5_20) rfl ?_
    show Steps p.tables e below (T1.setTop (mkF m 22 #[.val (.ref a1), .val (.int (0 : Int32)), .val (.int (0 : Int32)), .val (.long (0 : Int64)), .second, .val (.ref aw), .val (.int (1024 : Int32)), .val (.int (0 : Int32)), .unset, .unset] [(.int (0 : Int32))])) _
    refine XS.iload X1.here hx rfl (hb hby d5_22) rfl ?_
    show Steps p.tables e below (T1.setTop (mkF m 24 #[.val (.ref a1), .val (.int (0 : Int32)), .val (.int (0 : Int32)), .val (.long (0 : Int64)), .second, .val (.ref aw), .val (.int (1024 : Int32)), .val (.int (0 : Int32)), .unset, .unset] [(.int (1024 : Int32)), (.int (0 : Int32))])) _
    refine XS.icmpNo X1.here hx rfl (hb hby d5_24) rfl (XT.ii_ge_f (by decide)) ?_
    show Steps p.tables e below (T1.setTop (mkF m 27 #[.val (.ref a1), .val (.int (0 : Int32)), .val (.int (0 : Int32)), .val (.long (0 : Int64)), .second, .val (.ref aw), .val (.int (1024 : Int32)), .val (.int (0 : Int32)), .unset, .unset] [])) _
    refine XS.aload X1.here hx rfl (hb hby d5_27) rfl rfl ?_
    show Steps p.tables e below (T1.setTop (mkF m 29 #[.val (.ref a1), .val (.int (0 : Int32)), .val (.int (0 : Int32)), .val (.long (0 : Int64)), .second, .val (.ref aw), .val (.int (1024 : Int32)), .val (.int (0 : Int32)), .unset, .unset] [(.ref aw)])) _
    refine XS.iload X1.here hx rfl (hb hby d5_29) rfl ?_
    show Steps p.tables e below (T1.setTop (mkF m 31 #[.val (.ref a1), .val (.int (0 : Int32)), .val (.int (0 : Int32)), .val (.long (0 : Int64)), .second, .val (.ref aw), .val (.int (1024 : Int32)), .val (.int (0 : Int32)), .unset, .unset] [(.int (0 : Int32)), (.ref aw)])) _
    refine owLdJ (k := 0) X1 hx hZ hE1 A_aw (j := (0 : Int32)) rfl (by decide) (g := (mkF m 31 #[.val (.ref a1), .val (.int (0 : Int32)), .val (.int (0 : Int32)), .val (.long (0 : Int64)), .second, .val (.ref aw), .val (.int (1024 : Int32)), .val (.int (0 : Int32)), .unset, .unset] [(.int (0 : Int32)), (.ref aw)])) rfl rfl (hb hby d5_31) _ ?_
    show Steps p.tables e below (T1.setTop (mkF m 32 #[.val (.ref a1), .val (.int (0 : Int32)), .val (.int (0 : Int32)), .val (.long (0 : Int64)), .second, .val (.ref aw), .val (.int (1024 : Int32)), .val (.int (0 : Int32)), .unset, .unset] [(.long (fz 0))])) _
    refine XS.lstore X1.here hx rfl (hb hby d5_32) rfl (l' := #[.val (.ref a1), .val (.int (0 : Int32)), .val (.int (0 : Int32)), .val (.long (0 : Int64)), .second, .val (.ref aw), .val (.int (1024 : Int32)), .val (.int (0 : Int32)), .val (.long (fz 0)), .second]) rfl ?_
    show Steps p.tables e below (T1.setTop (mkF m 34 #[.val (.ref a1), .val (.int (0 : Int32)), .val (.int (0 : Int32)), .val (.long (0 : Int64)), .second, .val (.ref aw), .val (.int (1024 : Int32)), .val (.int (0 : Int32)), .val (.long (fz 0)), .second] [])) _
    refine XS.iloadN X1.here hx rfl (hb hby d5_34) rfl ?_
    show Steps p.tables e below (T1.setTop (mkF m 35 #[.val (.ref a1), .val (.int (0 : Int32)), .val (.int (0 : Int32)), .val (.long (0 : Int64)), .second, .val (.ref aw), .val (.int (1024 : Int32)), .val (.int (0 : Int32)), .val (.long (fz 0)), .second] [(.int (0 : Int32))])) _
    refine XS.lload X1.here hx rfl (hb hby d5_35) rfl ?_
    show Steps p.tables e below (T1.setTop (mkF m 37 #[.val (.ref a1), .val (.int (0 : Int32)), .val (.int (0 : Int32)), .val (.long (0 : Int64)), .second, .val (.ref aw), .val (.int (1024 : Int32)), .val (.int (0 : Int32)), .val (.long (fz 0)), .second] [(.long (fz 0)), (.int (0 : Int32))])) _
    refine st2 _ ?_
    show Steps p.tables e below (T2.setTop (mkF m 40 #[.val (.ref a1), .val (.int (0 : Int32)), .val (.int (0 : Int32)), .val (.long (0 : Int64)), .second, .val (.ref aw), .val (.int (1024 : Int32)), .val (.int (0 : Int32)), .val (.long (fz 0)), .second] [(.int r2), (.int (0 : Int32))])) _
    refine XS.iadd X2.here hx rfl (hb hby d5_40) rfl ?_
    show Steps p.tables e below (T2.setTop (mkF m 41 #[.val (.ref a1), .val (.int (0 : Int32)), .val (.int (0 : Int32)), .val (.long (0 : Int64)), .second, .val (.ref aw), .val (.int (1024 : Int32)), .val (.int (0 : Int32)), .val (.long (fz 0)), .second] [(.int ((0 : Int32) + r2))])) _
    refine XS.istoreN X2.here hx rfl (hb hby d5_41) rfl (l' := #[.val (.ref a1), .val (.int ((0 : Int32) + r2)), .val (.int (0 : Int32)), .val (.long (0 : Int64)), .second, .val (.ref aw), .val (.int (1024 : Int32)), .val (.int (0 : Int32)), .val (.long (fz 0)), .second]) rfl ?_
    show Steps p.tables e below (T2.setTop (mkF m 42 #[.val (.ref a1), .val (.int ((0 : Int32) + r2)), .val (.int (0 : Int32)), .val (.long (0 : Int64)), .second, .val (.ref aw), .val (.int (1024 : Int32)), .val (.int (0 : Int32)), .val (.long (fz 0)), .second] [])) _
    refine XS.iloadN X2.here hx rfl (hb hby d5_42) rfl ?_
    show Steps p.tables e below (T2.setTop (mkF m 43 #[.val (.ref a1), .val (.int ((0 : Int32) + r2)), .val (.int (0 : Int32)), .val (.long (0 : Int64)), .second, .val (.ref aw), .val (.int (1024 : Int32)), .val (.int (0 : Int32)), .val (.long (fz 0)), .second] [(.int (0 : Int32))])) _
    refine XS.lload X2.here hx rfl (hb hby d5_43) rfl ?_
    show Steps p.tables e below (T2.setTop (mkF m 45 #[.val (.ref a1), .val (.int ((0 : Int32) + r2)), .val (.int (0 : Int32)), .val (.long (0 : Int64)), .second, .val (.ref aw), .val (.int (1024 : Int32)), .val (.int (0 : Int32)), .val (.long (fz 0)), .second] [(.long (fz 0)), (.int (0 : Int32))])) _
    refine XS.lloadN X2.here hx rfl (hb hby d5_45) rfl ?_
    show Steps p.tables e below (T2.setTop (mkF m 46 #[.val (.ref a1), .val (.int ((0 : Int32) + r2)), .val (.int (0 : Int32)), .val (.long (0 : Int64)), .second, .val (.ref aw), .val (.int (1024 : Int32)), .val (.int (0 : Int32)), .val (.long (fz 0)), .second] [(.long (0 : Int64)), (.long (fz 0)), (.int (0 : Int32))])) _
    refine st3 _ ?_
    show Steps p.tables e below (T3.setTop (mkF m 49 #[.val (.ref a1), .val (.int ((0 : Int32) + r2)), .val (.int (0 : Int32)), .val (.long (0 : Int64)), .second, .val (.ref aw), .val (.int (1024 : Int32)), .val (.int (0 : Int32)), .val (.long (fz 0)), .second] [(.int r3), (.int (0 : Int32))])) _
    refine XS.iadd X3.here hx rfl (hb hby d5_49) rfl ?_
    show Steps p.tables e below (T3.setTop (mkF m 50 #[.val (.ref a1), .val (.int ((0 : Int32) + r2)), .val (.int (0 : Int32)), .val (.long (0 : Int64)), .second, .val (.ref aw), .val (.int (1024 : Int32)), .val (.int (0 : Int32)), .val (.long (fz 0)), .second] [(.int ((0 : Int32) + r3))])) _
    refine XS.istoreN X3.here hx rfl (hb hby d5_50) rfl (l' := #[.val (.ref a1), .val (.int ((0 : Int32) + r2)), .val (.int ((0 : Int32) + r3)), .val (.long (0 : Int64)), .second, .val (.ref aw), .val (.int (1024 : Int32)), .val (.int (0 : Int32)), .val (.long (fz 0)), .second]) rfl ?_
    show Steps p.tables e below (T3.setTop (mkF m 51 #[.val (.ref a1), .val (.int ((0 : Int32) + r2)), .val (.int ((0 : Int32) + r3)), .val (.long (0 : Int64)), .second, .val (.ref aw), .val (.int (1024 : Int32)), .val (.int (0 : Int32)), .val (.long (fz 0)), .second] [])) _
    refine XS.lload X3.here hx rfl (hb hby d5_51) rfl ?_
    show Steps p.tables e below (T3.setTop (mkF m 53 #[.val (.ref a1), .val (.int ((0 : Int32) + r2)), .val (.int ((0 : Int32) + r3)), .val (.long (0 : Int64)), .second, .val (.ref aw), .val (.int (1024 : Int32)), .val (.int (0 : Int32)), .val (.long (fz 0)), .second] [(.long (fz 0))])) _
    refine XS.bipush X3.here hx rfl (hb hby d5_53) ?_
    show Steps p.tables e below (T3.setTop (mkF m 55 #[.val (.ref a1), .val (.int ((0 : Int32) + r2)), .val (.int ((0 : Int32) + r3)), .val (.long (0 : Int64)), .second, .val (.ref aw), .val (.int (1024 : Int32)), .val (.int (0 : Int32)), .val (.long (fz 0)), .second] [(.int (63 : Int32)), (.long (fz 0))])) _
    refine XS.lushr X3.here hx rfl (hb hby d5_55) rfl ?_
    show Steps p.tables e below (T3.setTop (mkF m 56 #[.val (.ref a1), .val (.int ((0 : Int32) + r2)), .val (.int ((0 : Int32) + r3)), .val (.long (0 : Int64)), .second, .val (.ref aw), .val (.int (1024 : Int32)), .val (.int (0 : Int32)), .val (.long (fz 0)), .second] [(.long (((fz 0).toUInt64 >>> ((63 : Int32) &&& 0x3f).toInt64.toUInt64).toInt64))])) _
    refine XS.lstoreN X3.here hx rfl (hb hby d5_56) rfl (l' := #[.val (.ref a1), .val (.int ((0 : Int32) + r2)), .val (.int ((0 : Int32) + r3)), .val (.long (((fz 0).toUInt64 >>> ((63 : Int32) &&& 0x3f).toInt64.toUInt64).toInt64)), .second, .val (.ref aw), .val (.int (1024 : Int32)), .val (.int (0 : Int32)), .val (.long (fz 0)), .second]) rfl ?_
    show Steps p.tables e below (T3.setTop (mkF m 57 #[.val (.ref a1), .val (.int ((0 : Int32) + r2)), .val (.int ((0 : Int32) + r3)), .val (.long (((fz 0).toUInt64 >>> ((63 : Int32) &&& 0x3f).toInt64.toUInt64).toInt64)), .second, .val (.ref aw), .val (.int (1024 : Int32)), .val (.int (0 : Int32)), .val (.long (fz 0)), .second] [])) _
    refine XS.iinc X3.here hx rfl (hb hby d5_57) rfl (l' := #[.val (.ref a1), .val (.int ((0 : Int32) + r2)), .val (.int ((0 : Int32) + r3)), .val (.long (((fz 0).toUInt64 >>> ((63 : Int32) &&& 0x3f).toInt64.toUInt64).toInt64)), .second, .val (.ref aw), .val (.int (1024 : Int32)), .val (.int (1 : Int32)), .val (.long (fz 0)), .second]) rfl ?_
    show Steps p.tables e below (T3.setTop (mkF m 60 #[.val (.ref a1), .val (.int ((0 : Int32) + r2)), .val (.int ((0 : Int32) + r3)), .val (.long (((fz 0).toUInt64 >>> ((63 : Int32) &&& 0x3f).toInt64.toUInt64).toInt64)), .second, .val (.ref aw), .val (.int (1024 : Int32)), .val (.int (1 : Int32)), .val (.long (fz 0)), .second] [])) _
    refine XS.goto X3.here hx rfl (pc0 := 60) (pc' := 20) rfl (hb hby d5_60) (by decide) (by decide) ?_
    exact kt
  have loop : ∀ (d : Nat) (TL : State) (lcL : List Loc) (cc cr ci : Int32) (cy cw : Int64) (k : Nat), Stand p l e ({ frames := 2, cells := 0, slots := 0, locals := 29 } : Room) s m #[(.ref a1)] below meth c TL lcL 0 0 → Fr n0 lcL → TL.heap = h0 → ci.toInt = (k : Int) → k + d = 1024 → ∃ (T' : State) (lc' : List Loc) (cc' cr' : Int32) (cy' cw' : Int64), Stand p l e ({ frames := 2, cells := 0, slots := 0, locals := 29 } : Room) s m #[(.ref a1)] below meth c T' lc' 0 0 ∧ Fr n0 lc' ∧ T'.heap = h0 ∧ ∀ t, Steps p.tables e below (T'.setTop (mkF m 63 #[.val (.ref a1), .val (.int cc'), .val (.int cr'), .val (.long cy'), .second, .val (.ref aw), .val (.int (1024 : Int32)), .val (.int (1024 : Int32)), .val (.long cw'), .second] [])) t → Steps p.tables e below (TL.setTop (mkF m 20 #[.val (.ref a1), .val (.int cc), .val (.int cr), .val (.long cy), .second, .val (.ref aw), .val (.int (1024 : Int32)), .val (.int ci), .val (.long cw), .second] [])) t := by
    intro d
    induction d with
    | zero =>
      intro TL lcL cc cr ci cy cw k XL NL eL h1 h2
      rw [own_1024 h1 h2]
      have pre5 : ∀ t, Steps p.tables e below (TL.setTop (mkF m 20 #[.val (.ref a1), .val (.int cc), .val (.int cr), .val (.long cy), .second, .val (.ref aw), .val (.int (1024 : Int32)), .val (.int (1024 : Int32)), .val (.long cw), .second] [])) t → Steps p.tables e below (TL.setTop (mkF m 20 #[.val (.ref a1), .val (.int cc), .val (.int cr), .val (.long cy), .second, .val (.ref aw), .val (.int (1024 : Int32)), .val (.int (1024 : Int32)), .val (.long cw), .second] [])) t := fun _ k => k
      have pre6 : ∀ t, Steps p.tables e below (TL.setTop (mkF m 63 #[.val (.ref a1), .val (.int cc), .val (.int cr), .val (.long cy), .second, .val (.ref aw), .val (.int (1024 : Int32)), .val (.int (1024 : Int32)), .val (.long cw), .second] [])) t → Steps p.tables e below (TL.setTop (mkF m 20 #[.val (.ref a1), .val (.int cc), .val (.int cr), .val (.long cy), .second, .val (.ref aw), .val (.int (1024 : Int32)), .val (.int (1024 : Int32)), .val (.long cw), .second] [])) t := by
        intro t kt
        refine pre5 _ ?_
        show Steps p.tables e below (TL.setTop (mkF m 20 #[.val (.ref a1), .val (.int cc), .val (.int cr), .val (.long cy), .second, .val (.ref aw), .val (.int (1024 : Int32)), .val (.int (1024 : Int32)), .val (.long cw), .second] [])) _
        refine XS.iload XL.here hx rfl (hb hby d5_20) rfl ?_
        show Steps p.tables e below (TL.setTop (mkF m 22 #[.val (.ref a1), .val (.int cc), .val (.int cr), .val (.long cy), .second, .val (.ref aw), .val (.int (1024 : Int32)), .val (.int (1024 : Int32)), .val (.long cw), .second] [(.int (1024 : Int32))])) _
        refine XS.iload XL.here hx rfl (hb hby d5_22) rfl ?_
        show Steps p.tables e below (TL.setTop (mkF m 24 #[.val (.ref a1), .val (.int cc), .val (.int cr), .val (.long cy), .second, .val (.ref aw), .val (.int (1024 : Int32)), .val (.int (1024 : Int32)), .val (.long cw), .second] [(.int (1024 : Int32)), (.int (1024 : Int32))])) _
        refine XS.icmpYes XL.here hx rfl (pc0 := 24) (pc' := 63) rfl (hb hby d5_24) rfl (XT.ii_ge_t (by decide)) (by decide) (by decide) ?_
        exact kt
      exact ⟨TL, lcL, cc, cr, cy, cw, XL, NL, eL, fun t kt => pre6 _ kt⟩
    | succ d ih =>
      intro TL lcL cc cr ci cy cw k XL NL eL h1 h2
      have pre7 : ∀ t, Steps p.tables e below (TL.setTop (mkF m 20 #[.val (.ref a1), .val (.int cc), .val (.int cr), .val (.long cy), .second, .val (.ref aw), .val (.int (1024 : Int32)), .val (.int ci), .val (.long cw), .second] [])) t → Steps p.tables e below (TL.setTop (mkF m 20 #[.val (.ref a1), .val (.int cc), .val (.int cr), .val (.long cy), .second, .val (.ref aw), .val (.int (1024 : Int32)), .val (.int ci), .val (.long cw), .second] [])) t := fun _ k => k
      obtain ⟨_, _, ⟨T8, L8, k8, n8⟩, -, X8, ⟨Lc8, hQ8, l8, y8, z8⟩, st8⟩ := Jvm.LawKit.callS XL hx (y := (⟨"java/lang/Long", "bitCount", "(J)I"⟩ : MethodName)) hown (mvT hZ (hw _ (List.mem_of_getElem? (i := 29) rfl))) (mvT hZ (hw _ (List.mem_of_getElem? (i := 30) rfl))) (mvT hZ (hw _ (List.mem_of_getElem? (i := 31) rfl))) (mvT hZ (hw _ (List.mem_of_getElem? (i := 32) rfl))) (by decide) (backOf (W := 1) (rm6 l Z a0 hw [] (fz k) h0 n0 Z0) hZ (hw _ (List.mem_of_getElem? (i := 32) rfl)) (hw _ (List.mem_of_getElem? (i := 31) rfl)) (by decide) (by decide)) (g := (mkF m 37 #[.val (.ref a1), .val (.int cc), .val (.int cr), .val (.long cy), .second, .val (.ref aw), .val (.int (1024 : Int32)), .val (.int ci), .val (.long (fz k)), .second] [(.long (fz k)), (.int cc)])) rfl (by rw [hml]; rfl) (argsL := [(.long (fz k))]) (rest := [(.int cc)]) (lenOf pd_0 rfl) rfl (by show 2 * 0 + _ ≤ _; exact Nat.le_of_eq rfl) (hb hby d5_37) (fun _ _ => ⟨rfl, eL, (by decide : 0 + 0 ≤ _), (by decide : 0 + 0 ≤ _)⟩)
      dsimp only [Pt.U, Pt.locs, Pt.cells, Pt.slots] at X8 l8 y8 z8 st8 hQ8
      subst l8 y8 z8
      obtain ⟨r8, rfl, N8q, hE8⟩ := hQ8
      have N8 := Fr.app NL N8q
      obtain ⟨_, _, ⟨T9, L9, k9, n9⟩, -, X9, ⟨Lc9, hQ9, l9, y9, z9⟩, st9⟩ := Jvm.LawKit.callS X8 hx (y := (⟨"com/example/bitweight/bitweight/chunk/WordChunk", "runStarts", "(JJ)I"⟩ : MethodName)) hown (mvT hZ (hw _ (List.mem_of_getElem? (i := 36) rfl))) (mvT hZ (hw _ (List.mem_of_getElem? (i := 37) rfl))) (mvT hZ (hw _ (List.mem_of_getElem? (i := 4) rfl))) (mvT hZ (hw _ (List.mem_of_getElem? (i := 38) rfl))) (by decide) (backOf (W := 1) (rm7 l Z a0 hw [] (fz k) cy h0 n0 Z0) hZ (hw _ (List.mem_of_getElem? (i := 38) rfl)) (hw _ (List.mem_of_getElem? (i := 4) rfl)) (by decide) (by decide)) (g := (mkF m 46 #[.val (.ref a1), .val (.int (cc + r8)), .val (.int cr), .val (.long cy), .second, .val (.ref aw), .val (.int (1024 : Int32)), .val (.int ci), .val (.long (fz k)), .second] [(.long cy), (.long (fz k)), (.int cr)])) rfl (by rw [hml]; rfl) (argsL := [(.long (fz k)), (.long cy)]) (rest := [(.int cr)]) (lenOf pd_1 rfl) rfl (by show 2 * 0 + _ ≤ _; exact Nat.le_of_eq rfl) (hb hby d5_46) (fun _ _ => ⟨rfl, hE8, (by decide : 0 + 0 ≤ _), (by decide : 0 + 0 ≤ _)⟩)
      dsimp only [Pt.U, Pt.locs, Pt.cells, Pt.slots] at X9 l9 y9 z9 st9 hQ9
      subst l9 y9 z9
      obtain ⟨r9, rfl, N9q, hE9⟩ := hQ9
      have N9 := Fr.app N8 N9q
      have pre10 : ∀ t, Steps p.tables e below (T9.setTop (mkF m 20 #[.val (.ref a1), .val (.int (cc + r8)), .val (.int (cr + r9)), .val (.long (((fz k).toUInt64 >>> ((63 : Int32) &&& 0x3f).toInt64.toUInt64).toInt64)), .second, .val (.ref aw), .val (.int (1024 : Int32)), .val (.int (ci + (1 : Int32))), .val (.long (fz k)), .second] [])) t → Steps p.tables e below (TL.setTop (mkF m 20 #[.val (.ref a1), .val (.int cc), .val (.int cr), .val (.long cy), .second, .val (.ref aw), .val (.int (1024 : Int32)), .val (.int ci), .val (.long cw), .second] [])) t := by
        intro t kt
        refine pre7 _ ?_
        show Steps p.tables e below (TL.setTop (mkF m 20 #[.val (.ref a1), .val (.int cc), .val (.int cr), .val (.long cy), .second, .val (.ref aw), .val (.int (1024 : Int32)), .val (.int ci), .val (.long cw), .second] [])) _
        refine XS.iload XL.here hx rfl (hb hby d5_20) rfl ?_
        show Steps p.tables e below (TL.setTop (mkF m 22 #[.val (.ref a1), .val (.int cc), .val (.int cr), .val (.long cy), .second, .val (.ref aw), .val (.int (1024 : Int32)), .val (.int ci), .val (.long cw), .second] [(.int ci)])) _
        refine XS.iload XL.here hx rfl (hb hby d5_22) rfl ?_
        show Steps p.tables e below (TL.setTop (mkF m 24 #[.val (.ref a1), .val (.int cc), .val (.int cr), .val (.long cy), .second, .val (.ref aw), .val (.int (1024 : Int32)), .val (.int ci), .val (.long cw), .second] [(.int (1024 : Int32)), (.int ci)])) _
        refine XS.icmpNo XL.here hx rfl (hb hby d5_24) rfl (XT.ii_ge_f (own_lt h1 h2)) ?_
        show Steps p.tables e below (TL.setTop (mkF m 27 #[.val (.ref a1), .val (.int cc), .val (.int cr), .val (.long cy), .second, .val (.ref aw), .val (.int (1024 : Int32)), .val (.int ci), .val (.long cw), .second] [])) _
        refine XS.aload XL.here hx rfl (hb hby d5_27) rfl rfl ?_
        show Steps p.tables e below (TL.setTop (mkF m 29 #[.val (.ref a1), .val (.int cc), .val (.int cr), .val (.long cy), .second, .val (.ref aw), .val (.int (1024 : Int32)), .val (.int ci), .val (.long cw), .second] [(.ref aw)])) _
        refine XS.iload XL.here hx rfl (hb hby d5_29) rfl ?_
        show Steps p.tables e below (TL.setTop (mkF m 31 #[.val (.ref a1), .val (.int cc), .val (.int cr), .val (.long cy), .second, .val (.ref aw), .val (.int (1024 : Int32)), .val (.int ci), .val (.long cw), .second] [(.int ci), (.ref aw)])) _
        refine owLdJ (k := k) XL hx hZ eL A_aw (j := ci) h1 (by omega) (g := (mkF m 31 #[.val (.ref a1), .val (.int cc), .val (.int cr), .val (.long cy), .second, .val (.ref aw), .val (.int (1024 : Int32)), .val (.int ci), .val (.long cw), .second] [(.int ci), (.ref aw)])) rfl rfl (hb hby d5_31) _ ?_
        show Steps p.tables e below (TL.setTop (mkF m 32 #[.val (.ref a1), .val (.int cc), .val (.int cr), .val (.long cy), .second, .val (.ref aw), .val (.int (1024 : Int32)), .val (.int ci), .val (.long cw), .second] [(.long (fz k))])) _
        refine XS.lstore XL.here hx rfl (hb hby d5_32) rfl (l' := #[.val (.ref a1), .val (.int cc), .val (.int cr), .val (.long cy), .second, .val (.ref aw), .val (.int (1024 : Int32)), .val (.int ci), .val (.long (fz k)), .second]) rfl ?_
        show Steps p.tables e below (TL.setTop (mkF m 34 #[.val (.ref a1), .val (.int cc), .val (.int cr), .val (.long cy), .second, .val (.ref aw), .val (.int (1024 : Int32)), .val (.int ci), .val (.long (fz k)), .second] [])) _
        refine XS.iloadN XL.here hx rfl (hb hby d5_34) rfl ?_
        show Steps p.tables e below (TL.setTop (mkF m 35 #[.val (.ref a1), .val (.int cc), .val (.int cr), .val (.long cy), .second, .val (.ref aw), .val (.int (1024 : Int32)), .val (.int ci), .val (.long (fz k)), .second] [(.int cc)])) _
        refine XS.lload XL.here hx rfl (hb hby d5_35) rfl ?_
        show Steps p.tables e below (TL.setTop (mkF m 37 #[.val (.ref a1), .val (.int cc), .val (.int cr), .val (.long cy), .second, .val (.ref aw), .val (.int (1024 : Int32)), .val (.int ci), .val (.long (fz k)), .second] [(.long (fz k)), (.int cc)])) _
        refine st8 _ ?_
        show Steps p.tables e below (T8.setTop (mkF m 40 #[.val (.ref a1), .val (.int cc), .val (.int cr), .val (.long cy), .second, .val (.ref aw), .val (.int (1024 : Int32)), .val (.int ci), .val (.long (fz k)), .second] [(.int r8), (.int cc)])) _
        refine XS.iadd X8.here hx rfl (hb hby d5_40) rfl ?_
        show Steps p.tables e below (T8.setTop (mkF m 41 #[.val (.ref a1), .val (.int cc), .val (.int cr), .val (.long cy), .second, .val (.ref aw), .val (.int (1024 : Int32)), .val (.int ci), .val (.long (fz k)), .second] [(.int (cc + r8))])) _
        refine XS.istoreN X8.here hx rfl (hb hby d5_41) rfl (l' := #[.val (.ref a1), .val (.int (cc + r8)), .val (.int cr), .val (.long cy), .second, .val (.ref aw), .val (.int (1024 : Int32)), .val (.int ci), .val (.long (fz k)), .second]) rfl ?_
        show Steps p.tables e below (T8.setTop (mkF m 42 #[.val (.ref a1), .val (.int (cc + r8)), .val (.int cr), .val (.long cy), .second, .val (.ref aw), .val (.int (1024 : Int32)), .val (.int ci), .val (.long (fz k)), .second] [])) _
        refine XS.iloadN X8.here hx rfl (hb hby d5_42) rfl ?_
        show Steps p.tables e below (T8.setTop (mkF m 43 #[.val (.ref a1), .val (.int (cc + r8)), .val (.int cr), .val (.long cy), .second, .val (.ref aw), .val (.int (1024 : Int32)), .val (.int ci), .val (.long (fz k)), .second] [(.int cr)])) _
        refine XS.lload X8.here hx rfl (hb hby d5_43) rfl ?_
        show Steps p.tables e below (T8.setTop (mkF m 45 #[.val (.ref a1), .val (.int (cc + r8)), .val (.int cr), .val (.long cy), .second, .val (.ref aw), .val (.int (1024 : Int32)), .val (.int ci), .val (.long (fz k)), .second] [(.long (fz k)), (.int cr)])) _
        refine XS.lloadN X8.here hx rfl (hb hby d5_45) rfl ?_
        show Steps p.tables e below (T8.setTop (mkF m 46 #[.val (.ref a1), .val (.int (cc + r8)), .val (.int cr), .val (.long cy), .second, .val (.ref aw), .val (.int (1024 : Int32)), .val (.int ci), .val (.long (fz k)), .second] [(.long cy), (.long (fz k)), (.int cr)])) _
        refine st9 _ ?_
        show Steps p.tables e below (T9.setTop (mkF m 49 #[.val (.ref a1), .val (.int (cc + r8)), .val (.int cr), .val (.long cy), .second, .val (.ref aw), .val (.int (1024 : Int32)), .val (.int ci), .val (.long (fz k)), .second] [(.int r9), (.int cr)])) _
        refine XS.iadd X9.here hx rfl (hb hby d5_49) rfl ?_
        show Steps p.tables e below (T9.setTop (mkF m 50 #[.val (.ref a1), .val (.int (cc + r8)), .val (.int cr), .val (.long cy), .second, .val (.ref aw), .val (.int (1024 : Int32)), .val (.int ci), .val (.long (fz k)), .second] [(.int (cr + r9))])) _
        refine XS.istoreN X9.here hx rfl (hb hby d5_50) rfl (l' := #[.val (.ref a1), .val (.int (cc + r8)), .val (.int (cr + r9)), .val (.long cy), .second, .val (.ref aw), .val (.int (1024 : Int32)), .val (.int ci), .val (.long (fz k)), .second]) rfl ?_
        show Steps p.tables e below (T9.setTop (mkF m 51 #[.val (.ref a1), .val (.int (cc + r8)), .val (.int (cr + r9)), .val (.long cy), .second, .val (.ref aw), .val (.int (1024 : Int32)), .val (.int ci), .val (.long (fz k)), .second] [])) _
        refine XS.lload X9.here hx rfl (hb hby d5_51) rfl ?_
        show Steps p.tables e below (T9.setTop (mkF m 53 #[.val (.ref a1), .val (.int (cc + r8)), .val (.int (cr + r9)), .val (.long cy), .second, .val (.ref aw), .val (.int (1024 : Int32)), .val (.int ci), .val (.long (fz k)), .second] [(.long (fz k))])) _
        refine XS.bipush X9.here hx rfl (hb hby d5_53) ?_
        show Steps p.tables e below (T9.setTop (mkF m 55 #[.val (.ref a1), .val (.int (cc + r8)), .val (.int (cr + r9)), .val (.long cy), .second, .val (.ref aw), .val (.int (1024 : Int32)), .val (.int ci), .val (.long (fz k)), .second] [(.int (63 : Int32)), (.long (fz k))])) _
        refine XS.lushr X9.here hx rfl (hb hby d5_55) rfl ?_
        show Steps p.tables e below (T9.setTop (mkF m 56 #[.val (.ref a1), .val (.int (cc + r8)), .val (.int (cr + r9)), .val (.long cy), .second, .val (.ref aw), .val (.int (1024 : Int32)), .val (.int ci), .val (.long (fz k)), .second] [(.long (((fz k).toUInt64 >>> ((63 : Int32) &&& 0x3f).toInt64.toUInt64).toInt64))])) _
        refine XS.lstoreN X9.here hx rfl (hb hby d5_56) rfl (l' := #[.val (.ref a1), .val (.int (cc + r8)), .val (.int (cr + r9)), .val (.long (((fz k).toUInt64 >>> ((63 : Int32) &&& 0x3f).toInt64.toUInt64).toInt64)), .second, .val (.ref aw), .val (.int (1024 : Int32)), .val (.int ci), .val (.long (fz k)), .second]) rfl ?_
        show Steps p.tables e below (T9.setTop (mkF m 57 #[.val (.ref a1), .val (.int (cc + r8)), .val (.int (cr + r9)), .val (.long (((fz k).toUInt64 >>> ((63 : Int32) &&& 0x3f).toInt64.toUInt64).toInt64)), .second, .val (.ref aw), .val (.int (1024 : Int32)), .val (.int ci), .val (.long (fz k)), .second] [])) _
        refine XS.iinc X9.here hx rfl (hb hby d5_57) rfl (l' := #[.val (.ref a1), .val (.int (cc + r8)), .val (.int (cr + r9)), .val (.long (((fz k).toUInt64 >>> ((63 : Int32) &&& 0x3f).toInt64.toUInt64).toInt64)), .second, .val (.ref aw), .val (.int (1024 : Int32)), .val (.int (ci + (1 : Int32))), .val (.long (fz k)), .second]) rfl ?_
        show Steps p.tables e below (T9.setTop (mkF m 60 #[.val (.ref a1), .val (.int (cc + r8)), .val (.int (cr + r9)), .val (.long (((fz k).toUInt64 >>> ((63 : Int32) &&& 0x3f).toInt64.toUInt64).toInt64)), .second, .val (.ref aw), .val (.int (1024 : Int32)), .val (.int (ci + (1 : Int32))), .val (.long (fz k)), .second] [])) _
        refine XS.goto X9.here hx rfl (pc0 := 60) (pc' := 20) rfl (hb hby d5_60) (by decide) (by decide) ?_
        exact kt
      obtain ⟨T', lc', cc', cr', cy', cw', X', N', e', stL⟩ := ih T9 _ (cc + r8) (cr + r9) (ci + (1 : Int32)) (((fz k).toUInt64 >>> ((63 : Int32) &&& 0x3f).toInt64.toUInt64).toInt64) (fz k) (k + 1) X9 N9 hE9 (own_up h1 (by omega)) (by omega)
      exact ⟨T', lc', cc', cr', cy', cw', X', N', e', fun t kt => pre10 _ (stL t kt)⟩
  obtain ⟨TF, lcF, cc', cr', cy', cw', XF, NF', eF, stF⟩ := loop 1023 T3 _ ((0 : Int32) + r2) ((0 : Int32) + r3) (1 : Int32) (((fz 0).toUInt64 >>> ((63 : Int32) &&& 0x3f).toInt64.toUInt64).toInt64) (fz 0) 1 X3 N3 hE3 rfl rfl
  have pre11 : ∀ t, Steps p.tables e below (TF.setTop (mkF m 63 #[.val (.ref a1), .val (.int cc'), .val (.int cr'), .val (.long cy'), .second, .val (.ref aw), .val (.int (1024 : Int32)), .val (.int (1024 : Int32)), .val (.long cw'), .second] [])) t → Steps p.tables e below (s₁.setTop (entryFrame m #[(.ref a1)] 10)) t := fun t kt => pre4 _ (stF t kt)
  obtain ⟨T12, gh12, X12, hE12, W12, st12⟩ := putF XF hx hZ hown (host := "") (Or.inl (hw _ (List.mem_of_getElem? (i := 21) rfl))) Via.refl eF F_cardinality E_a1 (Or.inl (hw _ (List.mem_of_getElem? (i := 22) rfl))) (hw _ (List.mem_of_getElem? (i := 7) rfl)) (ty := .int) (by decide) rfl rfl (g := (mkF m 65 #[.val (.ref a1), .val (.int cc'), .val (.int cr'), .val (.long cy'), .second, .val (.ref aw), .val (.int (1024 : Int32)), .val (.int (1024 : Int32)), .val (.long cw'), .second] [(.int cc'), (.ref a1)])) rfl rfl (hb hby d5_65)
  have Fw12 := F_cardinality.same W12
  have f13 := E_a1.wr W12
  have f14 := A_aw.other W12 (Ne.symm n1w)
  have f15 := F_words.other W12 (Or.inr (slot_ne (Or.inr (hw _ (List.mem_of_getElem? (i := 20) rfl))) (Or.inl (hw _ (List.mem_of_getElem? (i := 22) rfl))) (by decide) (t := (.array .long)) (t' := .int) (by decide) (by decide)))
  have f17 := F_runs.other W12 (Or.inr (slot_ne (Or.inl (hw _ (List.mem_of_getElem? (i := 24) rfl))) (Or.inl (hw _ (List.mem_of_getElem? (i := 22) rfl))) (by decide) (t := .int) (t' := .int) (by decide) (by decide)))
  have Z18 := Nat.le_trans Z0 (Keep.of_wr W12).1
  have N19 := Fr.snoc X12 NF' g_a1
  have K20 := (Keep.refl h0 [a1]).wr W12 (Or.inl (List.mem_of_getElem? (i := 0) rfl))
  obtain ⟨T21, gh21, X21, hE21, W21, st21⟩ := putF X12 hx hZ hown (host := "") (Or.inl (hw _ (List.mem_of_getElem? (i := 23) rfl))) Via.refl hE12 f17 f13 (Or.inl (hw _ (List.mem_of_getElem? (i := 24) rfl))) (hw _ (List.mem_of_getElem? (i := 7) rfl)) (ty := .int) (by decide) rfl rfl (g := (mkF m 70 #[.val (.ref a1), .val (.int cc'), .val (.int cr'), .val (.long cy'), .second, .val (.ref aw), .val (.int (1024 : Int32)), .val (.int (1024 : Int32)), .val (.long cw'), .second] [(.int cr'), (.ref a1)])) rfl rfl (hb hby d5_70)
  have Fw21 := f17.same W21
  have f22 := f13.wr W21
  have f23 := f14.other W21 (Ne.symm n1w)
  have f24 := f15.other W21 (Or.inr (slot_ne (Or.inr (hw _ (List.mem_of_getElem? (i := 20) rfl))) (Or.inl (hw _ (List.mem_of_getElem? (i := 24) rfl))) (by decide) (t := (.array .long)) (t' := .int) (by decide) (by decide)))
  have f25 := Fw12.other W21 (Or.inr (slot_ne (Or.inl (hw _ (List.mem_of_getElem? (i := 22) rfl))) (Or.inl (hw _ (List.mem_of_getElem? (i := 24) rfl))) (by decide) (t := .int) (t' := .int) (by decide) (by decide)))
  have Z27 := Nat.le_trans Z18 (Keep.of_wr W21).1
  have N28 := Fr.snoc X21 N19 g_a1
  have K29 := K20.wr W21 (Or.inl (List.mem_of_getElem? (i := 0) rfl))
  have pre30 : ∀ t, Steps p.tables e below (T21.setTop (mkF m 73 #[.val (.ref a1), .val (.int cc'), .val (.int cr'), .val (.long cy'), .second, .val (.ref aw), .val (.int (1024 : Int32)), .val (.int (1024 : Int32)), .val (.long cw'), .second] [])) t → Steps p.tables e below (s₁.setTop (entryFrame m #[(.ref a1)] 10)) t := by
    intro t kt
    refine pre11 _ ?_
    show Steps p.tables e below (TF.setTop (mkF m 63 #[.val (.ref a1), .val (.int cc'), .val (.int cr'), .val (.long cy'), .second, .val (.ref aw), .val (.int (1024 : Int32)), .val (.int (1024 : Int32)), .val (.long cw'), .second] [])) _
    refine XS.aloadN XF.here hx rfl (hb hby d5_63) rfl rfl ?_
    show Steps p.tables e below (TF.setTop (mkF m 64 #[.val (.ref a1), .val (.int cc'), .val (.int cr'), .val (.long cy'), .second, .val (.ref aw), .val (.int (1024 : Int32)), .val (.int (1024 : Int32)), .val (.long cw'), .second] [(.ref a1)])) _
    refine XS.iloadN XF.here hx rfl (hb hby d5_64) rfl ?_
    show Steps p.tables e below (TF.setTop (mkF m 65 #[.val (.ref a1), .val (.int cc'), .val (.int cr'), .val (.long cy'), .second, .val (.ref aw), .val (.int (1024 : Int32)), .val (.int (1024 : Int32)), .val (.long cw'), .second] [(.int cc'), (.ref a1)])) _
    refine st12 _ ?_
    show Steps p.tables e below (T12.setTop (mkF m 68 #[.val (.ref a1), .val (.int cc'), .val (.int cr'), .val (.long cy'), .second, .val (.ref aw), .val (.int (1024 : Int32)), .val (.int (1024 : Int32)), .val (.long cw'), .second] [])) _
    refine XS.aloadN X12.here hx rfl (hb hby d5_68) rfl rfl ?_
    show Steps p.tables e below (T12.setTop (mkF m 69 #[.val (.ref a1), .val (.int cc'), .val (.int cr'), .val (.long cy'), .second, .val (.ref aw), .val (.int (1024 : Int32)), .val (.int (1024 : Int32)), .val (.long cw'), .second] [(.ref a1)])) _
    refine XS.iloadN X12.here hx rfl (hb hby d5_69) rfl ?_
    show Steps p.tables e below (T12.setTop (mkF m 70 #[.val (.ref a1), .val (.int cc'), .val (.int cr'), .val (.long cy'), .second, .val (.ref aw), .val (.int (1024 : Int32)), .val (.int (1024 : Int32)), .val (.long cw'), .second] [(.int cr'), (.ref a1)])) _
    refine st21 _ ?_
    exact kt
  obtain ⟨fs, hr, hrun, hended, hW, hsame⟩ := X21.leave (v := none) (fun _ => rfl)
  refine ⟨_, _, pre30 _ ?_, hrun, hended, _, _, rfl, ?_, ⟨_, rfl⟩, hW, hsame.mono (by decide) (by decide)⟩
  · show Steps p.tables e below (T21.setTop (mkF m 73 #[.val (.ref a1), .val (.int cc'), .val (.int cr'), .val (.long cy'), .second, .val (.ref aw), .val (.int (1024 : Int32)), .val (.int (1024 : Int32)), .val (.long cw'), .second] [])) _
    exact X21.returnOut hx Bd.returns (hb hby d5_73) hr
  · show Q5 Z a1 aw uc ur fz h0 n0 _ T21.heap _
    rw [hE21]
    exact ⟨rfl, N28, K29, f22, f24⟩
theorem d3_0 : decode prog_23_method_3_code 0 = .ok (.aload_n 0, 1) := by decide +kernel
theorem d3_1 : decode prog_23_method_3_code 1 = .ok (.invokespecial 5, 3) := by decide +kernel
theorem d3_4 : decode prog_23_method_3_code 4 = .ok (.return_, 1) := by decide +kernel
theorem pn_3 : plainName "com/example/bitweight/bitweight/chunk/Chunk" = true := by first | (simp [plainName, overriddenIn]; done) | decide +kernel
theorem ef_3 (m : MethodId) (x0 : Addr) : entryFrame m #[(.ref x0)] 1 = mkF m 0 #[.val (.ref x0)] [] := by first | (simp [entryFrame, mkF, argsToLocals, Value.category]; done) | rfl
def Q3 (Z : State) (a1 : Addr) (h0 : Heap) (n0 : Nat) (v : Option Value) (h : Heap) (L : List Loc) : Prop := v = none ∧ Fr n0 L ∧ h = h0
set_option maxRecDepth 65536 in
set_option maxHeartbeats 40000000 in
theorem rm3 (l : Launch) (Z : State) (a0 : Array Value) (hw : ∀ d ∈ tables_1, d.before a0 Z = true) (ws : List Jvm.Cond) (a1 : Addr) (h0 : Heap) (n0 : Nat) (Z0 : n0 ≤ h0.size) :
    MetFree l (⟨"com/example/bitweight/bitweight/chunk/Chunk", "<init>", "()V"⟩ : MethodName) (head1 (Jvm.Cond.code (⟨"com/example/bitweight/bitweight/chunk/Chunk", "<init>", "()V"⟩ : MethodName) prog_23_method_3_code 1 none :: ws) ({ frames := 1, cells := 0, slots := 0, locals := 12 } : Room)) (fun a U => a = #[(.ref a1)] ∧ Z.Warmed39 U.vm ∧ U.heap = h0) (fun _ _ _ _ _ => True) (fun _ U o U' => ∃ v L, o = .returned v ∧ Q3 Z a1 h0 n0 v U'.heap L ∧ FrameEnd U o U' L ({ frames := 1, cells := 0, slots := 0, locals := 12 } : Room).cells ({ frames := 1, cells := 0, slots := 0, locals := 12 } : Room).slots) := by
  refine MetFree.of_bodySF (plainFor_of_name pn_3) hisR ?_
  intro p e s m args below meth c s₁ Bd hml0 hP hK
  obtain ⟨rfl, hZ, hh⟩ := hP
  have hx := Bd.exec
  have hby := Bd.bytes
  have hml : c.maxLocals = 1 := hml0
  have hown : s.vm.findClass "com/example/bitweight/bitweight/chunk/Chunk" = some m.cls := findClass_of_methodNamed Bd.named
  have hnm := (name_of_methodNamed Bd.named Bd.method).1
  have X0 : Stand p l e ({ frames := 1, cells := 0, slots := 0, locals := 12 } : Room) s m #[(.ref a1)] below meth c s₁ [] 0 0 := Stand.of_body Bd
  have e0 : s₁.heap = h0 := by rw [← hh, Bd.state]; rfl
  have N0 := Fr.nil n0
  have pre0 : ∀ t, Steps p.tables e below (s₁.setTop (mkF m 0 #[.val (.ref a1)] [])) t → Steps p.tables e below (s₁.setTop (entryFrame m #[(.ref a1)] 1)) t := fun t k => castTop (ef_3 m a1) k
  obtain ⟨T1, X1, hE1, st1⟩ := initO X0 hx hZ hown (hw _ (List.mem_of_getElem? (i := 16) rfl)) (hw _ (List.mem_of_getElem? (i := 17) rfl)) (hw _ (List.mem_of_getElem? (i := 18) rfl)) e0 (g := (mkF m 1 #[.val (.ref a1)] [(.ref a1)])) rfl (by rw [hml]; rfl) rfl (hb hby d3_1) (by decide) (W := 0) (by show 2 * 0 + _ ≤ _; exact Nat.le_of_eq rfl) (by decide)
  have pre2 : ∀ t, Steps p.tables e below (T1.setTop (mkF m 4 #[.val (.ref a1)] [])) t → Steps p.tables e below (s₁.setTop (entryFrame m #[(.ref a1)] 1)) t := by
    intro t kt
    refine pre0 _ ?_
    show Steps p.tables e below (s₁.setTop (mkF m 0 #[.val (.ref a1)] [])) _
    refine XS.aloadN X0.here hx rfl (hb hby d3_0) rfl rfl ?_
    show Steps p.tables e below (s₁.setTop (mkF m 1 #[.val (.ref a1)] [(.ref a1)])) _
    refine st1 _ ?_
    exact kt
  obtain ⟨fs, hr, hrun, hended, hW, hsame⟩ := X1.leave (v := none) (fun _ => rfl)
  refine ⟨_, _, pre2 _ ?_, hrun, hended, _, _, rfl, ?_, ⟨_, rfl⟩, hW, hsame.mono (by decide) (by decide)⟩
  · show Steps p.tables e below (T1.setTop (mkF m 4 #[.val (.ref a1)] [])) _
    exact X1.returnOut hx Bd.returns (hb hby d3_4) hr
  · show Q3 Z a1 h0 n0 _ T1.heap _
    rw [hE1]
    exact ⟨rfl, N0, rfl⟩
theorem d2_0 : decode prog_39_method_2_code 0 = .ok (.aload_n 0, 1) := by decide +kernel
theorem d2_1 : decode prog_39_method_2_code 1 = .ok (.invokespecial 15, 3) := by decide +kernel
theorem d2_4 : decode prog_39_method_2_code 4 = .ok (.aload_n 0, 1) := by decide +kernel
theorem d2_5 : decode prog_39_method_2_code 5 = .ok (.aload_n 1, 1) := by decide +kernel
theorem d2_6 : decode prog_39_method_2_code 6 = .ok (.putfield 18, 3) := by decide +kernel
theorem d2_9 : decode prog_39_method_2_code 9 = .ok (.aload_n 0, 1) := by decide +kernel
theorem d2_10 : decode prog_39_method_2_code 10 = .ok (.iload_n 2, 1) := by decide +kernel
theorem d2_11 : decode prog_39_method_2_code 11 = .ok (.putfield 22, 3) := by decide +kernel
theorem d2_14 : decode prog_39_method_2_code 14 = .ok (.aload_n 0, 1) := by decide +kernel
theorem d2_15 : decode prog_39_method_2_code 15 = .ok (.iload_n 3, 1) := by decide +kernel
theorem d2_16 : decode prog_39_method_2_code 16 = .ok (.putfield 26, 3) := by decide +kernel
theorem d2_19 : decode prog_39_method_2_code 19 = .ok (.return_, 1) := by decide +kernel
theorem pn_2 : plainName "com/example/bitweight/bitweight/chunk/WordChunk" = true := by first | (simp [plainName, overriddenIn]; done) | decide +kernel
theorem ef_2 (m : MethodId) (x0 : Addr) (x1 : Addr) (x2 : Int32) (x3 : Int32) : entryFrame m #[(.ref x0), (.ref x1), (.int x2), (.int x3)] 4 = mkF m 0 #[.val (.ref x0), .val (.ref x1), .val (.int x2), .val (.int x3)] [] := by first | (simp [entryFrame, mkF, argsToLocals, Value.category]; done) | rfl
theorem pd_2 : parseMethodDescriptor "()V" = some ⟨[], none⟩ := by decide +kernel
def Q2 (Z : State) (a1 : Addr) (a2 : Addr) (p3 : Int32) (p4 : Int32) (h0 : Heap) (n0 : Nat) (v : Option Value) (h : Heap) (L : List Loc) : Prop := v = none ∧ Fr n0 L ∧ Keep h0 h [a1] ∧ Exa Z h a1 "com/example/bitweight/bitweight/chunk/WordChunk" ∧ Fld Z h a1 "com/example/bitweight/bitweight/chunk/WordChunk" "words" "[J" (.ref a2) ∧ Fld Z h a1 "com/example/bitweight/bitweight/chunk/WordChunk" "cardinality" "I" (.int p3) ∧ Fld Z h a1 "com/example/bitweight/bitweight/chunk/WordChunk" "runs" "I" (.int p4)
set_option maxRecDepth 65536 in
set_option maxHeartbeats 40000000 in
theorem rm2 (l : Launch) (Z : State) (a0 : Array Value) (hw : ∀ d ∈ tables_1, d.before a0 Z = true) (ws : List Jvm.Cond) (a1 : Addr) (a2 : Addr) (p3 : Int32) (p4 : Int32) (h0 : Heap) (n0 : Nat) (Z0 : n0 ≤ h0.size) (E_a1 : Exa Z h0 a1 "com/example/bitweight/bitweight/chunk/WordChunk") (F_words : Fld Z h0 a1 "com/example/bitweight/bitweight/chunk/WordChunk" "words" "[J" .null) (F_cardinality : Fld Z h0 a1 "com/example/bitweight/bitweight/chunk/WordChunk" "cardinality" "I" (.int (0 : Int32))) (F_runs : Fld Z h0 a1 "com/example/bitweight/bitweight/chunk/WordChunk" "runs" "I" (.int (0 : Int32))) (g_a1 : n0 ≤ a1) :
    MetFree l (⟨"com/example/bitweight/bitweight/chunk/WordChunk", "<init>", "([JII)V"⟩ : MethodName) (head1 (Jvm.Cond.code (⟨"com/example/bitweight/bitweight/chunk/WordChunk", "<init>", "([JII)V"⟩ : MethodName) prog_39_method_2_code 4 none :: ws) ({ frames := 2, cells := 0, slots := 0, locals := 24 } : Room)) (fun a U => a = #[(.ref a1), (.ref a2), (.int p3), (.int p4)] ∧ Z.Warmed39 U.vm ∧ U.heap = h0) (fun _ _ _ _ _ => True) (fun _ U o U' => ∃ v L, o = .returned v ∧ Q2 Z a1 a2 p3 p4 h0 n0 v U'.heap L ∧ FrameEnd U o U' L ({ frames := 2, cells := 0, slots := 0, locals := 24 } : Room).cells ({ frames := 2, cells := 0, slots := 0, locals := 24 } : Room).slots) := by
  refine MetFree.of_bodySF (plainFor_of_name pn_2) hisR ?_
  intro p e s m args below meth c s₁ Bd hml0 hP hK
  obtain ⟨rfl, hZ, hh⟩ := hP
  have hx := Bd.exec
  have hby := Bd.bytes
  have hml : c.maxLocals = 4 := hml0
  have hown : s.vm.findClass "com/example/bitweight/bitweight/chunk/WordChunk" = some m.cls := findClass_of_methodNamed Bd.named
  have hnm := (name_of_methodNamed Bd.named Bd.method).1
  have X0 : Stand p l e ({ frames := 2, cells := 0, slots := 0, locals := 24 } : Room) s m #[(.ref a1), (.ref a2), (.int p3), (.int p4)] below meth c s₁ [] 0 0 := Stand.of_body Bd
  have e0 : s₁.heap = h0 := by rw [← hh, Bd.state]; rfl
  have N0 := Fr.nil n0
  have pre0 : ∀ t, Steps p.tables e below (s₁.setTop (mkF m 0 #[.val (.ref a1), .val (.ref a2), .val (.int p3), .val (.int p4)] [])) t → Steps p.tables e below (s₁.setTop (entryFrame m #[(.ref a1), (.ref a2), (.int p3), (.int p4)] 4)) t := fun t k => castTop (ef_2 m a1 a2 p3 p4) k
  obtain ⟨_, _, ⟨T1, L1, k1, n1⟩, -, X1, ⟨Lc1, hQ1, l1, y1, z1⟩, st1⟩ := X0.specialBack hx (y := (⟨"com/example/bitweight/bitweight/chunk/Chunk", "<init>", "()V"⟩ : MethodName)) rfl hown (mvT hZ (hw _ (List.mem_of_getElem? (i := 11) rfl))) (mvT hZ (hw _ (List.mem_of_getElem? (i := 12) rfl))) (mvT hZ (hw _ (List.mem_of_getElem? (i := 15) rfl))) (by decide) (backOf (W := 0) (rm3 l Z a0 hw [] a1 h0 n0 Z0) hZ (hw _ (List.mem_of_getElem? (i := 15) rfl)) (hw _ (List.mem_of_getElem? (i := 14) rfl)) (by decide) (by decide)) (g := (mkF m 1 #[.val (.ref a1), .val (.ref a2), .val (.int p3), .val (.int p4)] [(.ref a1)])) rfl (by rw [hml]; rfl) (Steps.refl _) (a := a1) (argsL := []) (rest := []) (lenOf pd_2 rfl) rfl (by show 2 * 0 + _ ≤ _; exact Nat.le_of_eq rfl) (hb hby d2_1) (fun _ _ => ⟨rfl, e0, (by decide : 0 + 0 ≤ _), (by decide : 0 + 0 ≤ _)⟩)
  dsimp only [Pt.U, Pt.locs, Pt.cells, Pt.slots] at X1 l1 y1 z1 st1 hQ1
  subst l1 y1 z1
  obtain ⟨rfl, N1q, hE1⟩ := hQ1
  have N1 := Fr.app N0 N1q
  obtain ⟨T2, gh2, X2, hE2, W2, st2⟩ := putF X1 hx hZ hown (host := "") (Or.inl (hw _ (List.mem_of_getElem? (i := 19) rfl))) Via.refl hE1 F_words E_a1 (Or.inr ⟨(hw _ (List.mem_of_getElem? (i := 20) rfl)), rfl, hnm⟩) (hw _ (List.mem_of_getElem? (i := 7) rfl)) (ty := (.array .long)) (by decide) rfl rfl (g := (mkF m 6 #[.val (.ref a1), .val (.ref a2), .val (.int p3), .val (.int p4)] [(.ref a2), (.ref a1)])) rfl rfl (hb hby d2_6)
  have Fw2 := F_words.same W2
  have f3 := E_a1.wr W2
  have f5 := F_cardinality.other W2 (Or.inr (slot_ne (Or.inl (hw _ (List.mem_of_getElem? (i := 22) rfl))) (Or.inr (hw _ (List.mem_of_getElem? (i := 20) rfl))) (by decide) (t := .int) (t' := (.array .long)) (by decide) (by decide)))
  have f6 := F_runs.other W2 (Or.inr (slot_ne (Or.inl (hw _ (List.mem_of_getElem? (i := 24) rfl))) (Or.inr (hw _ (List.mem_of_getElem? (i := 20) rfl))) (by decide) (t := .int) (t' := (.array .long)) (by decide) (by decide)))
  have Z7 := Nat.le_trans Z0 (Keep.of_wr W2).1
  have N8 := Fr.snoc X2 N1 g_a1
  have K9 := (Keep.refl h0 [a1]).wr W2 (Or.inl (List.mem_of_getElem? (i := 0) rfl))
  obtain ⟨T10, gh10, X10, hE10, W10, st10⟩ := putF X2 hx hZ hown (host := "") (Or.inl (hw _ (List.mem_of_getElem? (i := 21) rfl))) Via.refl hE2 f5 f3 (Or.inl (hw _ (List.mem_of_getElem? (i := 22) rfl))) (hw _ (List.mem_of_getElem? (i := 7) rfl)) (ty := .int) (by decide) rfl rfl (g := (mkF m 11 #[.val (.ref a1), .val (.ref a2), .val (.int p3), .val (.int p4)] [(.int p3), (.ref a1)])) rfl rfl (hb hby d2_11)
  have Fw10 := f5.same W10
  have f11 := f3.wr W10
  have f12 := Fw2.other W10 (Or.inr (slot_ne (Or.inr (hw _ (List.mem_of_getElem? (i := 20) rfl))) (Or.inl (hw _ (List.mem_of_getElem? (i := 22) rfl))) (by decide) (t := (.array .long)) (t' := .int) (by decide) (by decide)))
  have f14 := f6.other W10 (Or.inr (slot_ne (Or.inl (hw _ (List.mem_of_getElem? (i := 24) rfl))) (Or.inl (hw _ (List.mem_of_getElem? (i := 22) rfl))) (by decide) (t := .int) (t' := .int) (by decide) (by decide)))
  have Z15 := Nat.le_trans Z7 (Keep.of_wr W10).1
  have N16 := Fr.snoc X10 N8 g_a1
  have K17 := K9.wr W10 (Or.inl (List.mem_of_getElem? (i := 0) rfl))
  obtain ⟨T18, gh18, X18, hE18, W18, st18⟩ := putF X10 hx hZ hown (host := "") (Or.inl (hw _ (List.mem_of_getElem? (i := 23) rfl))) Via.refl hE10 f14 f11 (Or.inl (hw _ (List.mem_of_getElem? (i := 24) rfl))) (hw _ (List.mem_of_getElem? (i := 7) rfl)) (ty := .int) (by decide) rfl rfl (g := (mkF m 16 #[.val (.ref a1), .val (.ref a2), .val (.int p3), .val (.int p4)] [(.int p4), (.ref a1)])) rfl rfl (hb hby d2_16)
  have Fw18 := f14.same W18
  have f19 := f11.wr W18
  have f20 := f12.other W18 (Or.inr (slot_ne (Or.inr (hw _ (List.mem_of_getElem? (i := 20) rfl))) (Or.inl (hw _ (List.mem_of_getElem? (i := 24) rfl))) (by decide) (t := (.array .long)) (t' := .int) (by decide) (by decide)))
  have f21 := Fw10.other W18 (Or.inr (slot_ne (Or.inl (hw _ (List.mem_of_getElem? (i := 22) rfl))) (Or.inl (hw _ (List.mem_of_getElem? (i := 24) rfl))) (by decide) (t := .int) (t' := .int) (by decide) (by decide)))
  have Z23 := Nat.le_trans Z15 (Keep.of_wr W18).1
  have N24 := Fr.snoc X18 N16 g_a1
  have K25 := K17.wr W18 (Or.inl (List.mem_of_getElem? (i := 0) rfl))
  have pre26 : ∀ t, Steps p.tables e below (T18.setTop (mkF m 19 #[.val (.ref a1), .val (.ref a2), .val (.int p3), .val (.int p4)] [])) t → Steps p.tables e below (s₁.setTop (entryFrame m #[(.ref a1), (.ref a2), (.int p3), (.int p4)] 4)) t := by
    intro t kt
    refine pre0 _ ?_
    show Steps p.tables e below (s₁.setTop (mkF m 0 #[.val (.ref a1), .val (.ref a2), .val (.int p3), .val (.int p4)] [])) _
    refine XS.aloadN X0.here hx rfl (hb hby d2_0) rfl rfl ?_
    show Steps p.tables e below (s₁.setTop (mkF m 1 #[.val (.ref a1), .val (.ref a2), .val (.int p3), .val (.int p4)] [(.ref a1)])) _
    refine st1.trans ?_
    show Steps p.tables e below (T1.setTop (mkF m 4 #[.val (.ref a1), .val (.ref a2), .val (.int p3), .val (.int p4)] [])) _
    refine XS.aloadN X1.here hx rfl (hb hby d2_4) rfl rfl ?_
    show Steps p.tables e below (T1.setTop (mkF m 5 #[.val (.ref a1), .val (.ref a2), .val (.int p3), .val (.int p4)] [(.ref a1)])) _
    refine XS.aloadN X1.here hx rfl (hb hby d2_5) rfl rfl ?_
    show Steps p.tables e below (T1.setTop (mkF m 6 #[.val (.ref a1), .val (.ref a2), .val (.int p3), .val (.int p4)] [(.ref a2), (.ref a1)])) _
    refine st2 _ ?_
    show Steps p.tables e below (T2.setTop (mkF m 9 #[.val (.ref a1), .val (.ref a2), .val (.int p3), .val (.int p4)] [])) _
    refine XS.aloadN X2.here hx rfl (hb hby d2_9) rfl rfl ?_
    show Steps p.tables e below (T2.setTop (mkF m 10 #[.val (.ref a1), .val (.ref a2), .val (.int p3), .val (.int p4)] [(.ref a1)])) _
    refine XS.iloadN X2.here hx rfl (hb hby d2_10) rfl ?_
    show Steps p.tables e below (T2.setTop (mkF m 11 #[.val (.ref a1), .val (.ref a2), .val (.int p3), .val (.int p4)] [(.int p3), (.ref a1)])) _
    refine st10 _ ?_
    show Steps p.tables e below (T10.setTop (mkF m 14 #[.val (.ref a1), .val (.ref a2), .val (.int p3), .val (.int p4)] [])) _
    refine XS.aloadN X10.here hx rfl (hb hby d2_14) rfl rfl ?_
    show Steps p.tables e below (T10.setTop (mkF m 15 #[.val (.ref a1), .val (.ref a2), .val (.int p3), .val (.int p4)] [(.ref a1)])) _
    refine XS.iloadN X10.here hx rfl (hb hby d2_15) rfl ?_
    show Steps p.tables e below (T10.setTop (mkF m 16 #[.val (.ref a1), .val (.ref a2), .val (.int p3), .val (.int p4)] [(.int p4), (.ref a1)])) _
    refine st18 _ ?_
    exact kt
  obtain ⟨fs, hr, hrun, hended, hW, hsame⟩ := X18.leave (v := none) (fun _ => rfl)
  refine ⟨_, _, pre26 _ ?_, hrun, hended, _, _, rfl, ?_, ⟨_, rfl⟩, hW, hsame.mono (by decide) (by decide)⟩
  · show Steps p.tables e below (T18.setTop (mkF m 19 #[.val (.ref a1), .val (.ref a2), .val (.int p3), .val (.int p4)] [])) _
    exact X18.returnOut hx Bd.returns (hb hby d2_19) hr
  · show Q2 Z a1 a2 p3 p4 h0 n0 _ T18.heap _
    rw [hE18]
    exact ⟨rfl, N24, K25, f19, f20, f21, Fw18⟩
theorem d1_0 : decode prog_39_method_4_code 0 = .ok (.new 9, 3) := by decide +kernel
theorem d1_3 : decode prog_39_method_4_code 3 = .ok (.dup, 1) := by decide +kernel
theorem d1_4 : decode prog_39_method_4_code 4 = .ok (.aload_n 0, 1) := by decide +kernel
theorem d1_5 : decode prog_39_method_4_code 5 = .ok (.iconst 0, 1) := by decide +kernel
theorem d1_6 : decode prog_39_method_4_code 6 = .ok (.iconst 0, 1) := by decide +kernel
theorem d1_7 : decode prog_39_method_4_code 7 = .ok (.invokespecial 11, 3) := by decide +kernel
theorem d1_10 : decode prog_39_method_4_code 10 = .ok (.astore_n 1, 1) := by decide +kernel
theorem d1_11 : decode prog_39_method_4_code 11 = .ok (.aload_n 1, 1) := by decide +kernel
theorem d1_12 : decode prog_39_method_4_code 12 = .ok (.invokevirtual 38, 3) := by decide +kernel
theorem d1_15 : decode prog_39_method_4_code 15 = .ok (.aload_n 1, 1) := by decide +kernel
theorem d1_16 : decode prog_39_method_4_code 16 = .ok (.areturn, 1) := by decide +kernel
theorem pn_1 : plainName "com/example/bitweight/bitweight/chunk/WordChunk" = true := by first | (simp [plainName, overriddenIn]; done) | decide +kernel
theorem ef_1 (m : MethodId) (x0 : Addr) : entryFrame m #[(.ref x0)] 2 = mkF m 0 #[.val (.ref x0), .unset] [] := by first | (simp [entryFrame, mkF, argsToLocals, Value.category]; done) | rfl
theorem pd_3 : parseMethodDescriptor "([JII)V" = some ⟨[(.array .long), .int, .int], none⟩ := by decide +kernel
def Q1 (Z : State) (a1 : Addr) (fz : Nat → Int64) (h0 : Heap) (n0 : Nat) (v : Option Value) (h : Heap) (L : List Loc) : Prop := ∃ b : Addr, v = some (.ref b) ∧ Fr n0 L ∧ Keep h0 h [] ∧ h0.size ≤ b ∧ Exa Z h b "com/example/bitweight/bitweight/chunk/WordChunk" ∧ Fld Z h b "com/example/bitweight/bitweight/chunk/WordChunk" "words" "[J" (.ref a1)
set_option maxRecDepth 65536 in
set_option maxHeartbeats 40000000 in
theorem rm1 (l : Launch) (Z : State) (a0 : Array Value) (hw : ∀ d ∈ tables_1, d.before a0 Z = true) (ws : List Jvm.Cond) (a1 : Addr) (fz : Nat → Int64) (h0 : Heap) (n0 : Nat) (Z0 : n0 ≤ h0.size) (A_a1 : owAJ Z h0 a1 .long 1024 fz) :
    MetFree l (⟨"com/example/bitweight/bitweight/chunk/WordChunk", "of", "([J)Lcom/example/bitweight/bitweight/chunk/WordChunk;"⟩ : MethodName) (head1 (Jvm.Cond.code (⟨"com/example/bitweight/bitweight/chunk/WordChunk", "of", "([J)Lcom/example/bitweight/bitweight/chunk/WordChunk;"⟩ : MethodName) prog_39_method_4_code 2 (some (.object "com/example/bitweight/bitweight/chunk/WordChunk")) :: ws) ({ frames := 3, cells := 1, slots := 3, locals := 50 } : Room)) (fun a U => a = #[(.ref a1)] ∧ Z.Warmed39 U.vm ∧ U.heap = h0) (fun _ _ _ _ _ => True) (fun _ U o U' => ∃ v L, o = .returned v ∧ Q1 Z a1 fz h0 n0 v U'.heap L ∧ FrameEnd U o U' L ({ frames := 3, cells := 1, slots := 3, locals := 50 } : Room).cells ({ frames := 3, cells := 1, slots := 3, locals := 50 } : Room).slots) := by
  refine MetFree.of_bodySF (plainFor_of_name pn_1) hisR ?_
  intro p e s m args below meth c s₁ Bd hml0 hP hK
  obtain ⟨rfl, hZ, hh⟩ := hP
  have hx := Bd.exec
  have hby := Bd.bytes
  have hml : c.maxLocals = 2 := hml0
  have hown : s.vm.findClass "com/example/bitweight/bitweight/chunk/WordChunk" = some m.cls := findClass_of_methodNamed Bd.named
  have hnm := (name_of_methodNamed Bd.named Bd.method).1
  have X0 : Stand p l e ({ frames := 3, cells := 1, slots := 3, locals := 50 } : Room) s m #[(.ref a1)] below meth c s₁ [] 0 0 := Stand.of_body Bd
  have e0 : s₁.heap = h0 := by rw [← hh, Bd.state]; rfl
  have N0 := Fr.nil n0
  have pre0 : ∀ t, Steps p.tables e below (s₁.setTop (mkF m 0 #[.val (.ref a1), .unset] [])) t → Steps p.tables e below (s₁.setTop (entryFrame m #[(.ref a1)] 2)) t := fun t k => castTop (ef_1 m a1) k
  obtain ⟨T1, gh1, X1, hE1, E1, A1, D1, -, st1⟩ := newO X0 hx hZ hown (hw _ (List.mem_of_getElem? (i := 6) rfl)) (hw _ (List.mem_of_getElem? (i := 7) rfl)) (hw _ (List.mem_of_getElem? (i := 4) rfl)) e0 (g := (mkF m 0 #[.val (.ref a1), .unset] [])) rfl (hb hby d1_0) (by decide) (by decide)
  obtain ⟨bo, g1⟩ : ∃ z, z = h0.size := ⟨_, rfl⟩
  rw [← g1] at A1 D1 st1
  have ne_a1_bo : a1 ≠ bo := Nat.ne_of_lt (Nat.lt_of_lt_of_le A_a1.lt (Nat.le_of_eq g1.symm))
  have g_bo : n0 ≤ bo := Nat.le_trans Z0 (Nat.le_of_eq g1.symm)
  have sz_bo : h0.size ≤ bo := Nat.le_trans (Keep.refl h0 []).1 (Nat.le_of_eq g1.symm)
  have f2 := A_a1.ext E1
  have Z3 := Nat.le_trans Z0 E1.1
  have K4 := (Keep.refl h0 []).ext E1
  have F_words_bo : Fld Z gh1 bo "com/example/bitweight/bitweight/chunk/WordChunk" "words" "[J" .null := D1 (Or.inr (hw _ (List.mem_of_getElem? (i := 20) rfl))) (ty := (.array .long)) (by decide)
  have F_cardinality_bo : Fld Z gh1 bo "com/example/bitweight/bitweight/chunk/WordChunk" "cardinality" "I" (.int (0 : Int32)) := D1 (Or.inl (hw _ (List.mem_of_getElem? (i := 22) rfl))) (ty := .int) (by decide)
  have F_runs_bo : Fld Z gh1 bo "com/example/bitweight/bitweight/chunk/WordChunk" "runs" "I" (.int (0 : Int32)) := D1 (Or.inl (hw _ (List.mem_of_getElem? (i := 24) rfl))) (ty := .int) (by decide)
  obtain ⟨_, _, ⟨T5, L5, k5, n5⟩, -, X5, ⟨Lc5, hQ5, l5, y5, z5⟩, st5⟩ := X1.specialBack hx (y := (⟨"com/example/bitweight/bitweight/chunk/WordChunk", "<init>", "([JII)V"⟩ : MethodName)) rfl hown (mvT hZ (hw _ (List.mem_of_getElem? (i := 8) rfl))) (mvT hZ (hw _ (List.mem_of_getElem? (i := 9) rfl))) (mvT hZ (hw _ (List.mem_of_getElem? (i := 10) rfl))) (by decide) (backOf (W := 1) (rm2 l Z a0 hw [] bo a1 (0 : Int32) (0 : Int32) gh1 n0 Z3 A1 F_words_bo F_cardinality_bo F_runs_bo g_bo) hZ (hw _ (List.mem_of_getElem? (i := 10) rfl)) (hw _ (List.mem_of_getElem? (i := 4) rfl)) (by decide) (by decide)) (g := (mkF m 7 #[.val (.ref a1), .unset] [(.int (0 : Int32)), (.int (0 : Int32)), (.ref a1), (.ref bo), (.ref bo)])) rfl (by rw [hml]; rfl) (Steps.refl _) (a := bo) (argsL := [(.ref a1), (.int (0 : Int32)), (.int (0 : Int32))]) (rest := [(.ref bo)]) (lenOf pd_3 rfl) rfl (by show 2 * 0 + _ ≤ _; exact Nat.le_of_eq rfl) (hb hby d1_7) (fun _ _ => ⟨rfl, hE1, (by decide : 1 + 0 ≤ _), (by decide : 3 + 0 ≤ _)⟩)
  dsimp only [Pt.U, Pt.locs, Pt.cells, Pt.slots] at X5 l5 y5 z5 st5 hQ5
  subst l5 y5 z5
  obtain ⟨rfl, N5q, K5, p5_0, p5_1, p5_2, p5_3⟩ := hQ5
  have N5 := Fr.app N0 N5q
  have f6 := f2.keep K5 (ninS ne_a1_bo nin0)
  have f7 := A1.keep K5
  have Z11 := Nat.le_trans Z3 K5.1
  have K12 := K4.trans K5 (allS (Or.inr sz_bo) all0)
  obtain ⟨cq13, q13, q13'⟩ := p5_0.cell
  obtain ⟨_, _, ⟨T13, L13, k13, n13⟩, -, X13, ⟨Lc13, hQ13, l13, y13, z13⟩, st13⟩ := X5.privateBack hx (y := (⟨"com/example/bitweight/bitweight/chunk/WordChunk", "recount", "()V"⟩ : MethodName)) hown (mvT hZ (hw _ (List.mem_of_getElem? (i := 25) rfl))) (mvT hZ (hw _ (List.mem_of_getElem? (i := 26) rfl))) (owSel (mvT hZ (hw _ (List.mem_of_getElem? (i := 7) rfl))) (Cond.privateMethod_at (mvP hZ (hw _ (List.mem_of_getElem? (i := 27) rfl)) (args := #[]))) (mvT hZ (hw _ (List.mem_of_getElem? (i := 26) rfl))) (by decide)) (Cond.privateMethod_at (mvP hZ (hw _ (List.mem_of_getElem? (i := 27) rfl)) (args := #[]))) (mvT hZ (hw _ (List.mem_of_getElem? (i := 28) rfl))) (by decide) (backOf (W := 0) (rm5 l Z a0 hw [] bo a1 (0 : Int32) (0 : Int32) fz T5.heap n0 Z11 p5_0 p5_1 p5_2 p5_3 f6 g_bo (Ne.symm ne_a1_bo)) hZ (hw _ (List.mem_of_getElem? (i := 28) rfl)) (hw _ (List.mem_of_getElem? (i := 4) rfl)) (by decide) (by decide)) (g := (mkF m 12 #[.val (.ref a1), .val (.ref bo)] [(.ref bo)])) rfl (by rw [hml]; rfl) (Steps.refl _) (a := bo) q13 q13' (argsL := []) (rest := []) (lenOf pd_2 rfl) rfl (by show 2 * 0 + _ ≤ _; exact Nat.le_of_eq rfl) (hb hby d1_12) (fun _ _ => ⟨rfl, rfl, (by decide : 1 + 0 ≤ _), (by decide : 3 + 0 ≤ _)⟩)
  dsimp only [Pt.U, Pt.locs, Pt.cells, Pt.slots] at X13 l13 y13 z13 st13 hQ13
  subst l13 y13 z13
  obtain ⟨rfl, N13q, K13, p13_0, p13_1⟩ := hQ13
  have N13 := Fr.app N5 N13q
  have f14 := f6.keep K13 (ninS ne_a1_bo nin0)
  have f15 := p5_0.keep K13
  have Z19 := Nat.le_trans Z11 K13.1
  have K20 := K12.trans K13 (allS (Or.inr sz_bo) all0)
  have pre21 : ∀ t, Steps p.tables e below (T13.setTop (mkF m 16 #[.val (.ref a1), .val (.ref bo)] [(.ref bo)])) t → Steps p.tables e below (s₁.setTop (entryFrame m #[(.ref a1)] 2)) t := by
    intro t kt
    refine pre0 _ ?_
    show Steps p.tables e below (s₁.setTop (mkF m 0 #[.val (.ref a1), .unset] [])) _
    refine st1 _ ?_
    show Steps p.tables e below (T1.setTop (mkF m 3 #[.val (.ref a1), .unset] [(.ref bo)])) _
    refine XS.dup X1.here hx rfl (hb hby d1_3) rfl rfl ?_
    show Steps p.tables e below (T1.setTop (mkF m 4 #[.val (.ref a1), .unset] [(.ref bo), (.ref bo)])) _
    refine XS.aloadN X1.here hx rfl (hb hby d1_4) rfl rfl ?_
    show Steps p.tables e below (T1.setTop (mkF m 5 #[.val (.ref a1), .unset] [(.ref a1), (.ref bo), (.ref bo)])) _
    refine XS.iconst X1.here hx rfl (hb hby d1_5) ?_
    show Steps p.tables e below (T1.setTop (mkF m 6 #[.val (.ref a1), .unset] [(.int (0 : Int32)), (.ref a1), (.ref bo), (.ref bo)])) _
    refine XS.iconst X1.here hx rfl (hb hby d1_6) ?_
    show Steps p.tables e below (T1.setTop (mkF m 7 #[.val (.ref a1), .unset] [(.int (0 : Int32)), (.int (0 : Int32)), (.ref a1), (.ref bo), (.ref bo)])) _
    refine st5.trans ?_
    show Steps p.tables e below (T5.setTop (mkF m 10 #[.val (.ref a1), .unset] [(.ref bo)])) _
    refine XS.astoreN X5.here hx rfl (hb hby d1_10) rfl rfl (l' := #[.val (.ref a1), .val (.ref bo)]) rfl ?_
    show Steps p.tables e below (T5.setTop (mkF m 11 #[.val (.ref a1), .val (.ref bo)] [])) _
    refine XS.aloadN X5.here hx rfl (hb hby d1_11) rfl rfl ?_
    show Steps p.tables e below (T5.setTop (mkF m 12 #[.val (.ref a1), .val (.ref bo)] [(.ref bo)])) _
    refine st13.trans ?_
    show Steps p.tables e below (T13.setTop (mkF m 15 #[.val (.ref a1), .val (.ref bo)] [])) _
    refine XS.aloadN X13.here hx rfl (hb hby d1_15) rfl rfl ?_
    exact kt
  obtain ⟨fs, hr, hrun, hended, hW, hsame⟩ := X13.leave (v := some (.ref bo)) (fun h => by rw [Bd.returns] at h; cases h)
  refine ⟨_, _, pre21 _ ?_, hrun, hended, _, _, rfl, ?_, ⟨_, rfl⟩, hW, hsame.mono (by decide) (by decide)⟩
  · show Steps p.tables e below (T13.setTop (mkF m 16 #[.val (.ref a1), .val (.ref bo)] [(.ref bo)])) _
    exact X13.areturnOut hx rfl Bd.returns rfl (hb hby d1_16) hr
  · show Q1 Z a1 fz h0 n0 _ T13.heap _
    exact ⟨bo, rfl, N13, K20, sz_bo, p13_0, p13_1⟩
theorem d9_0 : decode method_4_code 0 = .ok (.iload 4, 2) := by decide +kernel
theorem d9_2 : decode method_4_code 2 = .ok (.ifCond .ne 5, 3) := by decide +kernel
theorem d9_5 : decode method_4_code 5 = .ok (.lload_n 0, 1) := by decide +kernel
theorem d9_6 : decode method_4_code 6 = .ok (.lreturn, 1) := by decide +kernel
theorem d9_7 : decode method_4_code 7 = .ok (.iload_n 3, 1) := by decide +kernel
theorem d9_8 : decode method_4_code 8 = .ok (.bipush 64, 2) := by decide +kernel
theorem d9_10 : decode method_4_code 10 = .ok (.idiv, 1) := by decide +kernel
theorem d9_11 : decode method_4_code 11 = .ok (.iload_n 2, 1) := by decide +kernel
theorem d9_12 : decode method_4_code 12 = .ok (.if_icmp .eq 5, 3) := by decide +kernel
theorem d9_15 : decode method_4_code 15 = .ok (.lload_n 0, 1) := by decide +kernel
theorem d9_16 : decode method_4_code 16 = .ok (.lreturn, 1) := by decide +kernel
theorem d9_17 : decode method_4_code 17 = .ok (.lconst 1, 1) := by decide +kernel
theorem d9_18 : decode method_4_code 18 = .ok (.iload_n 3, 1) := by decide +kernel
theorem d9_19 : decode method_4_code 19 = .ok (.bipush 64, 2) := by decide +kernel
theorem d9_21 : decode method_4_code 21 = .ok (.irem, 1) := by decide +kernel
theorem d9_22 : decode method_4_code 22 = .ok (.lshl, 1) := by decide +kernel
theorem d9_23 : decode method_4_code 23 = .ok (.lstore 6, 2) := by decide +kernel
theorem d9_25 : decode method_4_code 25 = .ok (.iload 5, 2) := by decide +kernel
theorem d9_27 : decode method_4_code 27 = .ok (.ifCond .eq 8, 3) := by decide +kernel
theorem d9_30 : decode method_4_code 30 = .ok (.lload_n 0, 1) := by decide +kernel
theorem d9_31 : decode method_4_code 31 = .ok (.lload 6, 2) := by decide +kernel
theorem d9_33 : decode method_4_code 33 = .ok (.lxor, 1) := by decide +kernel
theorem d9_34 : decode method_4_code 34 = .ok (.lreturn, 1) := by decide +kernel
theorem d9_35 : decode method_4_code 35 = .ok (.lload_n 0, 1) := by decide +kernel
theorem d9_36 : decode method_4_code 36 = .ok (.lload 6, 2) := by decide +kernel
theorem d9_38 : decode method_4_code 38 = .ok (.lor, 1) := by decide +kernel
theorem d9_39 : decode method_4_code 39 = .ok (.lreturn, 1) := by decide +kernel
theorem pn_9 : plainName "com/example/bitweight/bitweight/chunk/WordChunkTakeInPinLaw" = true := by first | (simp [plainName, overriddenIn]; done) | decide +kernel
theorem ef_9 (m : MethodId) (x0 : Int64) (x1 : Int32) (x2 : Int32) (x3 : Int32) (x4 : Int32) : entryFrame m #[(.long x0), (.int x1), (.int x2), (.int x3), (.int x4)] 8 = mkF m 0 #[.val (.long x0), .second, .val (.int x1), .val (.int x2), .val (.int x3), .val (.int x4), .unset, .unset] [] := by first | (simp [entryFrame, mkF, argsToLocals, Value.category]; done) | rfl
def fn9 (q1 : Int64) (p2 : Int32) (p3 : Int32) (p4 : Int32) (p5 : Int32) : Int64 := (if p4 = (0 : Int32) then q1 else (if (p3 / (64 : Int32)) = p2 then (if p5 = (0 : Int32) then (q1 ||| ((1 : Int64) <<< ((p3 % (64 : Int32)) &&& 0x3f).toInt64)) else (q1 ^^^ ((1 : Int64) <<< ((p3 % (64 : Int32)) &&& 0x3f).toInt64))) else q1))
def Q9 (Z : State) (q1 : Int64) (p2 : Int32) (p3 : Int32) (p4 : Int32) (p5 : Int32) (h0 : Heap) (n0 : Nat) (v : Option Value) (h : Heap) (L : List Loc) : Prop := v = some (.long (fn9 q1 p2 p3 p4 p5)) ∧ Fr n0 L ∧ h = h0
set_option maxRecDepth 65536 in
set_option maxHeartbeats 40000000 in
theorem rm9 (l : Launch) (Z : State) (a0 : Array Value) (hw : ∀ d ∈ tables_1, d.before a0 Z = true) (ws : List Jvm.Cond) (q1 : Int64) (p2 : Int32) (p3 : Int32) (p4 : Int32) (p5 : Int32) (h0 : Heap) (n0 : Nat) (Z0 : n0 ≤ h0.size) :
    MetFree l (⟨"com/example/bitweight/bitweight/chunk/WordChunkTakeInPinLaw", "step", "(JICZZ)J"⟩ : MethodName) (head1 (Jvm.Cond.code (⟨"com/example/bitweight/bitweight/chunk/WordChunkTakeInPinLaw", "step", "(JICZZ)J"⟩ : MethodName) method_4_code 8 (some .long) :: ws) ({ frames := 0, cells := 0, slots := 0, locals := 0 } : Room)) (fun a U => a = #[(.long q1), (.int p2), (.int p3), (.int p4), (.int p5)] ∧ Z.Warmed39 U.vm ∧ U.heap = h0) (fun _ _ _ _ _ => True) (fun _ U o U' => ∃ v L, o = .returned v ∧ Q9 Z q1 p2 p3 p4 p5 h0 n0 v U'.heap L ∧ FrameEnd U o U' L ({ frames := 0, cells := 0, slots := 0, locals := 0 } : Room).cells ({ frames := 0, cells := 0, slots := 0, locals := 0 } : Room).slots) := by
  refine MetFree.of_bodySF (plainFor_of_name pn_9) hisR ?_
  intro p e s m args below meth c s₁ Bd hml0 hP hK
  obtain ⟨rfl, hZ, hh⟩ := hP
  have hx := Bd.exec
  have hby := Bd.bytes
  have hml : c.maxLocals = 8 := hml0
  have hown : s.vm.findClass "com/example/bitweight/bitweight/chunk/WordChunkTakeInPinLaw" = some m.cls := findClass_of_methodNamed Bd.named
  have hnm := (name_of_methodNamed Bd.named Bd.method).1
  have X0 : Stand p l e ({ frames := 0, cells := 0, slots := 0, locals := 0 } : Room) s m #[(.long q1), (.int p2), (.int p3), (.int p4), (.int p5)] below meth c s₁ [] 0 0 := Stand.of_body Bd
  have e0 : s₁.heap = h0 := by rw [← hh, Bd.state]; rfl
  have N0 := Fr.nil n0
  have pre0 : ∀ t, Steps p.tables e below (s₁.setTop (mkF m 0 #[.val (.long q1), .second, .val (.int p2), .val (.int p3), .val (.int p4), .val (.int p5), .unset, .unset] [])) t → Steps p.tables e below (s₁.setTop (entryFrame m #[(.long q1), (.int p2), (.int p3), (.int p4), (.int p5)] 8)) t := fun t k => castTop (ef_9 m q1 p2 p3 p4 p5) k
  have pre1 : ∀ t, Steps p.tables e below (s₁.setTop (mkF m 2 #[.val (.long q1), .second, .val (.int p2), .val (.int p3), .val (.int p4), .val (.int p5), .unset, .unset] [(.int p4)])) t → Steps p.tables e below (s₁.setTop (entryFrame m #[(.long q1), (.int p2), (.int p3), (.int p4), (.int p5)] 8)) t := by
    intro t kt
    refine pre0 _ ?_
    show Steps p.tables e below (s₁.setTop (mkF m 0 #[.val (.long q1), .second, .val (.int p2), .val (.int p3), .val (.int p4), .val (.int p5), .unset, .unset] [])) _
    refine XS.iload X0.here hx rfl (hb hby d9_0) rfl ?_
    exact kt
  by_cases hc2_2 : p4 = (0 : Int32)
  · skip
    have pre3 : ∀ t, Steps p.tables e below (s₁.setTop (mkF m 6 #[.val (.long q1), .second, .val (.int p2), .val (.int p3), .val (.int p4), .val (.int p5), .unset, .unset] [(.long q1)])) t → Steps p.tables e below (s₁.setTop (entryFrame m #[(.long q1), (.int p2), (.int p3), (.int p4), (.int p5)] 8)) t := by
      intro t kt
      refine pre1 _ ?_
      show Steps p.tables e below (s₁.setTop (mkF m 2 #[.val (.long q1), .second, .val (.int p2), .val (.int p3), .val (.int p4), .val (.int p5), .unset, .unset] [(.int p4)])) _
      refine XS.ifNo X0.here hx rfl (hb hby d9_2) rfl (XT.i0_ne_f hc2_2) ?_
      show Steps p.tables e below (s₁.setTop (mkF m 5 #[.val (.long q1), .second, .val (.int p2), .val (.int p3), .val (.int p4), .val (.int p5), .unset, .unset] [])) _
      refine XS.lloadN X0.here hx rfl (hb hby d9_5) rfl ?_
      exact kt
    obtain ⟨fs, hr, hrun, hended, hW, hsame⟩ := X0.leave (v := some (.long q1)) (fun h => by rw [Bd.returns] at h; cases h)
    refine ⟨_, _, pre3 _ ?_, hrun, hended, _, _, rfl, ?_, ⟨_, rfl⟩, hW, hsame.mono (by decide) (by decide)⟩
    · show Steps p.tables e below (s₁.setTop (mkF m 6 #[.val (.long q1), .second, .val (.int p2), .val (.int p3), .val (.int p4), .val (.int p5), .unset, .unset] [(.long q1)])) _
      exact X0.lreturnOut hx Bd.returns (hb hby d9_6) hr
    · show Q9 Z q1 p2 p3 p4 p5 h0 n0 _ s₁.heap _
      rw [e0]
      exact ⟨by unfold fn9; rw [if_pos hc2_2], N0, rfl⟩
  · skip
    have pre4 : ∀ t, Steps p.tables e below (s₁.setTop (mkF m 12 #[.val (.long q1), .second, .val (.int p2), .val (.int p3), .val (.int p4), .val (.int p5), .unset, .unset] [(.int p2), (.int (p3 / (64 : Int32)))])) t → Steps p.tables e below (s₁.setTop (entryFrame m #[(.long q1), (.int p2), (.int p3), (.int p4), (.int p5)] 8)) t := by
      intro t kt
      refine pre1 _ ?_
      show Steps p.tables e below (s₁.setTop (mkF m 2 #[.val (.long q1), .second, .val (.int p2), .val (.int p3), .val (.int p4), .val (.int p5), .unset, .unset] [(.int p4)])) _
      refine XS.ifYes X0.here hx rfl (pc0 := 2) (pc' := 7) rfl (hb hby d9_2) rfl (XT.i0_ne_t hc2_2) (by decide) (by decide) ?_
      show Steps p.tables e below (s₁.setTop (mkF m 7 #[.val (.long q1), .second, .val (.int p2), .val (.int p3), .val (.int p4), .val (.int p5), .unset, .unset] [])) _
      refine XS.iloadN X0.here hx rfl (hb hby d9_7) rfl ?_
      show Steps p.tables e below (s₁.setTop (mkF m 8 #[.val (.long q1), .second, .val (.int p2), .val (.int p3), .val (.int p4), .val (.int p5), .unset, .unset] [(.int p3)])) _
      refine XS.bipush X0.here hx rfl (hb hby d9_8) ?_
      show Steps p.tables e below (s₁.setTop (mkF m 10 #[.val (.long q1), .second, .val (.int p2), .val (.int p3), .val (.int p4), .val (.int p5), .unset, .unset] [(.int (64 : Int32)), (.int p3)])) _
      refine XS.idiv X0.here hx rfl (hb hby d9_10) rfl (by decide) ?_
      show Steps p.tables e below (s₁.setTop (mkF m 11 #[.val (.long q1), .second, .val (.int p2), .val (.int p3), .val (.int p4), .val (.int p5), .unset, .unset] [(.int (p3 / (64 : Int32)))])) _
      refine XS.iloadN X0.here hx rfl (hb hby d9_11) rfl ?_
      exact kt
    by_cases hc12_5 : (p3 / (64 : Int32)) = p2
    · skip
      have pre6 : ∀ t, Steps p.tables e below (s₁.setTop (mkF m 27 #[.val (.long q1), .second, .val (.int p2), .val (.int p3), .val (.int p4), .val (.int p5), .val (.long ((1 : Int64) <<< ((p3 % (64 : Int32)) &&& 0x3f).toInt64)), .second] [(.int p5)])) t → Steps p.tables e below (s₁.setTop (entryFrame m #[(.long q1), (.int p2), (.int p3), (.int p4), (.int p5)] 8)) t := by
        intro t kt
        refine pre4 _ ?_
        show Steps p.tables e below (s₁.setTop (mkF m 12 #[.val (.long q1), .second, .val (.int p2), .val (.int p3), .val (.int p4), .val (.int p5), .unset, .unset] [(.int p2), (.int (p3 / (64 : Int32)))])) _
        refine XS.icmpYes X0.here hx rfl (pc0 := 12) (pc' := 17) rfl (hb hby d9_12) rfl (XT.ii_eq_t hc12_5) (by decide) (by decide) ?_
        show Steps p.tables e below (s₁.setTop (mkF m 17 #[.val (.long q1), .second, .val (.int p2), .val (.int p3), .val (.int p4), .val (.int p5), .unset, .unset] [])) _
        refine XS.lconst X0.here hx rfl (hb hby d9_17) ?_
        show Steps p.tables e below (s₁.setTop (mkF m 18 #[.val (.long q1), .second, .val (.int p2), .val (.int p3), .val (.int p4), .val (.int p5), .unset, .unset] [(.long (1 : Int64))])) _
        refine XS.iloadN X0.here hx rfl (hb hby d9_18) rfl ?_
        show Steps p.tables e below (s₁.setTop (mkF m 19 #[.val (.long q1), .second, .val (.int p2), .val (.int p3), .val (.int p4), .val (.int p5), .unset, .unset] [(.int p3), (.long (1 : Int64))])) _
        refine XS.bipush X0.here hx rfl (hb hby d9_19) ?_
        show Steps p.tables e below (s₁.setTop (mkF m 21 #[.val (.long q1), .second, .val (.int p2), .val (.int p3), .val (.int p4), .val (.int p5), .unset, .unset] [(.int (64 : Int32)), (.int p3), (.long (1 : Int64))])) _
        refine iremM (g := (mkF m 21 #[.val (.long q1), .second, .val (.int p2), .val (.int p3), .val (.int p4), .val (.int p5), .unset, .unset] [(.int (64 : Int32)), (.int p3), (.long (1 : Int64))])) X0 hx rfl (hb hby d9_21) rfl (by decide) ?_
        show Steps p.tables e below (s₁.setTop (mkF m 22 #[.val (.long q1), .second, .val (.int p2), .val (.int p3), .val (.int p4), .val (.int p5), .unset, .unset] [(.int (p3 % (64 : Int32))), (.long (1 : Int64))])) _
        refine XS.lshl X0.here hx rfl (hb hby d9_22) rfl ?_
        show Steps p.tables e below (s₁.setTop (mkF m 23 #[.val (.long q1), .second, .val (.int p2), .val (.int p3), .val (.int p4), .val (.int p5), .unset, .unset] [(.long ((1 : Int64) <<< ((p3 % (64 : Int32)) &&& 0x3f).toInt64))])) _
        refine XS.lstore X0.here hx rfl (hb hby d9_23) rfl (l' := #[.val (.long q1), .second, .val (.int p2), .val (.int p3), .val (.int p4), .val (.int p5), .val (.long ((1 : Int64) <<< ((p3 % (64 : Int32)) &&& 0x3f).toInt64)), .second]) rfl ?_
        show Steps p.tables e below (s₁.setTop (mkF m 25 #[.val (.long q1), .second, .val (.int p2), .val (.int p3), .val (.int p4), .val (.int p5), .val (.long ((1 : Int64) <<< ((p3 % (64 : Int32)) &&& 0x3f).toInt64)), .second] [])) _
        refine XS.iload X0.here hx rfl (hb hby d9_25) rfl ?_
        exact kt
      by_cases hc27_7 : p5 = (0 : Int32)
      · skip
        have pre8 : ∀ t, Steps p.tables e below (s₁.setTop (mkF m 39 #[.val (.long q1), .second, .val (.int p2), .val (.int p3), .val (.int p4), .val (.int p5), .val (.long ((1 : Int64) <<< ((p3 % (64 : Int32)) &&& 0x3f).toInt64)), .second] [(.long (q1 ||| ((1 : Int64) <<< ((p3 % (64 : Int32)) &&& 0x3f).toInt64)))])) t → Steps p.tables e below (s₁.setTop (entryFrame m #[(.long q1), (.int p2), (.int p3), (.int p4), (.int p5)] 8)) t := by
          intro t kt
          refine pre6 _ ?_
          show Steps p.tables e below (s₁.setTop (mkF m 27 #[.val (.long q1), .second, .val (.int p2), .val (.int p3), .val (.int p4), .val (.int p5), .val (.long ((1 : Int64) <<< ((p3 % (64 : Int32)) &&& 0x3f).toInt64)), .second] [(.int p5)])) _
          refine XS.ifYes X0.here hx rfl (pc0 := 27) (pc' := 35) rfl (hb hby d9_27) rfl (XT.i0_eq_t hc27_7) (by decide) (by decide) ?_
          show Steps p.tables e below (s₁.setTop (mkF m 35 #[.val (.long q1), .second, .val (.int p2), .val (.int p3), .val (.int p4), .val (.int p5), .val (.long ((1 : Int64) <<< ((p3 % (64 : Int32)) &&& 0x3f).toInt64)), .second] [])) _
          refine XS.lloadN X0.here hx rfl (hb hby d9_35) rfl ?_
          show Steps p.tables e below (s₁.setTop (mkF m 36 #[.val (.long q1), .second, .val (.int p2), .val (.int p3), .val (.int p4), .val (.int p5), .val (.long ((1 : Int64) <<< ((p3 % (64 : Int32)) &&& 0x3f).toInt64)), .second] [(.long q1)])) _
          refine XS.lload X0.here hx rfl (hb hby d9_36) rfl ?_
          show Steps p.tables e below (s₁.setTop (mkF m 38 #[.val (.long q1), .second, .val (.int p2), .val (.int p3), .val (.int p4), .val (.int p5), .val (.long ((1 : Int64) <<< ((p3 % (64 : Int32)) &&& 0x3f).toInt64)), .second] [(.long ((1 : Int64) <<< ((p3 % (64 : Int32)) &&& 0x3f).toInt64)), (.long q1)])) _
          refine XS.lor X0.here hx rfl (hb hby d9_38) rfl ?_
          exact kt
        obtain ⟨fs, hr, hrun, hended, hW, hsame⟩ := X0.leave (v := some (.long (q1 ||| ((1 : Int64) <<< ((p3 % (64 : Int32)) &&& 0x3f).toInt64)))) (fun h => by rw [Bd.returns] at h; cases h)
        refine ⟨_, _, pre8 _ ?_, hrun, hended, _, _, rfl, ?_, ⟨_, rfl⟩, hW, hsame.mono (by decide) (by decide)⟩
        · show Steps p.tables e below (s₁.setTop (mkF m 39 #[.val (.long q1), .second, .val (.int p2), .val (.int p3), .val (.int p4), .val (.int p5), .val (.long ((1 : Int64) <<< ((p3 % (64 : Int32)) &&& 0x3f).toInt64)), .second] [(.long (q1 ||| ((1 : Int64) <<< ((p3 % (64 : Int32)) &&& 0x3f).toInt64)))])) _
          exact X0.lreturnOut hx Bd.returns (hb hby d9_39) hr
        · show Q9 Z q1 p2 p3 p4 p5 h0 n0 _ s₁.heap _
          rw [e0]
          exact ⟨by unfold fn9; rw [if_neg hc2_2, if_pos hc12_5, if_pos hc27_7], N0, rfl⟩
      · skip
        have pre9 : ∀ t, Steps p.tables e below (s₁.setTop (mkF m 34 #[.val (.long q1), .second, .val (.int p2), .val (.int p3), .val (.int p4), .val (.int p5), .val (.long ((1 : Int64) <<< ((p3 % (64 : Int32)) &&& 0x3f).toInt64)), .second] [(.long (q1 ^^^ ((1 : Int64) <<< ((p3 % (64 : Int32)) &&& 0x3f).toInt64)))])) t → Steps p.tables e below (s₁.setTop (entryFrame m #[(.long q1), (.int p2), (.int p3), (.int p4), (.int p5)] 8)) t := by
          intro t kt
          refine pre6 _ ?_
          show Steps p.tables e below (s₁.setTop (mkF m 27 #[.val (.long q1), .second, .val (.int p2), .val (.int p3), .val (.int p4), .val (.int p5), .val (.long ((1 : Int64) <<< ((p3 % (64 : Int32)) &&& 0x3f).toInt64)), .second] [(.int p5)])) _
          refine XS.ifNo X0.here hx rfl (hb hby d9_27) rfl (XT.i0_eq_f hc27_7) ?_
          show Steps p.tables e below (s₁.setTop (mkF m 30 #[.val (.long q1), .second, .val (.int p2), .val (.int p3), .val (.int p4), .val (.int p5), .val (.long ((1 : Int64) <<< ((p3 % (64 : Int32)) &&& 0x3f).toInt64)), .second] [])) _
          refine XS.lloadN X0.here hx rfl (hb hby d9_30) rfl ?_
          show Steps p.tables e below (s₁.setTop (mkF m 31 #[.val (.long q1), .second, .val (.int p2), .val (.int p3), .val (.int p4), .val (.int p5), .val (.long ((1 : Int64) <<< ((p3 % (64 : Int32)) &&& 0x3f).toInt64)), .second] [(.long q1)])) _
          refine XS.lload X0.here hx rfl (hb hby d9_31) rfl ?_
          show Steps p.tables e below (s₁.setTop (mkF m 33 #[.val (.long q1), .second, .val (.int p2), .val (.int p3), .val (.int p4), .val (.int p5), .val (.long ((1 : Int64) <<< ((p3 % (64 : Int32)) &&& 0x3f).toInt64)), .second] [(.long ((1 : Int64) <<< ((p3 % (64 : Int32)) &&& 0x3f).toInt64)), (.long q1)])) _
          refine XS.lxor X0.here hx rfl (hb hby d9_33) rfl ?_
          exact kt
        obtain ⟨fs, hr, hrun, hended, hW, hsame⟩ := X0.leave (v := some (.long (q1 ^^^ ((1 : Int64) <<< ((p3 % (64 : Int32)) &&& 0x3f).toInt64)))) (fun h => by rw [Bd.returns] at h; cases h)
        refine ⟨_, _, pre9 _ ?_, hrun, hended, _, _, rfl, ?_, ⟨_, rfl⟩, hW, hsame.mono (by decide) (by decide)⟩
        · show Steps p.tables e below (s₁.setTop (mkF m 34 #[.val (.long q1), .second, .val (.int p2), .val (.int p3), .val (.int p4), .val (.int p5), .val (.long ((1 : Int64) <<< ((p3 % (64 : Int32)) &&& 0x3f).toInt64)), .second] [(.long (q1 ^^^ ((1 : Int64) <<< ((p3 % (64 : Int32)) &&& 0x3f).toInt64)))])) _
          exact X0.lreturnOut hx Bd.returns (hb hby d9_34) hr
        · show Q9 Z q1 p2 p3 p4 p5 h0 n0 _ s₁.heap _
          rw [e0]
          exact ⟨by unfold fn9; rw [if_neg hc2_2, if_pos hc12_5, if_neg hc27_7], N0, rfl⟩
    · skip
      have pre10 : ∀ t, Steps p.tables e below (s₁.setTop (mkF m 16 #[.val (.long q1), .second, .val (.int p2), .val (.int p3), .val (.int p4), .val (.int p5), .unset, .unset] [(.long q1)])) t → Steps p.tables e below (s₁.setTop (entryFrame m #[(.long q1), (.int p2), (.int p3), (.int p4), (.int p5)] 8)) t := by
        intro t kt
        refine pre4 _ ?_
        show Steps p.tables e below (s₁.setTop (mkF m 12 #[.val (.long q1), .second, .val (.int p2), .val (.int p3), .val (.int p4), .val (.int p5), .unset, .unset] [(.int p2), (.int (p3 / (64 : Int32)))])) _
        refine XS.icmpNo X0.here hx rfl (hb hby d9_12) rfl (XT.ii_eq_f hc12_5) ?_
        show Steps p.tables e below (s₁.setTop (mkF m 15 #[.val (.long q1), .second, .val (.int p2), .val (.int p3), .val (.int p4), .val (.int p5), .unset, .unset] [])) _
        refine XS.lloadN X0.here hx rfl (hb hby d9_15) rfl ?_
        exact kt
      obtain ⟨fs, hr, hrun, hended, hW, hsame⟩ := X0.leave (v := some (.long q1)) (fun h => by rw [Bd.returns] at h; cases h)
      refine ⟨_, _, pre10 _ ?_, hrun, hended, _, _, rfl, ?_, ⟨_, rfl⟩, hW, hsame.mono (by decide) (by decide)⟩
      · show Steps p.tables e below (s₁.setTop (mkF m 16 #[.val (.long q1), .second, .val (.int p2), .val (.int p3), .val (.int p4), .val (.int p5), .unset, .unset] [(.long q1)])) _
        exact X0.lreturnOut hx Bd.returns (hb hby d9_16) hr
      · show Q9 Z q1 p2 p3 p4 p5 h0 n0 _ s₁.heap _
        rw [e0]
        exact ⟨by unfold fn9; rw [if_neg hc2_2, if_neg hc12_5], N0, rfl⟩
theorem d8_0 : decode method_3_code 0 = .ok (.iload_n 0, 1) := by decide +kernel
theorem d8_1 : decode method_3_code 1 = .ok (.iload_n 1, 1) := by decide +kernel
theorem d8_2 : decode method_3_code 2 = .ok (.if_icmp .ne 7, 3) := by decide +kernel
theorem d8_5 : decode method_3_code 5 = .ok (.lload_n 2, 1) := by decide +kernel
theorem d8_6 : decode method_3_code 6 = .ok (.goto 4, 3) := by decide +kernel
theorem d8_9 : decode method_3_code 9 = .ok (.lconst 0, 1) := by decide +kernel
theorem d8_10 : decode method_3_code 10 = .ok (.lstore 7, 2) := by decide +kernel
theorem d8_12 : decode method_3_code 12 = .ok (.lload 7, 2) := by decide +kernel
theorem d8_14 : decode method_3_code 14 = .ok (.iload_n 0, 1) := by decide +kernel
theorem d8_15 : decode method_3_code 15 = .ok (.aload 4, 2) := by decide +kernel
theorem d8_17 : decode method_3_code 17 = .ok (.iconst 0, 1) := by decide +kernel
theorem d8_18 : decode method_3_code 18 = .ok (.caload, 1) := by decide +kernel
theorem d8_19 : decode method_3_code 19 = .ok (.iconst 0, 1) := by decide +kernel
theorem d8_20 : decode method_3_code 20 = .ok (.iload 5, 2) := by decide +kernel
theorem d8_22 : decode method_3_code 22 = .ok (.if_icmp .ge 7, 3) := by decide +kernel
theorem d8_25 : decode method_3_code 25 = .ok (.iconst 1, 1) := by decide +kernel
theorem d8_26 : decode method_3_code 26 = .ok (.goto 4, 3) := by decide +kernel
theorem d8_29 : decode method_3_code 29 = .ok (.iconst 0, 1) := by decide +kernel
theorem d8_30 : decode method_3_code 30 = .ok (.iload 6, 2) := by decide +kernel
theorem d8_32 : decode method_3_code 32 = .ok (.invokestatic 27, 3) := by decide +kernel
theorem d8_35 : decode method_3_code 35 = .ok (.lstore 7, 2) := by decide +kernel
theorem d8_37 : decode method_3_code 37 = .ok (.lload 7, 2) := by decide +kernel
theorem d8_39 : decode method_3_code 39 = .ok (.iload_n 0, 1) := by decide +kernel
theorem d8_40 : decode method_3_code 40 = .ok (.aload 4, 2) := by decide +kernel
theorem d8_42 : decode method_3_code 42 = .ok (.iconst 1, 1) := by decide +kernel
theorem d8_43 : decode method_3_code 43 = .ok (.caload, 1) := by decide +kernel
theorem d8_44 : decode method_3_code 44 = .ok (.iconst 1, 1) := by decide +kernel
theorem d8_45 : decode method_3_code 45 = .ok (.iload 5, 2) := by decide +kernel
theorem d8_47 : decode method_3_code 47 = .ok (.if_icmp .ge 7, 3) := by decide +kernel
theorem d8_50 : decode method_3_code 50 = .ok (.iconst 1, 1) := by decide +kernel
theorem d8_51 : decode method_3_code 51 = .ok (.goto 4, 3) := by decide +kernel
theorem d8_54 : decode method_3_code 54 = .ok (.iconst 0, 1) := by decide +kernel
theorem d8_55 : decode method_3_code 55 = .ok (.iload 6, 2) := by decide +kernel
theorem d8_57 : decode method_3_code 57 = .ok (.invokestatic 27, 3) := by decide +kernel
theorem d8_60 : decode method_3_code 60 = .ok (.lstore 7, 2) := by decide +kernel
theorem d8_62 : decode method_3_code 62 = .ok (.lload 7, 2) := by decide +kernel
theorem d8_64 : decode method_3_code 64 = .ok (.iload_n 0, 1) := by decide +kernel
theorem d8_65 : decode method_3_code 65 = .ok (.aload 4, 2) := by decide +kernel
theorem d8_67 : decode method_3_code 67 = .ok (.iconst 2, 1) := by decide +kernel
theorem d8_68 : decode method_3_code 68 = .ok (.caload, 1) := by decide +kernel
theorem d8_69 : decode method_3_code 69 = .ok (.iconst 2, 1) := by decide +kernel
theorem d8_70 : decode method_3_code 70 = .ok (.iload 5, 2) := by decide +kernel
theorem d8_72 : decode method_3_code 72 = .ok (.if_icmp .ge 7, 3) := by decide +kernel
theorem d8_75 : decode method_3_code 75 = .ok (.iconst 1, 1) := by decide +kernel
theorem d8_76 : decode method_3_code 76 = .ok (.goto 4, 3) := by decide +kernel
theorem d8_79 : decode method_3_code 79 = .ok (.iconst 0, 1) := by decide +kernel
theorem d8_80 : decode method_3_code 80 = .ok (.iload 6, 2) := by decide +kernel
theorem d8_82 : decode method_3_code 82 = .ok (.invokestatic 27, 3) := by decide +kernel
theorem d8_85 : decode method_3_code 85 = .ok (.lstore 7, 2) := by decide +kernel
theorem d8_87 : decode method_3_code 87 = .ok (.lload 7, 2) := by decide +kernel
theorem d8_89 : decode method_3_code 89 = .ok (.lreturn, 1) := by decide +kernel
theorem pn_8 : plainName "com/example/bitweight/bitweight/chunk/WordChunkTakeInPinLaw" = true := by first | (simp [plainName, overriddenIn]; done) | decide +kernel
theorem ef_8 (m : MethodId) (x0 : Int32) (x1 : Int32) (x2 : Int64) (x3 : Addr) (x4 : Int32) (x5 : Int32) : entryFrame m #[(.int x0), (.int x1), (.long x2), (.ref x3), (.int x4), (.int x5)] 9 = mkF m 0 #[.val (.int x0), .val (.int x1), .val (.long x2), .second, .val (.ref x3), .val (.int x4), .val (.int x5), .unset, .unset] [] := by first | (simp [entryFrame, mkF, argsToLocals, Value.category]; done) | rfl
theorem pd_4 : parseMethodDescriptor "(JICZZ)J" = some ⟨[.long, .int, .char, .boolean, .boolean], some .long⟩ := by decide +kernel
def fn8 (p1 : Int32) (p2 : Int32) (q3 : Int64) (a4 : Addr) (p5 : Int32) (p6 : Int32) (fl : Nat → Int32) : Int64 := (fn9 (fn9 (fn9 (if p1 = p2 then q3 else (0 : Int64)) p1 (fl 0) (if (0 : Int32) < p5 then (1 : Int32) else (0 : Int32)) p6) p1 (fl 1) (if (1 : Int32) < p5 then (1 : Int32) else (0 : Int32)) p6) p1 (fl 2) (if (2 : Int32) < p5 then (1 : Int32) else (0 : Int32)) p6)
def Q8 (Z : State) (p1 : Int32) (p2 : Int32) (q3 : Int64) (a4 : Addr) (p5 : Int32) (p6 : Int32) (fl : Nat → Int32) (h0 : Heap) (n0 : Nat) (v : Option Value) (h : Heap) (L : List Loc) : Prop := v = some (.long (fn8 p1 p2 q3 a4 p5 p6 fl)) ∧ Fr n0 L ∧ h = h0
set_option maxRecDepth 65536 in
set_option maxHeartbeats 40000000 in
theorem rm8 (l : Launch) (Z : State) (a0 : Array Value) (hw : ∀ d ∈ tables_1, d.before a0 Z = true) (ws : List Jvm.Cond) (p1 : Int32) (p2 : Int32) (q3 : Int64) (a4 : Addr) (p5 : Int32) (p6 : Int32) (fl : Nat → Int32) (h0 : Heap) (n0 : Nat) (Z0 : n0 ≤ h0.size) (A_a4 : owAI Z h0 a4 .char 3 fl) :
    MetFree l (⟨"com/example/bitweight/bitweight/chunk/WordChunkTakeInPinLaw", "expect", "(IIJ[CIZ)J"⟩ : MethodName) (head1 (Jvm.Cond.code (⟨"com/example/bitweight/bitweight/chunk/WordChunkTakeInPinLaw", "expect", "(IIJ[CIZ)J"⟩ : MethodName) method_3_code 9 (some .long) :: ws) ({ frames := 1, cells := 0, slots := 0, locals := 19 } : Room)) (fun a U => a = #[(.int p1), (.int p2), (.long q3), (.ref a4), (.int p5), (.int p6)] ∧ Z.Warmed39 U.vm ∧ U.heap = h0) (fun _ _ _ _ _ => True) (fun _ U o U' => ∃ v L, o = .returned v ∧ Q8 Z p1 p2 q3 a4 p5 p6 fl h0 n0 v U'.heap L ∧ FrameEnd U o U' L ({ frames := 1, cells := 0, slots := 0, locals := 19 } : Room).cells ({ frames := 1, cells := 0, slots := 0, locals := 19 } : Room).slots) := by
  refine MetFree.of_bodySF (plainFor_of_name pn_8) hisR ?_
  intro p e s m args below meth c s₁ Bd hml0 hP hK
  obtain ⟨rfl, hZ, hh⟩ := hP
  have hx := Bd.exec
  have hby := Bd.bytes
  have hml : c.maxLocals = 9 := hml0
  have hown : s.vm.findClass "com/example/bitweight/bitweight/chunk/WordChunkTakeInPinLaw" = some m.cls := findClass_of_methodNamed Bd.named
  have hnm := (name_of_methodNamed Bd.named Bd.method).1
  have X0 : Stand p l e ({ frames := 1, cells := 0, slots := 0, locals := 19 } : Room) s m #[(.int p1), (.int p2), (.long q3), (.ref a4), (.int p5), (.int p6)] below meth c s₁ [] 0 0 := Stand.of_body Bd
  have e0 : s₁.heap = h0 := by rw [← hh, Bd.state]; rfl
  have N0 := Fr.nil n0
  have pre0 : ∀ t, Steps p.tables e below (s₁.setTop (mkF m 0 #[.val (.int p1), .val (.int p2), .val (.long q3), .second, .val (.ref a4), .val (.int p5), .val (.int p6), .unset, .unset] [])) t → Steps p.tables e below (s₁.setTop (entryFrame m #[(.int p1), (.int p2), (.long q3), (.ref a4), (.int p5), (.int p6)] 9)) t := fun t k => castTop (ef_8 m p1 p2 q3 a4 p5 p6) k
  have pre1 : ∀ t, Steps p.tables e below (s₁.setTop (mkF m 2 #[.val (.int p1), .val (.int p2), .val (.long q3), .second, .val (.ref a4), .val (.int p5), .val (.int p6), .unset, .unset] [(.int p2), (.int p1)])) t → Steps p.tables e below (s₁.setTop (entryFrame m #[(.int p1), (.int p2), (.long q3), (.ref a4), (.int p5), (.int p6)] 9)) t := by
    intro t kt
    refine pre0 _ ?_
    show Steps p.tables e below (s₁.setTop (mkF m 0 #[.val (.int p1), .val (.int p2), .val (.long q3), .second, .val (.ref a4), .val (.int p5), .val (.int p6), .unset, .unset] [])) _
    refine XS.iloadN X0.here hx rfl (hb hby d8_0) rfl ?_
    show Steps p.tables e below (s₁.setTop (mkF m 1 #[.val (.int p1), .val (.int p2), .val (.long q3), .second, .val (.ref a4), .val (.int p5), .val (.int p6), .unset, .unset] [(.int p1)])) _
    refine XS.iloadN X0.here hx rfl (hb hby d8_1) rfl ?_
    exact kt
  obtain ⟨j3, h_j3⟩ : ∃ z : Int64, z = (if p1 = p2 then q3 else (0 : Int64)) := ⟨_, rfl⟩
  have pre4 : ∀ t, Steps p.tables e below (s₁.setTop (mkF m 10 #[.val (.int p1), .val (.int p2), .val (.long q3), .second, .val (.ref a4), .val (.int p5), .val (.int p6), .unset, .unset] [(.long j3)])) t → Steps p.tables e below (s₁.setTop (entryFrame m #[(.int p1), (.int p2), (.long q3), (.ref a4), (.int p5), (.int p6)] 9)) t := by
    intro t kt
    refine pre1 _ ?_
    by_cases hc2_2 : p1 = p2
    · skip
      have q_j3 : j3 = q3 := by rw [h_j3, if_pos hc2_2]
      rw [q_j3] at kt
      show Steps p.tables e below (s₁.setTop (mkF m 2 #[.val (.int p1), .val (.int p2), .val (.long q3), .second, .val (.ref a4), .val (.int p5), .val (.int p6), .unset, .unset] [(.int p2), (.int p1)])) _
      refine XS.icmpNo X0.here hx rfl (hb hby d8_2) rfl (XT.ii_ne_f hc2_2) ?_
      show Steps p.tables e below (s₁.setTop (mkF m 5 #[.val (.int p1), .val (.int p2), .val (.long q3), .second, .val (.ref a4), .val (.int p5), .val (.int p6), .unset, .unset] [])) _
      refine XS.lloadN X0.here hx rfl (hb hby d8_5) rfl ?_
      show Steps p.tables e below (s₁.setTop (mkF m 6 #[.val (.int p1), .val (.int p2), .val (.long q3), .second, .val (.ref a4), .val (.int p5), .val (.int p6), .unset, .unset] [(.long q3)])) _
      refine XS.goto X0.here hx rfl (pc0 := 6) (pc' := 10) rfl (hb hby d8_6) (by decide) (by decide) ?_
      exact kt
    · skip
      have q_j3 : j3 = (0 : Int64) := by rw [h_j3, if_neg hc2_2]
      rw [q_j3] at kt
      show Steps p.tables e below (s₁.setTop (mkF m 2 #[.val (.int p1), .val (.int p2), .val (.long q3), .second, .val (.ref a4), .val (.int p5), .val (.int p6), .unset, .unset] [(.int p2), (.int p1)])) _
      refine XS.icmpYes X0.here hx rfl (pc0 := 2) (pc' := 9) rfl (hb hby d8_2) rfl (XT.ii_ne_t hc2_2) (by decide) (by decide) ?_
      show Steps p.tables e below (s₁.setTop (mkF m 9 #[.val (.int p1), .val (.int p2), .val (.long q3), .second, .val (.ref a4), .val (.int p5), .val (.int p6), .unset, .unset] [])) _
      refine XS.lconst X0.here hx rfl (hb hby d8_9) ?_
      exact kt
  have pre5 : ∀ t, Steps p.tables e below (s₁.setTop (mkF m 22 #[.val (.int p1), .val (.int p2), .val (.long q3), .second, .val (.ref a4), .val (.int p5), .val (.int p6), .val (.long j3), .second] [(.int p5), (.int (0 : Int32)), (.int (fl 0)), (.int p1), (.long j3)])) t → Steps p.tables e below (s₁.setTop (entryFrame m #[(.int p1), (.int p2), (.long q3), (.ref a4), (.int p5), (.int p6)] 9)) t := by
    intro t kt
    refine pre4 _ ?_
    show Steps p.tables e below (s₁.setTop (mkF m 10 #[.val (.int p1), .val (.int p2), .val (.long q3), .second, .val (.ref a4), .val (.int p5), .val (.int p6), .unset, .unset] [(.long j3)])) _
    refine XS.lstore X0.here hx rfl (hb hby d8_10) rfl (l' := #[.val (.int p1), .val (.int p2), .val (.long q3), .second, .val (.ref a4), .val (.int p5), .val (.int p6), .val (.long j3), .second]) rfl ?_
    show Steps p.tables e below (s₁.setTop (mkF m 12 #[.val (.int p1), .val (.int p2), .val (.long q3), .second, .val (.ref a4), .val (.int p5), .val (.int p6), .val (.long j3), .second] [])) _
    refine XS.lload X0.here hx rfl (hb hby d8_12) rfl ?_
    show Steps p.tables e below (s₁.setTop (mkF m 14 #[.val (.int p1), .val (.int p2), .val (.long q3), .second, .val (.ref a4), .val (.int p5), .val (.int p6), .val (.long j3), .second] [(.long j3)])) _
    refine XS.iloadN X0.here hx rfl (hb hby d8_14) rfl ?_
    show Steps p.tables e below (s₁.setTop (mkF m 15 #[.val (.int p1), .val (.int p2), .val (.long q3), .second, .val (.ref a4), .val (.int p5), .val (.int p6), .val (.long j3), .second] [(.int p1), (.long j3)])) _
    refine XS.aload X0.here hx rfl (hb hby d8_15) rfl rfl ?_
    show Steps p.tables e below (s₁.setTop (mkF m 17 #[.val (.int p1), .val (.int p2), .val (.long q3), .second, .val (.ref a4), .val (.int p5), .val (.int p6), .val (.long j3), .second] [(.ref a4), (.int p1), (.long j3)])) _
    refine XS.iconst X0.here hx rfl (hb hby d8_17) ?_
    show Steps p.tables e below (s₁.setTop (mkF m 18 #[.val (.int p1), .val (.int p2), .val (.long q3), .second, .val (.ref a4), .val (.int p5), .val (.int p6), .val (.long j3), .second] [(.int (0 : Int32)), (.ref a4), (.int p1), (.long j3)])) _
    refine owLdC (k := 0) X0 hx hZ e0 A_a4 (j := (0 : Int32)) rfl (by decide) (g := (mkF m 18 #[.val (.int p1), .val (.int p2), .val (.long q3), .second, .val (.ref a4), .val (.int p5), .val (.int p6), .val (.long j3), .second] [(.int (0 : Int32)), (.ref a4), (.int p1), (.long j3)])) rfl rfl (hb hby d8_18) _ ?_
    show Steps p.tables e below (s₁.setTop (mkF m 19 #[.val (.int p1), .val (.int p2), .val (.long q3), .second, .val (.ref a4), .val (.int p5), .val (.int p6), .val (.long j3), .second] [(.int (fl 0)), (.int p1), (.long j3)])) _
    refine XS.iconst X0.here hx rfl (hb hby d8_19) ?_
    show Steps p.tables e below (s₁.setTop (mkF m 20 #[.val (.int p1), .val (.int p2), .val (.long q3), .second, .val (.ref a4), .val (.int p5), .val (.int p6), .val (.long j3), .second] [(.int (0 : Int32)), (.int (fl 0)), (.int p1), (.long j3)])) _
    refine XS.iload X0.here hx rfl (hb hby d8_20) rfl ?_
    exact kt
  obtain ⟨j7, h_j7⟩ : ∃ z : Int32, z = (if (0 : Int32) < p5 then (1 : Int32) else (0 : Int32)) := ⟨_, rfl⟩
  have pre8 : ∀ t, Steps p.tables e below (s₁.setTop (mkF m 30 #[.val (.int p1), .val (.int p2), .val (.long q3), .second, .val (.ref a4), .val (.int p5), .val (.int p6), .val (.long j3), .second] [(.int j7), (.int (fl 0)), (.int p1), (.long j3)])) t → Steps p.tables e below (s₁.setTop (entryFrame m #[(.int p1), (.int p2), (.long q3), (.ref a4), (.int p5), (.int p6)] 9)) t := by
    intro t kt
    refine pre5 _ ?_
    by_cases hc22_6 : (0 : Int32) < p5
    · skip
      have q_j7 : j7 = (1 : Int32) := by rw [h_j7, if_pos hc22_6]
      rw [q_j7] at kt
      show Steps p.tables e below (s₁.setTop (mkF m 22 #[.val (.int p1), .val (.int p2), .val (.long q3), .second, .val (.ref a4), .val (.int p5), .val (.int p6), .val (.long j3), .second] [(.int p5), (.int (0 : Int32)), (.int (fl 0)), (.int p1), (.long j3)])) _
      refine XS.icmpNo X0.here hx rfl (hb hby d8_22) rfl (XT.ii_ge_f hc22_6) ?_
      show Steps p.tables e below (s₁.setTop (mkF m 25 #[.val (.int p1), .val (.int p2), .val (.long q3), .second, .val (.ref a4), .val (.int p5), .val (.int p6), .val (.long j3), .second] [(.int (fl 0)), (.int p1), (.long j3)])) _
      refine XS.iconst X0.here hx rfl (hb hby d8_25) ?_
      show Steps p.tables e below (s₁.setTop (mkF m 26 #[.val (.int p1), .val (.int p2), .val (.long q3), .second, .val (.ref a4), .val (.int p5), .val (.int p6), .val (.long j3), .second] [(.int (1 : Int32)), (.int (fl 0)), (.int p1), (.long j3)])) _
      refine XS.goto X0.here hx rfl (pc0 := 26) (pc' := 30) rfl (hb hby d8_26) (by decide) (by decide) ?_
      exact kt
    · skip
      have q_j7 : j7 = (0 : Int32) := by rw [h_j7, if_neg hc22_6]
      rw [q_j7] at kt
      show Steps p.tables e below (s₁.setTop (mkF m 22 #[.val (.int p1), .val (.int p2), .val (.long q3), .second, .val (.ref a4), .val (.int p5), .val (.int p6), .val (.long j3), .second] [(.int p5), (.int (0 : Int32)), (.int (fl 0)), (.int p1), (.long j3)])) _
      refine XS.icmpYes X0.here hx rfl (pc0 := 22) (pc' := 29) rfl (hb hby d8_22) rfl (XT.ii_ge_t hc22_6) (by decide) (by decide) ?_
      show Steps p.tables e below (s₁.setTop (mkF m 29 #[.val (.int p1), .val (.int p2), .val (.long q3), .second, .val (.ref a4), .val (.int p5), .val (.int p6), .val (.long j3), .second] [(.int (fl 0)), (.int p1), (.long j3)])) _
      refine XS.iconst X0.here hx rfl (hb hby d8_29) ?_
      exact kt
  obtain ⟨_, _, ⟨T9, L9, k9, n9⟩, -, X9, ⟨Lc9, hQ9, l9, y9, z9⟩, st9⟩ := Jvm.LawKit.callS X0 hx (y := (⟨"com/example/bitweight/bitweight/chunk/WordChunkTakeInPinLaw", "step", "(JICZZ)J"⟩ : MethodName)) hown (mvT hZ (hw _ (List.mem_of_getElem? (i := 44) rfl))) (mvT hZ (hw _ (List.mem_of_getElem? (i := 45) rfl))) (mvT hZ (hw _ (List.mem_of_getElem? (i := 42) rfl))) (mvT hZ (hw _ (List.mem_of_getElem? (i := 46) rfl))) (by decide) (backOf (W := 0) (rm9 l Z a0 hw [] j3 p1 (fl 0) j7 p6 h0 n0 Z0) hZ (hw _ (List.mem_of_getElem? (i := 46) rfl)) (hw _ (List.mem_of_getElem? (i := 42) rfl)) (by decide) (by decide)) (g := (mkF m 32 #[.val (.int p1), .val (.int p2), .val (.long q3), .second, .val (.ref a4), .val (.int p5), .val (.int p6), .val (.long j3), .second] [(.int p6), (.int j7), (.int (fl 0)), (.int p1), (.long j3)])) rfl (by rw [hml]; rfl) (argsL := [(.long j3), (.int p1), (.int (fl 0)), (.int j7), (.int p6)]) (rest := []) (lenOf pd_4 rfl) rfl (by show 2 * 0 + _ ≤ _; exact Nat.le_of_eq rfl) (hb hby d8_32) (fun _ _ => ⟨rfl, e0, (by decide : 0 + 0 ≤ _), (by decide : 0 + 0 ≤ _)⟩)
  dsimp only [Pt.U, Pt.locs, Pt.cells, Pt.slots] at X9 l9 y9 z9 st9 hQ9
  subst l9 y9 z9
  obtain ⟨rfl, N9q, hE9⟩ := hQ9
  have N9 := Fr.app N0 N9q
  have pre10 : ∀ t, Steps p.tables e below (T9.setTop (mkF m 35 #[.val (.int p1), .val (.int p2), .val (.long q3), .second, .val (.ref a4), .val (.int p5), .val (.int p6), .val (.long j3), .second] [(.long (fn9 j3 p1 (fl 0) j7 p6))])) t → Steps p.tables e below (s₁.setTop (entryFrame m #[(.int p1), (.int p2), (.long q3), (.ref a4), (.int p5), (.int p6)] 9)) t := by
    intro t kt
    refine pre8 _ ?_
    show Steps p.tables e below (s₁.setTop (mkF m 30 #[.val (.int p1), .val (.int p2), .val (.long q3), .second, .val (.ref a4), .val (.int p5), .val (.int p6), .val (.long j3), .second] [(.int j7), (.int (fl 0)), (.int p1), (.long j3)])) _
    refine XS.iload X0.here hx rfl (hb hby d8_30) rfl ?_
    show Steps p.tables e below (s₁.setTop (mkF m 32 #[.val (.int p1), .val (.int p2), .val (.long q3), .second, .val (.ref a4), .val (.int p5), .val (.int p6), .val (.long j3), .second] [(.int p6), (.int j7), (.int (fl 0)), (.int p1), (.long j3)])) _
    refine st9 _ ?_
    exact kt
  obtain ⟨x1, h_x1⟩ : ∃ z : Int64, z = (fn9 j3 p1 (fl 0) j7 p6) := ⟨_, rfl⟩
  have pre11 : ∀ t, Steps p.tables e below (T9.setTop (mkF m 35 #[.val (.int p1), .val (.int p2), .val (.long q3), .second, .val (.ref a4), .val (.int p5), .val (.int p6), .val (.long j3), .second] [(.long x1)])) t → Steps p.tables e below (s₁.setTop (entryFrame m #[(.int p1), (.int p2), (.long q3), (.ref a4), (.int p5), (.int p6)] 9)) t := by
    intro t kt
    rw [h_x1] at kt
    exact pre10 _ kt
  have pre12 : ∀ t, Steps p.tables e below (T9.setTop (mkF m 47 #[.val (.int p1), .val (.int p2), .val (.long q3), .second, .val (.ref a4), .val (.int p5), .val (.int p6), .val (.long x1), .second] [(.int p5), (.int (1 : Int32)), (.int (fl 1)), (.int p1), (.long x1)])) t → Steps p.tables e below (s₁.setTop (entryFrame m #[(.int p1), (.int p2), (.long q3), (.ref a4), (.int p5), (.int p6)] 9)) t := by
    intro t kt
    refine pre11 _ ?_
    show Steps p.tables e below (T9.setTop (mkF m 35 #[.val (.int p1), .val (.int p2), .val (.long q3), .second, .val (.ref a4), .val (.int p5), .val (.int p6), .val (.long j3), .second] [(.long x1)])) _
    refine XS.lstore X9.here hx rfl (hb hby d8_35) rfl (l' := #[.val (.int p1), .val (.int p2), .val (.long q3), .second, .val (.ref a4), .val (.int p5), .val (.int p6), .val (.long x1), .second]) rfl ?_
    show Steps p.tables e below (T9.setTop (mkF m 37 #[.val (.int p1), .val (.int p2), .val (.long q3), .second, .val (.ref a4), .val (.int p5), .val (.int p6), .val (.long x1), .second] [])) _
    refine XS.lload X9.here hx rfl (hb hby d8_37) rfl ?_
    show Steps p.tables e below (T9.setTop (mkF m 39 #[.val (.int p1), .val (.int p2), .val (.long q3), .second, .val (.ref a4), .val (.int p5), .val (.int p6), .val (.long x1), .second] [(.long x1)])) _
    refine XS.iloadN X9.here hx rfl (hb hby d8_39) rfl ?_
    show Steps p.tables e below (T9.setTop (mkF m 40 #[.val (.int p1), .val (.int p2), .val (.long q3), .second, .val (.ref a4), .val (.int p5), .val (.int p6), .val (.long x1), .second] [(.int p1), (.long x1)])) _
    refine XS.aload X9.here hx rfl (hb hby d8_40) rfl rfl ?_
    show Steps p.tables e below (T9.setTop (mkF m 42 #[.val (.int p1), .val (.int p2), .val (.long q3), .second, .val (.ref a4), .val (.int p5), .val (.int p6), .val (.long x1), .second] [(.ref a4), (.int p1), (.long x1)])) _
    refine XS.iconst X9.here hx rfl (hb hby d8_42) ?_
    show Steps p.tables e below (T9.setTop (mkF m 43 #[.val (.int p1), .val (.int p2), .val (.long q3), .second, .val (.ref a4), .val (.int p5), .val (.int p6), .val (.long x1), .second] [(.int (1 : Int32)), (.ref a4), (.int p1), (.long x1)])) _
    refine owLdC (k := 1) X9 hx hZ hE9 A_a4 (j := (1 : Int32)) rfl (by decide) (g := (mkF m 43 #[.val (.int p1), .val (.int p2), .val (.long q3), .second, .val (.ref a4), .val (.int p5), .val (.int p6), .val (.long x1), .second] [(.int (1 : Int32)), (.ref a4), (.int p1), (.long x1)])) rfl rfl (hb hby d8_43) _ ?_
    show Steps p.tables e below (T9.setTop (mkF m 44 #[.val (.int p1), .val (.int p2), .val (.long q3), .second, .val (.ref a4), .val (.int p5), .val (.int p6), .val (.long x1), .second] [(.int (fl 1)), (.int p1), (.long x1)])) _
    refine XS.iconst X9.here hx rfl (hb hby d8_44) ?_
    show Steps p.tables e below (T9.setTop (mkF m 45 #[.val (.int p1), .val (.int p2), .val (.long q3), .second, .val (.ref a4), .val (.int p5), .val (.int p6), .val (.long x1), .second] [(.int (1 : Int32)), (.int (fl 1)), (.int p1), (.long x1)])) _
    refine XS.iload X9.here hx rfl (hb hby d8_45) rfl ?_
    exact kt
  obtain ⟨j14, h_j14⟩ : ∃ z : Int32, z = (if (1 : Int32) < p5 then (1 : Int32) else (0 : Int32)) := ⟨_, rfl⟩
  have pre15 : ∀ t, Steps p.tables e below (T9.setTop (mkF m 55 #[.val (.int p1), .val (.int p2), .val (.long q3), .second, .val (.ref a4), .val (.int p5), .val (.int p6), .val (.long x1), .second] [(.int j14), (.int (fl 1)), (.int p1), (.long x1)])) t → Steps p.tables e below (s₁.setTop (entryFrame m #[(.int p1), (.int p2), (.long q3), (.ref a4), (.int p5), (.int p6)] 9)) t := by
    intro t kt
    refine pre12 _ ?_
    by_cases hc47_13 : (1 : Int32) < p5
    · skip
      have q_j14 : j14 = (1 : Int32) := by rw [h_j14, if_pos hc47_13]
      rw [q_j14] at kt
      show Steps p.tables e below (T9.setTop (mkF m 47 #[.val (.int p1), .val (.int p2), .val (.long q3), .second, .val (.ref a4), .val (.int p5), .val (.int p6), .val (.long x1), .second] [(.int p5), (.int (1 : Int32)), (.int (fl 1)), (.int p1), (.long x1)])) _
      refine XS.icmpNo X9.here hx rfl (hb hby d8_47) rfl (XT.ii_ge_f hc47_13) ?_
      show Steps p.tables e below (T9.setTop (mkF m 50 #[.val (.int p1), .val (.int p2), .val (.long q3), .second, .val (.ref a4), .val (.int p5), .val (.int p6), .val (.long x1), .second] [(.int (fl 1)), (.int p1), (.long x1)])) _
      refine XS.iconst X9.here hx rfl (hb hby d8_50) ?_
      show Steps p.tables e below (T9.setTop (mkF m 51 #[.val (.int p1), .val (.int p2), .val (.long q3), .second, .val (.ref a4), .val (.int p5), .val (.int p6), .val (.long x1), .second] [(.int (1 : Int32)), (.int (fl 1)), (.int p1), (.long x1)])) _
      refine XS.goto X9.here hx rfl (pc0 := 51) (pc' := 55) rfl (hb hby d8_51) (by decide) (by decide) ?_
      exact kt
    · skip
      have q_j14 : j14 = (0 : Int32) := by rw [h_j14, if_neg hc47_13]
      rw [q_j14] at kt
      show Steps p.tables e below (T9.setTop (mkF m 47 #[.val (.int p1), .val (.int p2), .val (.long q3), .second, .val (.ref a4), .val (.int p5), .val (.int p6), .val (.long x1), .second] [(.int p5), (.int (1 : Int32)), (.int (fl 1)), (.int p1), (.long x1)])) _
      refine XS.icmpYes X9.here hx rfl (pc0 := 47) (pc' := 54) rfl (hb hby d8_47) rfl (XT.ii_ge_t hc47_13) (by decide) (by decide) ?_
      show Steps p.tables e below (T9.setTop (mkF m 54 #[.val (.int p1), .val (.int p2), .val (.long q3), .second, .val (.ref a4), .val (.int p5), .val (.int p6), .val (.long x1), .second] [(.int (fl 1)), (.int p1), (.long x1)])) _
      refine XS.iconst X9.here hx rfl (hb hby d8_54) ?_
      exact kt
  obtain ⟨_, _, ⟨T16, L16, k16, n16⟩, -, X16, ⟨Lc16, hQ16, l16, y16, z16⟩, st16⟩ := Jvm.LawKit.callS X9 hx (y := (⟨"com/example/bitweight/bitweight/chunk/WordChunkTakeInPinLaw", "step", "(JICZZ)J"⟩ : MethodName)) hown (mvT hZ (hw _ (List.mem_of_getElem? (i := 44) rfl))) (mvT hZ (hw _ (List.mem_of_getElem? (i := 45) rfl))) (mvT hZ (hw _ (List.mem_of_getElem? (i := 42) rfl))) (mvT hZ (hw _ (List.mem_of_getElem? (i := 46) rfl))) (by decide) (backOf (W := 0) (rm9 l Z a0 hw [] x1 p1 (fl 1) j14 p6 h0 n0 Z0) hZ (hw _ (List.mem_of_getElem? (i := 46) rfl)) (hw _ (List.mem_of_getElem? (i := 42) rfl)) (by decide) (by decide)) (g := (mkF m 57 #[.val (.int p1), .val (.int p2), .val (.long q3), .second, .val (.ref a4), .val (.int p5), .val (.int p6), .val (.long x1), .second] [(.int p6), (.int j14), (.int (fl 1)), (.int p1), (.long x1)])) rfl (by rw [hml]; rfl) (argsL := [(.long x1), (.int p1), (.int (fl 1)), (.int j14), (.int p6)]) (rest := []) (lenOf pd_4 rfl) rfl (by show 2 * 0 + _ ≤ _; exact Nat.le_of_eq rfl) (hb hby d8_57) (fun _ _ => ⟨rfl, hE9, (by decide : 0 + 0 ≤ _), (by decide : 0 + 0 ≤ _)⟩)
  dsimp only [Pt.U, Pt.locs, Pt.cells, Pt.slots] at X16 l16 y16 z16 st16 hQ16
  subst l16 y16 z16
  obtain ⟨rfl, N16q, hE16⟩ := hQ16
  have N16 := Fr.app N9 N16q
  have pre17 : ∀ t, Steps p.tables e below (T16.setTop (mkF m 60 #[.val (.int p1), .val (.int p2), .val (.long q3), .second, .val (.ref a4), .val (.int p5), .val (.int p6), .val (.long x1), .second] [(.long (fn9 x1 p1 (fl 1) j14 p6))])) t → Steps p.tables e below (s₁.setTop (entryFrame m #[(.int p1), (.int p2), (.long q3), (.ref a4), (.int p5), (.int p6)] 9)) t := by
    intro t kt
    refine pre15 _ ?_
    show Steps p.tables e below (T9.setTop (mkF m 55 #[.val (.int p1), .val (.int p2), .val (.long q3), .second, .val (.ref a4), .val (.int p5), .val (.int p6), .val (.long x1), .second] [(.int j14), (.int (fl 1)), (.int p1), (.long x1)])) _
    refine XS.iload X9.here hx rfl (hb hby d8_55) rfl ?_
    show Steps p.tables e below (T9.setTop (mkF m 57 #[.val (.int p1), .val (.int p2), .val (.long q3), .second, .val (.ref a4), .val (.int p5), .val (.int p6), .val (.long x1), .second] [(.int p6), (.int j14), (.int (fl 1)), (.int p1), (.long x1)])) _
    refine st16 _ ?_
    exact kt
  obtain ⟨x2, h_x2⟩ : ∃ z : Int64, z = (fn9 x1 p1 (fl 1) j14 p6) := ⟨_, rfl⟩
  have pre18 : ∀ t, Steps p.tables e below (T16.setTop (mkF m 60 #[.val (.int p1), .val (.int p2), .val (.long q3), .second, .val (.ref a4), .val (.int p5), .val (.int p6), .val (.long x1), .second] [(.long x2)])) t → Steps p.tables e below (s₁.setTop (entryFrame m #[(.int p1), (.int p2), (.long q3), (.ref a4), (.int p5), (.int p6)] 9)) t := by
    intro t kt
    rw [h_x2] at kt
    exact pre17 _ kt
  have pre19 : ∀ t, Steps p.tables e below (T16.setTop (mkF m 72 #[.val (.int p1), .val (.int p2), .val (.long q3), .second, .val (.ref a4), .val (.int p5), .val (.int p6), .val (.long x2), .second] [(.int p5), (.int (2 : Int32)), (.int (fl 2)), (.int p1), (.long x2)])) t → Steps p.tables e below (s₁.setTop (entryFrame m #[(.int p1), (.int p2), (.long q3), (.ref a4), (.int p5), (.int p6)] 9)) t := by
    intro t kt
    refine pre18 _ ?_
    show Steps p.tables e below (T16.setTop (mkF m 60 #[.val (.int p1), .val (.int p2), .val (.long q3), .second, .val (.ref a4), .val (.int p5), .val (.int p6), .val (.long x1), .second] [(.long x2)])) _
    refine XS.lstore X16.here hx rfl (hb hby d8_60) rfl (l' := #[.val (.int p1), .val (.int p2), .val (.long q3), .second, .val (.ref a4), .val (.int p5), .val (.int p6), .val (.long x2), .second]) rfl ?_
    show Steps p.tables e below (T16.setTop (mkF m 62 #[.val (.int p1), .val (.int p2), .val (.long q3), .second, .val (.ref a4), .val (.int p5), .val (.int p6), .val (.long x2), .second] [])) _
    refine XS.lload X16.here hx rfl (hb hby d8_62) rfl ?_
    show Steps p.tables e below (T16.setTop (mkF m 64 #[.val (.int p1), .val (.int p2), .val (.long q3), .second, .val (.ref a4), .val (.int p5), .val (.int p6), .val (.long x2), .second] [(.long x2)])) _
    refine XS.iloadN X16.here hx rfl (hb hby d8_64) rfl ?_
    show Steps p.tables e below (T16.setTop (mkF m 65 #[.val (.int p1), .val (.int p2), .val (.long q3), .second, .val (.ref a4), .val (.int p5), .val (.int p6), .val (.long x2), .second] [(.int p1), (.long x2)])) _
    refine XS.aload X16.here hx rfl (hb hby d8_65) rfl rfl ?_
    show Steps p.tables e below (T16.setTop (mkF m 67 #[.val (.int p1), .val (.int p2), .val (.long q3), .second, .val (.ref a4), .val (.int p5), .val (.int p6), .val (.long x2), .second] [(.ref a4), (.int p1), (.long x2)])) _
    refine XS.iconst X16.here hx rfl (hb hby d8_67) ?_
    show Steps p.tables e below (T16.setTop (mkF m 68 #[.val (.int p1), .val (.int p2), .val (.long q3), .second, .val (.ref a4), .val (.int p5), .val (.int p6), .val (.long x2), .second] [(.int (2 : Int32)), (.ref a4), (.int p1), (.long x2)])) _
    refine owLdC (k := 2) X16 hx hZ hE16 A_a4 (j := (2 : Int32)) rfl (by decide) (g := (mkF m 68 #[.val (.int p1), .val (.int p2), .val (.long q3), .second, .val (.ref a4), .val (.int p5), .val (.int p6), .val (.long x2), .second] [(.int (2 : Int32)), (.ref a4), (.int p1), (.long x2)])) rfl rfl (hb hby d8_68) _ ?_
    show Steps p.tables e below (T16.setTop (mkF m 69 #[.val (.int p1), .val (.int p2), .val (.long q3), .second, .val (.ref a4), .val (.int p5), .val (.int p6), .val (.long x2), .second] [(.int (fl 2)), (.int p1), (.long x2)])) _
    refine XS.iconst X16.here hx rfl (hb hby d8_69) ?_
    show Steps p.tables e below (T16.setTop (mkF m 70 #[.val (.int p1), .val (.int p2), .val (.long q3), .second, .val (.ref a4), .val (.int p5), .val (.int p6), .val (.long x2), .second] [(.int (2 : Int32)), (.int (fl 2)), (.int p1), (.long x2)])) _
    refine XS.iload X16.here hx rfl (hb hby d8_70) rfl ?_
    exact kt
  obtain ⟨j21, h_j21⟩ : ∃ z : Int32, z = (if (2 : Int32) < p5 then (1 : Int32) else (0 : Int32)) := ⟨_, rfl⟩
  have pre22 : ∀ t, Steps p.tables e below (T16.setTop (mkF m 80 #[.val (.int p1), .val (.int p2), .val (.long q3), .second, .val (.ref a4), .val (.int p5), .val (.int p6), .val (.long x2), .second] [(.int j21), (.int (fl 2)), (.int p1), (.long x2)])) t → Steps p.tables e below (s₁.setTop (entryFrame m #[(.int p1), (.int p2), (.long q3), (.ref a4), (.int p5), (.int p6)] 9)) t := by
    intro t kt
    refine pre19 _ ?_
    by_cases hc72_20 : (2 : Int32) < p5
    · skip
      have q_j21 : j21 = (1 : Int32) := by rw [h_j21, if_pos hc72_20]
      rw [q_j21] at kt
      show Steps p.tables e below (T16.setTop (mkF m 72 #[.val (.int p1), .val (.int p2), .val (.long q3), .second, .val (.ref a4), .val (.int p5), .val (.int p6), .val (.long x2), .second] [(.int p5), (.int (2 : Int32)), (.int (fl 2)), (.int p1), (.long x2)])) _
      refine XS.icmpNo X16.here hx rfl (hb hby d8_72) rfl (XT.ii_ge_f hc72_20) ?_
      show Steps p.tables e below (T16.setTop (mkF m 75 #[.val (.int p1), .val (.int p2), .val (.long q3), .second, .val (.ref a4), .val (.int p5), .val (.int p6), .val (.long x2), .second] [(.int (fl 2)), (.int p1), (.long x2)])) _
      refine XS.iconst X16.here hx rfl (hb hby d8_75) ?_
      show Steps p.tables e below (T16.setTop (mkF m 76 #[.val (.int p1), .val (.int p2), .val (.long q3), .second, .val (.ref a4), .val (.int p5), .val (.int p6), .val (.long x2), .second] [(.int (1 : Int32)), (.int (fl 2)), (.int p1), (.long x2)])) _
      refine XS.goto X16.here hx rfl (pc0 := 76) (pc' := 80) rfl (hb hby d8_76) (by decide) (by decide) ?_
      exact kt
    · skip
      have q_j21 : j21 = (0 : Int32) := by rw [h_j21, if_neg hc72_20]
      rw [q_j21] at kt
      show Steps p.tables e below (T16.setTop (mkF m 72 #[.val (.int p1), .val (.int p2), .val (.long q3), .second, .val (.ref a4), .val (.int p5), .val (.int p6), .val (.long x2), .second] [(.int p5), (.int (2 : Int32)), (.int (fl 2)), (.int p1), (.long x2)])) _
      refine XS.icmpYes X16.here hx rfl (pc0 := 72) (pc' := 79) rfl (hb hby d8_72) rfl (XT.ii_ge_t hc72_20) (by decide) (by decide) ?_
      show Steps p.tables e below (T16.setTop (mkF m 79 #[.val (.int p1), .val (.int p2), .val (.long q3), .second, .val (.ref a4), .val (.int p5), .val (.int p6), .val (.long x2), .second] [(.int (fl 2)), (.int p1), (.long x2)])) _
      refine XS.iconst X16.here hx rfl (hb hby d8_79) ?_
      exact kt
  obtain ⟨_, _, ⟨T23, L23, k23, n23⟩, -, X23, ⟨Lc23, hQ23, l23, y23, z23⟩, st23⟩ := Jvm.LawKit.callS X16 hx (y := (⟨"com/example/bitweight/bitweight/chunk/WordChunkTakeInPinLaw", "step", "(JICZZ)J"⟩ : MethodName)) hown (mvT hZ (hw _ (List.mem_of_getElem? (i := 44) rfl))) (mvT hZ (hw _ (List.mem_of_getElem? (i := 45) rfl))) (mvT hZ (hw _ (List.mem_of_getElem? (i := 42) rfl))) (mvT hZ (hw _ (List.mem_of_getElem? (i := 46) rfl))) (by decide) (backOf (W := 0) (rm9 l Z a0 hw [] x2 p1 (fl 2) j21 p6 h0 n0 Z0) hZ (hw _ (List.mem_of_getElem? (i := 46) rfl)) (hw _ (List.mem_of_getElem? (i := 42) rfl)) (by decide) (by decide)) (g := (mkF m 82 #[.val (.int p1), .val (.int p2), .val (.long q3), .second, .val (.ref a4), .val (.int p5), .val (.int p6), .val (.long x2), .second] [(.int p6), (.int j21), (.int (fl 2)), (.int p1), (.long x2)])) rfl (by rw [hml]; rfl) (argsL := [(.long x2), (.int p1), (.int (fl 2)), (.int j21), (.int p6)]) (rest := []) (lenOf pd_4 rfl) rfl (by show 2 * 0 + _ ≤ _; exact Nat.le_of_eq rfl) (hb hby d8_82) (fun _ _ => ⟨rfl, hE16, (by decide : 0 + 0 ≤ _), (by decide : 0 + 0 ≤ _)⟩)
  dsimp only [Pt.U, Pt.locs, Pt.cells, Pt.slots] at X23 l23 y23 z23 st23 hQ23
  subst l23 y23 z23
  obtain ⟨rfl, N23q, hE23⟩ := hQ23
  have N23 := Fr.app N16 N23q
  have pre24 : ∀ t, Steps p.tables e below (T23.setTop (mkF m 85 #[.val (.int p1), .val (.int p2), .val (.long q3), .second, .val (.ref a4), .val (.int p5), .val (.int p6), .val (.long x2), .second] [(.long (fn9 x2 p1 (fl 2) j21 p6))])) t → Steps p.tables e below (s₁.setTop (entryFrame m #[(.int p1), (.int p2), (.long q3), (.ref a4), (.int p5), (.int p6)] 9)) t := by
    intro t kt
    refine pre22 _ ?_
    show Steps p.tables e below (T16.setTop (mkF m 80 #[.val (.int p1), .val (.int p2), .val (.long q3), .second, .val (.ref a4), .val (.int p5), .val (.int p6), .val (.long x2), .second] [(.int j21), (.int (fl 2)), (.int p1), (.long x2)])) _
    refine XS.iload X16.here hx rfl (hb hby d8_80) rfl ?_
    show Steps p.tables e below (T16.setTop (mkF m 82 #[.val (.int p1), .val (.int p2), .val (.long q3), .second, .val (.ref a4), .val (.int p5), .val (.int p6), .val (.long x2), .second] [(.int p6), (.int j21), (.int (fl 2)), (.int p1), (.long x2)])) _
    refine st23 _ ?_
    exact kt
  obtain ⟨x3, h_x3⟩ : ∃ z : Int64, z = (fn9 x2 p1 (fl 2) j21 p6) := ⟨_, rfl⟩
  have pre25 : ∀ t, Steps p.tables e below (T23.setTop (mkF m 85 #[.val (.int p1), .val (.int p2), .val (.long q3), .second, .val (.ref a4), .val (.int p5), .val (.int p6), .val (.long x2), .second] [(.long x3)])) t → Steps p.tables e below (s₁.setTop (entryFrame m #[(.int p1), (.int p2), (.long q3), (.ref a4), (.int p5), (.int p6)] 9)) t := by
    intro t kt
    rw [h_x3] at kt
    exact pre24 _ kt
  have pre26 : ∀ t, Steps p.tables e below (T23.setTop (mkF m 89 #[.val (.int p1), .val (.int p2), .val (.long q3), .second, .val (.ref a4), .val (.int p5), .val (.int p6), .val (.long x3), .second] [(.long x3)])) t → Steps p.tables e below (s₁.setTop (entryFrame m #[(.int p1), (.int p2), (.long q3), (.ref a4), (.int p5), (.int p6)] 9)) t := by
    intro t kt
    refine pre25 _ ?_
    show Steps p.tables e below (T23.setTop (mkF m 85 #[.val (.int p1), .val (.int p2), .val (.long q3), .second, .val (.ref a4), .val (.int p5), .val (.int p6), .val (.long x2), .second] [(.long x3)])) _
    refine XS.lstore X23.here hx rfl (hb hby d8_85) rfl (l' := #[.val (.int p1), .val (.int p2), .val (.long q3), .second, .val (.ref a4), .val (.int p5), .val (.int p6), .val (.long x3), .second]) rfl ?_
    show Steps p.tables e below (T23.setTop (mkF m 87 #[.val (.int p1), .val (.int p2), .val (.long q3), .second, .val (.ref a4), .val (.int p5), .val (.int p6), .val (.long x3), .second] [])) _
    refine XS.lload X23.here hx rfl (hb hby d8_87) rfl ?_
    exact kt
  obtain ⟨fs, hr, hrun, hended, hW, hsame⟩ := X23.leave (v := some (.long x3)) (fun h => by rw [Bd.returns] at h; cases h)
  refine ⟨_, _, pre26 _ ?_, hrun, hended, _, _, rfl, ?_, ⟨_, rfl⟩, hW, hsame.mono (by decide) (by decide)⟩
  · show Steps p.tables e below (T23.setTop (mkF m 89 #[.val (.int p1), .val (.int p2), .val (.long q3), .second, .val (.ref a4), .val (.int p5), .val (.int p6), .val (.long x3), .second] [(.long x3)])) _
    exact X23.lreturnOut hx Bd.returns (hb hby d8_89) hr
  · show Q8 Z p1 p2 q3 a4 p5 p6 fl h0 n0 _ T23.heap _
    rw [hE23]
    exact ⟨by subst h_j3 h_j7 h_x1 h_j14 h_x2 h_j21 h_x3; rfl, N23, rfl⟩
def tkf (p3 p4 : Int32) (fl : Nat → Int32) (fz : Nat → Int64) : Nat → Int64 := (if (0 : Int32) < p3 then (if p4 = (0 : Int32) then (if (1 : Int32) < p3 then (if (2 : Int32) < p3 then (owUp (owUp (owUp fz (own_kx (fl 0)) ((fz (own_kx (fl 0))) ||| ((1 : Int64) <<< ((fl 0) &&& 0x3f).toInt64))) (own_kx (fl 1)) (((owUp fz (own_kx (fl 0)) ((fz (own_kx (fl 0))) ||| ((1 : Int64) <<< ((fl 0) &&& 0x3f).toInt64))) (own_kx (fl 1))) ||| ((1 : Int64) <<< ((fl 1) &&& 0x3f).toInt64))) (own_kx (fl 2)) (((owUp (owUp fz (own_kx (fl 0)) ((fz (own_kx (fl 0))) ||| ((1 : Int64) <<< ((fl 0) &&& 0x3f).toInt64))) (own_kx (fl 1)) (((owUp fz (own_kx (fl 0)) ((fz (own_kx (fl 0))) ||| ((1 : Int64) <<< ((fl 0) &&& 0x3f).toInt64))) (own_kx (fl 1))) ||| ((1 : Int64) <<< ((fl 1) &&& 0x3f).toInt64))) (own_kx (fl 2))) ||| ((1 : Int64) <<< ((fl 2) &&& 0x3f).toInt64))) else (owUp (owUp fz (own_kx (fl 0)) ((fz (own_kx (fl 0))) ||| ((1 : Int64) <<< ((fl 0) &&& 0x3f).toInt64))) (own_kx (fl 1)) (((owUp fz (own_kx (fl 0)) ((fz (own_kx (fl 0))) ||| ((1 : Int64) <<< ((fl 0) &&& 0x3f).toInt64))) (own_kx (fl 1))) ||| ((1 : Int64) <<< ((fl 1) &&& 0x3f).toInt64)))) else (owUp fz (own_kx (fl 0)) ((fz (own_kx (fl 0))) ||| ((1 : Int64) <<< ((fl 0) &&& 0x3f).toInt64)))) else (if (1 : Int32) < p3 then (if (2 : Int32) < p3 then (owUp (owUp (owUp fz (own_kx (fl 0)) ((fz (own_kx (fl 0))) ^^^ ((1 : Int64) <<< ((fl 0) &&& 0x3f).toInt64))) (own_kx (fl 1)) (((owUp fz (own_kx (fl 0)) ((fz (own_kx (fl 0))) ^^^ ((1 : Int64) <<< ((fl 0) &&& 0x3f).toInt64))) (own_kx (fl 1))) ^^^ ((1 : Int64) <<< ((fl 1) &&& 0x3f).toInt64))) (own_kx (fl 2)) (((owUp (owUp fz (own_kx (fl 0)) ((fz (own_kx (fl 0))) ^^^ ((1 : Int64) <<< ((fl 0) &&& 0x3f).toInt64))) (own_kx (fl 1)) (((owUp fz (own_kx (fl 0)) ((fz (own_kx (fl 0))) ^^^ ((1 : Int64) <<< ((fl 0) &&& 0x3f).toInt64))) (own_kx (fl 1))) ^^^ ((1 : Int64) <<< ((fl 1) &&& 0x3f).toInt64))) (own_kx (fl 2))) ^^^ ((1 : Int64) <<< ((fl 2) &&& 0x3f).toInt64))) else (owUp (owUp fz (own_kx (fl 0)) ((fz (own_kx (fl 0))) ^^^ ((1 : Int64) <<< ((fl 0) &&& 0x3f).toInt64))) (own_kx (fl 1)) (((owUp fz (own_kx (fl 0)) ((fz (own_kx (fl 0))) ^^^ ((1 : Int64) <<< ((fl 0) &&& 0x3f).toInt64))) (own_kx (fl 1))) ^^^ ((1 : Int64) <<< ((fl 1) &&& 0x3f).toInt64)))) else (owUp fz (own_kx (fl 0)) ((fz (own_kx (fl 0))) ^^^ ((1 : Int64) <<< ((fl 0) &&& 0x3f).toInt64))))) else fz)
theorem d10_0 : decode prog_39_method_42_code 0 = .ok (.iconst 0, 1) := by decide +kernel
theorem d10_1 : decode prog_39_method_42_code 1 = .ok (.istore 4, 2) := by decide +kernel
theorem d10_3 : decode prog_39_method_42_code 3 = .ok (.iload 4, 2) := by decide +kernel
theorem d10_5 : decode prog_39_method_42_code 5 = .ok (.iload_n 2, 1) := by decide +kernel
theorem d10_6 : decode prog_39_method_42_code 6 = .ok (.if_icmp .ge 58, 3) := by decide +kernel
theorem d10_9 : decode prog_39_method_42_code 9 = .ok (.lconst 1, 1) := by decide +kernel
theorem d10_10 : decode prog_39_method_42_code 10 = .ok (.aload_n 1, 1) := by decide +kernel
theorem d10_11 : decode prog_39_method_42_code 11 = .ok (.iload 4, 2) := by decide +kernel
theorem d10_13 : decode prog_39_method_42_code 13 = .ok (.caload, 1) := by decide +kernel
theorem d10_14 : decode prog_39_method_42_code 14 = .ok (.lshl, 1) := by decide +kernel
theorem d10_15 : decode prog_39_method_42_code 15 = .ok (.lstore 5, 2) := by decide +kernel
theorem d10_17 : decode prog_39_method_42_code 17 = .ok (.iload_n 3, 1) := by decide +kernel
theorem d10_18 : decode prog_39_method_42_code 18 = .ok (.ifCond .eq 23, 3) := by decide +kernel
theorem d10_21 : decode prog_39_method_42_code 21 = .ok (.aload_n 0, 1) := by decide +kernel
theorem d10_22 : decode prog_39_method_42_code 22 = .ok (.getfield 18, 3) := by decide +kernel
theorem d10_25 : decode prog_39_method_42_code 25 = .ok (.aload_n 1, 1) := by decide +kernel
theorem d10_26 : decode prog_39_method_42_code 26 = .ok (.iload 4, 2) := by decide +kernel
theorem d10_28 : decode prog_39_method_42_code 28 = .ok (.caload, 1) := by decide +kernel
theorem d10_29 : decode prog_39_method_42_code 29 = .ok (.bipush 6, 2) := by decide +kernel
theorem d10_31 : decode prog_39_method_42_code 31 = .ok (.iushr, 1) := by decide +kernel
theorem d10_32 : decode prog_39_method_42_code 32 = .ok (.dup2, 1) := by decide +kernel
theorem d10_33 : decode prog_39_method_42_code 33 = .ok (.laload, 1) := by decide +kernel
theorem d10_34 : decode prog_39_method_42_code 34 = .ok (.lload 5, 2) := by decide +kernel
theorem d10_36 : decode prog_39_method_42_code 36 = .ok (.lxor, 1) := by decide +kernel
theorem d10_37 : decode prog_39_method_42_code 37 = .ok (.lastore, 1) := by decide +kernel
theorem d10_38 : decode prog_39_method_42_code 38 = .ok (.goto 20, 3) := by decide +kernel
theorem d10_41 : decode prog_39_method_42_code 41 = .ok (.aload_n 0, 1) := by decide +kernel
theorem d10_42 : decode prog_39_method_42_code 42 = .ok (.getfield 18, 3) := by decide +kernel
theorem d10_45 : decode prog_39_method_42_code 45 = .ok (.aload_n 1, 1) := by decide +kernel
theorem d10_46 : decode prog_39_method_42_code 46 = .ok (.iload 4, 2) := by decide +kernel
theorem d10_48 : decode prog_39_method_42_code 48 = .ok (.caload, 1) := by decide +kernel
theorem d10_49 : decode prog_39_method_42_code 49 = .ok (.bipush 6, 2) := by decide +kernel
theorem d10_51 : decode prog_39_method_42_code 51 = .ok (.iushr, 1) := by decide +kernel
theorem d10_52 : decode prog_39_method_42_code 52 = .ok (.dup2, 1) := by decide +kernel
theorem d10_53 : decode prog_39_method_42_code 53 = .ok (.laload, 1) := by decide +kernel
theorem d10_54 : decode prog_39_method_42_code 54 = .ok (.lload 5, 2) := by decide +kernel
theorem d10_56 : decode prog_39_method_42_code 56 = .ok (.lor, 1) := by decide +kernel
theorem d10_57 : decode prog_39_method_42_code 57 = .ok (.lastore, 1) := by decide +kernel
theorem d10_58 : decode prog_39_method_42_code 58 = .ok (.iinc 4 1, 3) := by decide +kernel
theorem d10_61 : decode prog_39_method_42_code 61 = .ok (.goto (-58), 3) := by decide +kernel
theorem d10_64 : decode prog_39_method_42_code 64 = .ok (.return_, 1) := by decide +kernel
theorem pn_10 : plainName "com/example/bitweight/bitweight/chunk/WordChunk" = true := by first | (simp [plainName, overriddenIn]; done) | decide +kernel
theorem ef_10 (m : MethodId) (x0 : Addr) (x1 : Addr) (x2 : Int32) (x3 : Int32) : entryFrame m #[(.ref x0), (.ref x1), (.int x2), (.int x3)] 7 = mkF m 0 #[.val (.ref x0), .val (.ref x1), .val (.int x2), .val (.int x3), .unset, .unset, .unset] [] := by first | (simp [entryFrame, mkF, argsToLocals, Value.category]; done) | rfl
def Q10 (Z : State) (a1 : Addr) (a2 : Addr) (p3 : Int32) (p4 : Int32) (aw : Addr) (fl : Nat → Int32) (fz : Nat → Int64) (h0 : Heap) (n0 : Nat) (v : Option Value) (h : Heap) (L : List Loc) : Prop := v = none ∧ Fr n0 L ∧ Keep h0 h [aw] ∧ Exa Z h a1 "com/example/bitweight/bitweight/chunk/WordChunk" ∧ Fld Z h a1 "com/example/bitweight/bitweight/chunk/WordChunk" "words" "[J" (.ref aw) ∧ owAJ Z h aw .long 1024 (tkf p3 p4 fl fz)
set_option maxRecDepth 65536 in
set_option maxHeartbeats 40000000 in
theorem rm10 (l : Launch) (Z : State) (a0 : Array Value) (hw : ∀ d ∈ tables_1, d.before a0 Z = true) (ws : List Jvm.Cond) (a1 : Addr) (a2 : Addr) (p3 : Int32) (p4 : Int32) (aw : Addr) (fl : Nat → Int32) (fz : Nat → Int64) (h0 : Heap) (n0 : Nat) (Z0 : n0 ≤ h0.size) (E_a1 : Exa Z h0 a1 "com/example/bitweight/bitweight/chunk/WordChunk") (F_words : Fld Z h0 a1 "com/example/bitweight/bitweight/chunk/WordChunk" "words" "[J" (.ref aw)) (A_aw : owAJ Z h0 aw .long 1024 fz) (A_a2 : owAI Z h0 a2 .char 3 fl) (g_aw : n0 ≤ aw) (n1w : a1 ≠ aw) (n2w : a2 ≠ aw) (hfl : ∀ i, i < 3 → 0 ≤ (fl i).toInt ∧ (fl i).toInt < 65536) (hp3 : ¬ ((3 : Int32) < p3)) :
    MetFree l (⟨"com/example/bitweight/bitweight/chunk/WordChunk", "takeIn", "([CIZ)V"⟩ : MethodName) (head1 (Jvm.Cond.code (⟨"com/example/bitweight/bitweight/chunk/WordChunk", "takeIn", "([CIZ)V"⟩ : MethodName) prog_39_method_42_code 7 none :: ws) ({ frames := 0, cells := 0, slots := 0, locals := 0 } : Room)) (fun a U => a = #[(.ref a1), (.ref a2), (.int p3), (.int p4)] ∧ Z.Warmed39 U.vm ∧ U.heap = h0) (fun _ _ _ _ _ => True) (fun _ U o U' => ∃ v L, o = .returned v ∧ Q10 Z a1 a2 p3 p4 aw fl fz h0 n0 v U'.heap L ∧ FrameEnd U o U' L ({ frames := 0, cells := 0, slots := 0, locals := 0 } : Room).cells ({ frames := 0, cells := 0, slots := 0, locals := 0 } : Room).slots) := by
  refine MetFree.of_bodySF (plainFor_of_name pn_10) hisR ?_
  intro p e s m args below meth c s₁ Bd hml0 hP hK
  obtain ⟨rfl, hZ, hh⟩ := hP
  have hx := Bd.exec
  have hby := Bd.bytes
  have hml : c.maxLocals = 7 := hml0
  have hown : s.vm.findClass "com/example/bitweight/bitweight/chunk/WordChunk" = some m.cls := findClass_of_methodNamed Bd.named
  have hnm := (name_of_methodNamed Bd.named Bd.method).1
  have X0 : Stand p l e ({ frames := 0, cells := 0, slots := 0, locals := 0 } : Room) s m #[(.ref a1), (.ref a2), (.int p3), (.int p4)] below meth c s₁ [] 0 0 := Stand.of_body Bd
  have e0 : s₁.heap = h0 := by rw [← hh, Bd.state]; rfl
  have N0 := Fr.nil n0
  have pre0 : ∀ t, Steps p.tables e below (s₁.setTop (mkF m 0 #[.val (.ref a1), .val (.ref a2), .val (.int p3), .val (.int p4), .unset, .unset, .unset] [])) t → Steps p.tables e below (s₁.setTop (entryFrame m #[(.ref a1), (.ref a2), (.int p3), (.int p4)] 7)) t := fun t k => castTop (ef_10 m a1 a2 p3 p4) k
  have pre1 : ∀ t, Steps p.tables e below (s₁.setTop (mkF m 6 #[.val (.ref a1), .val (.ref a2), .val (.int p3), .val (.int p4), .val (.int (0 : Int32)), .unset, .unset] [(.int p3), (.int (0 : Int32))])) t → Steps p.tables e below (s₁.setTop (entryFrame m #[(.ref a1), (.ref a2), (.int p3), (.int p4)] 7)) t := by
    intro t kt
    refine pre0 _ ?_
    show Steps p.tables e below (s₁.setTop (mkF m 0 #[.val (.ref a1), .val (.ref a2), .val (.int p3), .val (.int p4), .unset, .unset, .unset] [])) _
    refine XS.iconst X0.here hx rfl (hb hby d10_0) ?_
    show Steps p.tables e below (s₁.setTop (mkF m 1 #[.val (.ref a1), .val (.ref a2), .val (.int p3), .val (.int p4), .unset, .unset, .unset] [(.int (0 : Int32))])) _
    refine XS.istore X0.here hx rfl (hb hby d10_1) rfl (l' := #[.val (.ref a1), .val (.ref a2), .val (.int p3), .val (.int p4), .val (.int (0 : Int32)), .unset, .unset]) rfl ?_
    show Steps p.tables e below (s₁.setTop (mkF m 3 #[.val (.ref a1), .val (.ref a2), .val (.int p3), .val (.int p4), .val (.int (0 : Int32)), .unset, .unset] [])) _
    refine XS.iload X0.here hx rfl (hb hby d10_3) rfl ?_
    show Steps p.tables e below (s₁.setTop (mkF m 5 #[.val (.ref a1), .val (.ref a2), .val (.int p3), .val (.int p4), .val (.int (0 : Int32)), .unset, .unset] [(.int (0 : Int32))])) _
    refine XS.iloadN X0.here hx rfl (hb hby d10_5) rfl ?_
    exact kt
  by_cases hc6_2 : (0 : Int32) < p3
  · skip
    have pre3 : ∀ t, Steps p.tables e below (s₁.setTop (mkF m 18 #[.val (.ref a1), .val (.ref a2), .val (.int p3), .val (.int p4), .val (.int (0 : Int32)), .val (.long ((1 : Int64) <<< ((fl 0) &&& 0x3f).toInt64)), .second] [(.int p4)])) t → Steps p.tables e below (s₁.setTop (entryFrame m #[(.ref a1), (.ref a2), (.int p3), (.int p4)] 7)) t := by
      intro t kt
      refine pre1 _ ?_
      show Steps p.tables e below (s₁.setTop (mkF m 6 #[.val (.ref a1), .val (.ref a2), .val (.int p3), .val (.int p4), .val (.int (0 : Int32)), .unset, .unset] [(.int p3), (.int (0 : Int32))])) _
      refine XS.icmpNo X0.here hx rfl (hb hby d10_6) rfl (XT.ii_ge_f hc6_2) ?_
      show Steps p.tables e below (s₁.setTop (mkF m 9 #[.val (.ref a1), .val (.ref a2), .val (.int p3), .val (.int p4), .val (.int (0 : Int32)), .unset, .unset] [])) _
      refine XS.lconst X0.here hx rfl (hb hby d10_9) ?_
      show Steps p.tables e below (s₁.setTop (mkF m 10 #[.val (.ref a1), .val (.ref a2), .val (.int p3), .val (.int p4), .val (.int (0 : Int32)), .unset, .unset] [(.long (1 : Int64))])) _
      refine XS.aloadN X0.here hx rfl (hb hby d10_10) rfl rfl ?_
      show Steps p.tables e below (s₁.setTop (mkF m 11 #[.val (.ref a1), .val (.ref a2), .val (.int p3), .val (.int p4), .val (.int (0 : Int32)), .unset, .unset] [(.ref a2), (.long (1 : Int64))])) _
      refine XS.iload X0.here hx rfl (hb hby d10_11) rfl ?_
      show Steps p.tables e below (s₁.setTop (mkF m 13 #[.val (.ref a1), .val (.ref a2), .val (.int p3), .val (.int p4), .val (.int (0 : Int32)), .unset, .unset] [(.int (0 : Int32)), (.ref a2), (.long (1 : Int64))])) _
      refine owLdC (k := 0) X0 hx hZ e0 A_a2 (j := (0 : Int32)) rfl (by decide) (g := (mkF m 13 #[.val (.ref a1), .val (.ref a2), .val (.int p3), .val (.int p4), .val (.int (0 : Int32)), .unset, .unset] [(.int (0 : Int32)), (.ref a2), (.long (1 : Int64))])) rfl rfl (hb hby d10_13) _ ?_
      show Steps p.tables e below (s₁.setTop (mkF m 14 #[.val (.ref a1), .val (.ref a2), .val (.int p3), .val (.int p4), .val (.int (0 : Int32)), .unset, .unset] [(.int (fl 0)), (.long (1 : Int64))])) _
      refine XS.lshl X0.here hx rfl (hb hby d10_14) rfl ?_
      show Steps p.tables e below (s₁.setTop (mkF m 15 #[.val (.ref a1), .val (.ref a2), .val (.int p3), .val (.int p4), .val (.int (0 : Int32)), .unset, .unset] [(.long ((1 : Int64) <<< ((fl 0) &&& 0x3f).toInt64))])) _
      refine XS.lstore X0.here hx rfl (hb hby d10_15) rfl (l' := #[.val (.ref a1), .val (.ref a2), .val (.int p3), .val (.int p4), .val (.int (0 : Int32)), .val (.long ((1 : Int64) <<< ((fl 0) &&& 0x3f).toInt64)), .second]) rfl ?_
      show Steps p.tables e below (s₁.setTop (mkF m 17 #[.val (.ref a1), .val (.ref a2), .val (.int p3), .val (.int p4), .val (.int (0 : Int32)), .val (.long ((1 : Int64) <<< ((fl 0) &&& 0x3f).toInt64)), .second] [])) _
      refine XS.iloadN X0.here hx rfl (hb hby d10_17) rfl ?_
      exact kt
    by_cases hc18_4 : p4 = (0 : Int32)
    · skip
      obtain ⟨T5, X5, hE5, st5⟩ := getF X0 hx hZ hown (host := "") (Or.inl (hw _ (List.mem_of_getElem? (i := 19) rfl))) Via.refl e0 F_words (g := (mkF m 42 #[.val (.ref a1), .val (.ref a2), .val (.int p3), .val (.int p4), .val (.int (0 : Int32)), .val (.long ((1 : Int64) <<< ((fl 0) &&& 0x3f).toInt64)), .second] [(.ref a1)])) rfl rfl (hb hby d10_42)
      obtain ⟨T6, gh6, X6, hE6, W6, V6, st6⟩ := owStJ X5 hx hZ hE5 A_aw (k := (own_kx (fl 0))) (j := (((fl 0).toUInt32 >>> ((6 : Int32) &&& 31).toUInt32).toInt32)) (own_kx1 (hfl 0 (by decide))) (own_kx2 (hfl 0 (by decide))) (g := (mkF m 57 #[.val (.ref a1), .val (.ref a2), .val (.int p3), .val (.int p4), .val (.int (0 : Int32)), .val (.long ((1 : Int64) <<< ((fl 0) &&& 0x3f).toInt64)), .second] [(.long ((fz (own_kx (fl 0))) ||| ((1 : Int64) <<< ((fl 0) &&& 0x3f).toInt64))), (.int (((fl 0).toUInt32 >>> ((6 : Int32) &&& 31).toUInt32).toInt32)), (.ref aw)])) rfl rfl (hb hby d10_57)
      have f7 := E_a1.wr W6
      have f8 := F_words.other W6 (Or.inl n1w)
      have f10 := A_a2.other W6 n2w
      have Z11 := Nat.le_trans Z0 (Keep.of_wr W6).1
      have N12 := Fr.snoc X6 N0 g_aw
      have K13 := (Keep.refl h0 [aw]).wr W6 (Or.inl (List.mem_of_getElem? (i := 0) rfl))
      have pre14 : ∀ t, Steps p.tables e below (T6.setTop (mkF m 6 #[.val (.ref a1), .val (.ref a2), .val (.int p3), .val (.int p4), .val (.int (1 : Int32)), .val (.long ((1 : Int64) <<< ((fl 0) &&& 0x3f).toInt64)), .second] [(.int p3), (.int (1 : Int32))])) t → Steps p.tables e below (s₁.setTop (entryFrame m #[(.ref a1), (.ref a2), (.int p3), (.int p4)] 7)) t := by
        intro t kt
        refine pre3 _ ?_
        show Steps p.tables e below (s₁.setTop (mkF m 18 #[.val (.ref a1), .val (.ref a2), .val (.int p3), .val (.int p4), .val (.int (0 : Int32)), .val (.long ((1 : Int64) <<< ((fl 0) &&& 0x3f).toInt64)), .second] [(.int p4)])) _
        refine XS.ifYes X0.here hx rfl (pc0 := 18) (pc' := 41) rfl (hb hby d10_18) rfl (XT.i0_eq_t hc18_4) (by decide) (by decide) ?_
        show Steps p.tables e below (s₁.setTop (mkF m 41 #[.val (.ref a1), .val (.ref a2), .val (.int p3), .val (.int p4), .val (.int (0 : Int32)), .val (.long ((1 : Int64) <<< ((fl 0) &&& 0x3f).toInt64)), .second] [])) _
        refine XS.aloadN X0.here hx rfl (hb hby d10_41) rfl rfl ?_
        show Steps p.tables e below (s₁.setTop (mkF m 42 #[.val (.ref a1), .val (.ref a2), .val (.int p3), .val (.int p4), .val (.int (0 : Int32)), .val (.long ((1 : Int64) <<< ((fl 0) &&& 0x3f).toInt64)), .second] [(.ref a1)])) _
        refine st5 _ ?_
        show Steps p.tables e below (T5.setTop (mkF m 45 #[.val (.ref a1), .val (.ref a2), .val (.int p3), .val (.int p4), .val (.int (0 : Int32)), .val (.long ((1 : Int64) <<< ((fl 0) &&& 0x3f).toInt64)), .second] [(.ref aw)])) _
        refine XS.aloadN X5.here hx rfl (hb hby d10_45) rfl rfl ?_
        show Steps p.tables e below (T5.setTop (mkF m 46 #[.val (.ref a1), .val (.ref a2), .val (.int p3), .val (.int p4), .val (.int (0 : Int32)), .val (.long ((1 : Int64) <<< ((fl 0) &&& 0x3f).toInt64)), .second] [(.ref a2), (.ref aw)])) _
        refine XS.iload X5.here hx rfl (hb hby d10_46) rfl ?_
        show Steps p.tables e below (T5.setTop (mkF m 48 #[.val (.ref a1), .val (.ref a2), .val (.int p3), .val (.int p4), .val (.int (0 : Int32)), .val (.long ((1 : Int64) <<< ((fl 0) &&& 0x3f).toInt64)), .second] [(.int (0 : Int32)), (.ref a2), (.ref aw)])) _
        refine owLdC (k := 0) X5 hx hZ hE5 A_a2 (j := (0 : Int32)) rfl (by decide) (g := (mkF m 48 #[.val (.ref a1), .val (.ref a2), .val (.int p3), .val (.int p4), .val (.int (0 : Int32)), .val (.long ((1 : Int64) <<< ((fl 0) &&& 0x3f).toInt64)), .second] [(.int (0 : Int32)), (.ref a2), (.ref aw)])) rfl rfl (hb hby d10_48) _ ?_
        show Steps p.tables e below (T5.setTop (mkF m 49 #[.val (.ref a1), .val (.ref a2), .val (.int p3), .val (.int p4), .val (.int (0 : Int32)), .val (.long ((1 : Int64) <<< ((fl 0) &&& 0x3f).toInt64)), .second] [(.int (fl 0)), (.ref aw)])) _
        refine XS.bipush X5.here hx rfl (hb hby d10_49) ?_
        show Steps p.tables e below (T5.setTop (mkF m 51 #[.val (.ref a1), .val (.ref a2), .val (.int p3), .val (.int p4), .val (.int (0 : Int32)), .val (.long ((1 : Int64) <<< ((fl 0) &&& 0x3f).toInt64)), .second] [(.int (6 : Int32)), (.int (fl 0)), (.ref aw)])) _
        refine XS.iushr X5.here hx rfl (hb hby d10_51) rfl ?_
        show Steps p.tables e below (T5.setTop (mkF m 52 #[.val (.ref a1), .val (.ref a2), .val (.int p3), .val (.int p4), .val (.int (0 : Int32)), .val (.long ((1 : Int64) <<< ((fl 0) &&& 0x3f).toInt64)), .second] [(.int (((fl 0).toUInt32 >>> ((6 : Int32) &&& 31).toUInt32).toInt32)), (.ref aw)])) _
        refine XT.dup2 X5.here hx rfl (hb hby d10_52) rfl rfl rfl ?_
        show Steps p.tables e below (T5.setTop (mkF m 53 #[.val (.ref a1), .val (.ref a2), .val (.int p3), .val (.int p4), .val (.int (0 : Int32)), .val (.long ((1 : Int64) <<< ((fl 0) &&& 0x3f).toInt64)), .second] [(.int (((fl 0).toUInt32 >>> ((6 : Int32) &&& 31).toUInt32).toInt32)), (.ref aw), (.int (((fl 0).toUInt32 >>> ((6 : Int32) &&& 31).toUInt32).toInt32)), (.ref aw)])) _
        refine owLdJ (k := (own_kx (fl 0))) X5 hx hZ hE5 A_aw (j := (((fl 0).toUInt32 >>> ((6 : Int32) &&& 31).toUInt32).toInt32)) (own_kx1 (hfl 0 (by decide))) (own_kx2 (hfl 0 (by decide))) (g := (mkF m 53 #[.val (.ref a1), .val (.ref a2), .val (.int p3), .val (.int p4), .val (.int (0 : Int32)), .val (.long ((1 : Int64) <<< ((fl 0) &&& 0x3f).toInt64)), .second] [(.int (((fl 0).toUInt32 >>> ((6 : Int32) &&& 31).toUInt32).toInt32)), (.ref aw), (.int (((fl 0).toUInt32 >>> ((6 : Int32) &&& 31).toUInt32).toInt32)), (.ref aw)])) rfl rfl (hb hby d10_53) _ ?_
        show Steps p.tables e below (T5.setTop (mkF m 54 #[.val (.ref a1), .val (.ref a2), .val (.int p3), .val (.int p4), .val (.int (0 : Int32)), .val (.long ((1 : Int64) <<< ((fl 0) &&& 0x3f).toInt64)), .second] [(.long (fz (own_kx (fl 0)))), (.int (((fl 0).toUInt32 >>> ((6 : Int32) &&& 31).toUInt32).toInt32)), (.ref aw)])) _
        refine XS.lload X5.here hx rfl (hb hby d10_54) rfl ?_
        show Steps p.tables e below (T5.setTop (mkF m 56 #[.val (.ref a1), .val (.ref a2), .val (.int p3), .val (.int p4), .val (.int (0 : Int32)), .val (.long ((1 : Int64) <<< ((fl 0) &&& 0x3f).toInt64)), .second] [(.long ((1 : Int64) <<< ((fl 0) &&& 0x3f).toInt64)), (.long (fz (own_kx (fl 0)))), (.int (((fl 0).toUInt32 >>> ((6 : Int32) &&& 31).toUInt32).toInt32)), (.ref aw)])) _
        refine XS.lor X5.here hx rfl (hb hby d10_56) rfl ?_
        show Steps p.tables e below (T5.setTop (mkF m 57 #[.val (.ref a1), .val (.ref a2), .val (.int p3), .val (.int p4), .val (.int (0 : Int32)), .val (.long ((1 : Int64) <<< ((fl 0) &&& 0x3f).toInt64)), .second] [(.long ((fz (own_kx (fl 0))) ||| ((1 : Int64) <<< ((fl 0) &&& 0x3f).toInt64))), (.int (((fl 0).toUInt32 >>> ((6 : Int32) &&& 31).toUInt32).toInt32)), (.ref aw)])) _
        refine st6 _ ?_
        show Steps p.tables e below (T6.setTop (mkF m 58 #[.val (.ref a1), .val (.ref a2), .val (.int p3), .val (.int p4), .val (.int (0 : Int32)), .val (.long ((1 : Int64) <<< ((fl 0) &&& 0x3f).toInt64)), .second] [])) _
        refine XS.iinc X6.here hx rfl (hb hby d10_58) rfl (l' := #[.val (.ref a1), .val (.ref a2), .val (.int p3), .val (.int p4), .val (.int (1 : Int32)), .val (.long ((1 : Int64) <<< ((fl 0) &&& 0x3f).toInt64)), .second]) rfl ?_
        show Steps p.tables e below (T6.setTop (mkF m 61 #[.val (.ref a1), .val (.ref a2), .val (.int p3), .val (.int p4), .val (.int (1 : Int32)), .val (.long ((1 : Int64) <<< ((fl 0) &&& 0x3f).toInt64)), .second] [])) _
        refine XS.goto X6.here hx rfl (pc0 := 61) (pc' := 3) rfl (hb hby d10_61) (by decide) (by decide) ?_
        show Steps p.tables e below (T6.setTop (mkF m 3 #[.val (.ref a1), .val (.ref a2), .val (.int p3), .val (.int p4), .val (.int (1 : Int32)), .val (.long ((1 : Int64) <<< ((fl 0) &&& 0x3f).toInt64)), .second] [])) _
        refine XS.iload X6.here hx rfl (hb hby d10_3) rfl ?_
        show Steps p.tables e below (T6.setTop (mkF m 5 #[.val (.ref a1), .val (.ref a2), .val (.int p3), .val (.int p4), .val (.int (1 : Int32)), .val (.long ((1 : Int64) <<< ((fl 0) &&& 0x3f).toInt64)), .second] [(.int (1 : Int32))])) _
        refine XS.iloadN X6.here hx rfl (hb hby d10_5) rfl ?_
        exact kt
      by_cases hc6_15 : (1 : Int32) < p3
      · skip
        obtain ⟨T16, X16, hE16, st16⟩ := getF X6 hx hZ hown (host := "") (Or.inl (hw _ (List.mem_of_getElem? (i := 19) rfl))) Via.refl hE6 f8 (g := (mkF m 42 #[.val (.ref a1), .val (.ref a2), .val (.int p3), .val (.int p4), .val (.int (1 : Int32)), .val (.long ((1 : Int64) <<< ((fl 1) &&& 0x3f).toInt64)), .second] [(.ref a1)])) rfl rfl (hb hby d10_42)
        obtain ⟨T17, gh17, X17, hE17, W17, V17, st17⟩ := owStJ X16 hx hZ hE16 V6 (k := (own_kx (fl 1))) (j := (((fl 1).toUInt32 >>> ((6 : Int32) &&& 31).toUInt32).toInt32)) (own_kx1 (hfl 1 (by decide))) (own_kx2 (hfl 1 (by decide))) (g := (mkF m 57 #[.val (.ref a1), .val (.ref a2), .val (.int p3), .val (.int p4), .val (.int (1 : Int32)), .val (.long ((1 : Int64) <<< ((fl 1) &&& 0x3f).toInt64)), .second] [(.long (((owUp fz (own_kx (fl 0)) ((fz (own_kx (fl 0))) ||| ((1 : Int64) <<< ((fl 0) &&& 0x3f).toInt64))) (own_kx (fl 1))) ||| ((1 : Int64) <<< ((fl 1) &&& 0x3f).toInt64))), (.int (((fl 1).toUInt32 >>> ((6 : Int32) &&& 31).toUInt32).toInt32)), (.ref aw)])) rfl rfl (hb hby d10_57)
        have f18 := f7.wr W17
        have f19 := f8.other W17 (Or.inl n1w)
        have f21 := f10.other W17 n2w
        have Z22 := Nat.le_trans Z11 (Keep.of_wr W17).1
        have N23 := Fr.snoc X17 N12 g_aw
        have K24 := K13.wr W17 (Or.inl (List.mem_of_getElem? (i := 0) rfl))
        have pre25 : ∀ t, Steps p.tables e below (T17.setTop (mkF m 6 #[.val (.ref a1), .val (.ref a2), .val (.int p3), .val (.int p4), .val (.int (2 : Int32)), .val (.long ((1 : Int64) <<< ((fl 1) &&& 0x3f).toInt64)), .second] [(.int p3), (.int (2 : Int32))])) t → Steps p.tables e below (s₁.setTop (entryFrame m #[(.ref a1), (.ref a2), (.int p3), (.int p4)] 7)) t := by
          intro t kt
          refine pre14 _ ?_
          show Steps p.tables e below (T6.setTop (mkF m 6 #[.val (.ref a1), .val (.ref a2), .val (.int p3), .val (.int p4), .val (.int (1 : Int32)), .val (.long ((1 : Int64) <<< ((fl 0) &&& 0x3f).toInt64)), .second] [(.int p3), (.int (1 : Int32))])) _
          refine XS.icmpNo X6.here hx rfl (hb hby d10_6) rfl (XT.ii_ge_f hc6_15) ?_
          show Steps p.tables e below (T6.setTop (mkF m 9 #[.val (.ref a1), .val (.ref a2), .val (.int p3), .val (.int p4), .val (.int (1 : Int32)), .val (.long ((1 : Int64) <<< ((fl 0) &&& 0x3f).toInt64)), .second] [])) _
          refine XS.lconst X6.here hx rfl (hb hby d10_9) ?_
          show Steps p.tables e below (T6.setTop (mkF m 10 #[.val (.ref a1), .val (.ref a2), .val (.int p3), .val (.int p4), .val (.int (1 : Int32)), .val (.long ((1 : Int64) <<< ((fl 0) &&& 0x3f).toInt64)), .second] [(.long (1 : Int64))])) _
          refine XS.aloadN X6.here hx rfl (hb hby d10_10) rfl rfl ?_
          show Steps p.tables e below (T6.setTop (mkF m 11 #[.val (.ref a1), .val (.ref a2), .val (.int p3), .val (.int p4), .val (.int (1 : Int32)), .val (.long ((1 : Int64) <<< ((fl 0) &&& 0x3f).toInt64)), .second] [(.ref a2), (.long (1 : Int64))])) _
          refine XS.iload X6.here hx rfl (hb hby d10_11) rfl ?_
          show Steps p.tables e below (T6.setTop (mkF m 13 #[.val (.ref a1), .val (.ref a2), .val (.int p3), .val (.int p4), .val (.int (1 : Int32)), .val (.long ((1 : Int64) <<< ((fl 0) &&& 0x3f).toInt64)), .second] [(.int (1 : Int32)), (.ref a2), (.long (1 : Int64))])) _
          refine owLdC (k := 1) X6 hx hZ hE6 f10 (j := (1 : Int32)) rfl (by decide) (g := (mkF m 13 #[.val (.ref a1), .val (.ref a2), .val (.int p3), .val (.int p4), .val (.int (1 : Int32)), .val (.long ((1 : Int64) <<< ((fl 0) &&& 0x3f).toInt64)), .second] [(.int (1 : Int32)), (.ref a2), (.long (1 : Int64))])) rfl rfl (hb hby d10_13) _ ?_
          show Steps p.tables e below (T6.setTop (mkF m 14 #[.val (.ref a1), .val (.ref a2), .val (.int p3), .val (.int p4), .val (.int (1 : Int32)), .val (.long ((1 : Int64) <<< ((fl 0) &&& 0x3f).toInt64)), .second] [(.int (fl 1)), (.long (1 : Int64))])) _
          refine XS.lshl X6.here hx rfl (hb hby d10_14) rfl ?_
          show Steps p.tables e below (T6.setTop (mkF m 15 #[.val (.ref a1), .val (.ref a2), .val (.int p3), .val (.int p4), .val (.int (1 : Int32)), .val (.long ((1 : Int64) <<< ((fl 0) &&& 0x3f).toInt64)), .second] [(.long ((1 : Int64) <<< ((fl 1) &&& 0x3f).toInt64))])) _
          refine XS.lstore X6.here hx rfl (hb hby d10_15) rfl (l' := #[.val (.ref a1), .val (.ref a2), .val (.int p3), .val (.int p4), .val (.int (1 : Int32)), .val (.long ((1 : Int64) <<< ((fl 1) &&& 0x3f).toInt64)), .second]) rfl ?_
          show Steps p.tables e below (T6.setTop (mkF m 17 #[.val (.ref a1), .val (.ref a2), .val (.int p3), .val (.int p4), .val (.int (1 : Int32)), .val (.long ((1 : Int64) <<< ((fl 1) &&& 0x3f).toInt64)), .second] [])) _
          refine XS.iloadN X6.here hx rfl (hb hby d10_17) rfl ?_
          show Steps p.tables e below (T6.setTop (mkF m 18 #[.val (.ref a1), .val (.ref a2), .val (.int p3), .val (.int p4), .val (.int (1 : Int32)), .val (.long ((1 : Int64) <<< ((fl 1) &&& 0x3f).toInt64)), .second] [(.int p4)])) _
          refine XS.ifYes X6.here hx rfl (pc0 := 18) (pc' := 41) rfl (hb hby d10_18) rfl (XT.i0_eq_t hc18_4) (by decide) (by decide) ?_
          show Steps p.tables e below (T6.setTop (mkF m 41 #[.val (.ref a1), .val (.ref a2), .val (.int p3), .val (.int p4), .val (.int (1 : Int32)), .val (.long ((1 : Int64) <<< ((fl 1) &&& 0x3f).toInt64)), .second] [])) _
          refine XS.aloadN X6.here hx rfl (hb hby d10_41) rfl rfl ?_
          show Steps p.tables e below (T6.setTop (mkF m 42 #[.val (.ref a1), .val (.ref a2), .val (.int p3), .val (.int p4), .val (.int (1 : Int32)), .val (.long ((1 : Int64) <<< ((fl 1) &&& 0x3f).toInt64)), .second] [(.ref a1)])) _
          refine st16 _ ?_
          show Steps p.tables e below (T16.setTop (mkF m 45 #[.val (.ref a1), .val (.ref a2), .val (.int p3), .val (.int p4), .val (.int (1 : Int32)), .val (.long ((1 : Int64) <<< ((fl 1) &&& 0x3f).toInt64)), .second] [(.ref aw)])) _
          refine XS.aloadN X16.here hx rfl (hb hby d10_45) rfl rfl ?_
          show Steps p.tables e below (T16.setTop (mkF m 46 #[.val (.ref a1), .val (.ref a2), .val (.int p3), .val (.int p4), .val (.int (1 : Int32)), .val (.long ((1 : Int64) <<< ((fl 1) &&& 0x3f).toInt64)), .second] [(.ref a2), (.ref aw)])) _
          refine XS.iload X16.here hx rfl (hb hby d10_46) rfl ?_
          show Steps p.tables e below (T16.setTop (mkF m 48 #[.val (.ref a1), .val (.ref a2), .val (.int p3), .val (.int p4), .val (.int (1 : Int32)), .val (.long ((1 : Int64) <<< ((fl 1) &&& 0x3f).toInt64)), .second] [(.int (1 : Int32)), (.ref a2), (.ref aw)])) _
          refine owLdC (k := 1) X16 hx hZ hE16 f10 (j := (1 : Int32)) rfl (by decide) (g := (mkF m 48 #[.val (.ref a1), .val (.ref a2), .val (.int p3), .val (.int p4), .val (.int (1 : Int32)), .val (.long ((1 : Int64) <<< ((fl 1) &&& 0x3f).toInt64)), .second] [(.int (1 : Int32)), (.ref a2), (.ref aw)])) rfl rfl (hb hby d10_48) _ ?_
          show Steps p.tables e below (T16.setTop (mkF m 49 #[.val (.ref a1), .val (.ref a2), .val (.int p3), .val (.int p4), .val (.int (1 : Int32)), .val (.long ((1 : Int64) <<< ((fl 1) &&& 0x3f).toInt64)), .second] [(.int (fl 1)), (.ref aw)])) _
          refine XS.bipush X16.here hx rfl (hb hby d10_49) ?_
          show Steps p.tables e below (T16.setTop (mkF m 51 #[.val (.ref a1), .val (.ref a2), .val (.int p3), .val (.int p4), .val (.int (1 : Int32)), .val (.long ((1 : Int64) <<< ((fl 1) &&& 0x3f).toInt64)), .second] [(.int (6 : Int32)), (.int (fl 1)), (.ref aw)])) _
          refine XS.iushr X16.here hx rfl (hb hby d10_51) rfl ?_
          show Steps p.tables e below (T16.setTop (mkF m 52 #[.val (.ref a1), .val (.ref a2), .val (.int p3), .val (.int p4), .val (.int (1 : Int32)), .val (.long ((1 : Int64) <<< ((fl 1) &&& 0x3f).toInt64)), .second] [(.int (((fl 1).toUInt32 >>> ((6 : Int32) &&& 31).toUInt32).toInt32)), (.ref aw)])) _
          refine XT.dup2 X16.here hx rfl (hb hby d10_52) rfl rfl rfl ?_
          show Steps p.tables e below (T16.setTop (mkF m 53 #[.val (.ref a1), .val (.ref a2), .val (.int p3), .val (.int p4), .val (.int (1 : Int32)), .val (.long ((1 : Int64) <<< ((fl 1) &&& 0x3f).toInt64)), .second] [(.int (((fl 1).toUInt32 >>> ((6 : Int32) &&& 31).toUInt32).toInt32)), (.ref aw), (.int (((fl 1).toUInt32 >>> ((6 : Int32) &&& 31).toUInt32).toInt32)), (.ref aw)])) _
          refine owLdJ (k := (own_kx (fl 1))) X16 hx hZ hE16 V6 (j := (((fl 1).toUInt32 >>> ((6 : Int32) &&& 31).toUInt32).toInt32)) (own_kx1 (hfl 1 (by decide))) (own_kx2 (hfl 1 (by decide))) (g := (mkF m 53 #[.val (.ref a1), .val (.ref a2), .val (.int p3), .val (.int p4), .val (.int (1 : Int32)), .val (.long ((1 : Int64) <<< ((fl 1) &&& 0x3f).toInt64)), .second] [(.int (((fl 1).toUInt32 >>> ((6 : Int32) &&& 31).toUInt32).toInt32)), (.ref aw), (.int (((fl 1).toUInt32 >>> ((6 : Int32) &&& 31).toUInt32).toInt32)), (.ref aw)])) rfl rfl (hb hby d10_53) _ ?_
          show Steps p.tables e below (T16.setTop (mkF m 54 #[.val (.ref a1), .val (.ref a2), .val (.int p3), .val (.int p4), .val (.int (1 : Int32)), .val (.long ((1 : Int64) <<< ((fl 1) &&& 0x3f).toInt64)), .second] [(.long ((owUp fz (own_kx (fl 0)) ((fz (own_kx (fl 0))) ||| ((1 : Int64) <<< ((fl 0) &&& 0x3f).toInt64))) (own_kx (fl 1)))), (.int (((fl 1).toUInt32 >>> ((6 : Int32) &&& 31).toUInt32).toInt32)), (.ref aw)])) _
          refine XS.lload X16.here hx rfl (hb hby d10_54) rfl ?_
          show Steps p.tables e below (T16.setTop (mkF m 56 #[.val (.ref a1), .val (.ref a2), .val (.int p3), .val (.int p4), .val (.int (1 : Int32)), .val (.long ((1 : Int64) <<< ((fl 1) &&& 0x3f).toInt64)), .second] [(.long ((1 : Int64) <<< ((fl 1) &&& 0x3f).toInt64)), (.long ((owUp fz (own_kx (fl 0)) ((fz (own_kx (fl 0))) ||| ((1 : Int64) <<< ((fl 0) &&& 0x3f).toInt64))) (own_kx (fl 1)))), (.int (((fl 1).toUInt32 >>> ((6 : Int32) &&& 31).toUInt32).toInt32)), (.ref aw)])) _
          refine XS.lor X16.here hx rfl (hb hby d10_56) rfl ?_
          show Steps p.tables e below (T16.setTop (mkF m 57 #[.val (.ref a1), .val (.ref a2), .val (.int p3), .val (.int p4), .val (.int (1 : Int32)), .val (.long ((1 : Int64) <<< ((fl 1) &&& 0x3f).toInt64)), .second] [(.long (((owUp fz (own_kx (fl 0)) ((fz (own_kx (fl 0))) ||| ((1 : Int64) <<< ((fl 0) &&& 0x3f).toInt64))) (own_kx (fl 1))) ||| ((1 : Int64) <<< ((fl 1) &&& 0x3f).toInt64))), (.int (((fl 1).toUInt32 >>> ((6 : Int32) &&& 31).toUInt32).toInt32)), (.ref aw)])) _
          refine st17 _ ?_
          show Steps p.tables e below (T17.setTop (mkF m 58 #[.val (.ref a1), .val (.ref a2), .val (.int p3), .val (.int p4), .val (.int (1 : Int32)), .val (.long ((1 : Int64) <<< ((fl 1) &&& 0x3f).toInt64)), .second] [])) _
          refine XS.iinc X17.here hx rfl (hb hby d10_58) rfl (l' := #[.val (.ref a1), .val (.ref a2), .val (.int p3), .val (.int p4), .val (.int (2 : Int32)), .val (.long ((1 : Int64) <<< ((fl 1) &&& 0x3f).toInt64)), .second]) rfl ?_
          show Steps p.tables e below (T17.setTop (mkF m 61 #[.val (.ref a1), .val (.ref a2), .val (.int p3), .val (.int p4), .val (.int (2 : Int32)), .val (.long ((1 : Int64) <<< ((fl 1) &&& 0x3f).toInt64)), .second] [])) _
          refine XS.goto X17.here hx rfl (pc0 := 61) (pc' := 3) rfl (hb hby d10_61) (by decide) (by decide) ?_
          show Steps p.tables e below (T17.setTop (mkF m 3 #[.val (.ref a1), .val (.ref a2), .val (.int p3), .val (.int p4), .val (.int (2 : Int32)), .val (.long ((1 : Int64) <<< ((fl 1) &&& 0x3f).toInt64)), .second] [])) _
          refine XS.iload X17.here hx rfl (hb hby d10_3) rfl ?_
          show Steps p.tables e below (T17.setTop (mkF m 5 #[.val (.ref a1), .val (.ref a2), .val (.int p3), .val (.int p4), .val (.int (2 : Int32)), .val (.long ((1 : Int64) <<< ((fl 1) &&& 0x3f).toInt64)), .second] [(.int (2 : Int32))])) _
          refine XS.iloadN X17.here hx rfl (hb hby d10_5) rfl ?_
          exact kt
        by_cases hc6_26 : (2 : Int32) < p3
        · skip
          obtain ⟨T27, X27, hE27, st27⟩ := getF X17 hx hZ hown (host := "") (Or.inl (hw _ (List.mem_of_getElem? (i := 19) rfl))) Via.refl hE17 f19 (g := (mkF m 42 #[.val (.ref a1), .val (.ref a2), .val (.int p3), .val (.int p4), .val (.int (2 : Int32)), .val (.long ((1 : Int64) <<< ((fl 2) &&& 0x3f).toInt64)), .second] [(.ref a1)])) rfl rfl (hb hby d10_42)
          obtain ⟨T28, gh28, X28, hE28, W28, V28, st28⟩ := owStJ X27 hx hZ hE27 V17 (k := (own_kx (fl 2))) (j := (((fl 2).toUInt32 >>> ((6 : Int32) &&& 31).toUInt32).toInt32)) (own_kx1 (hfl 2 (by decide))) (own_kx2 (hfl 2 (by decide))) (g := (mkF m 57 #[.val (.ref a1), .val (.ref a2), .val (.int p3), .val (.int p4), .val (.int (2 : Int32)), .val (.long ((1 : Int64) <<< ((fl 2) &&& 0x3f).toInt64)), .second] [(.long (((owUp (owUp fz (own_kx (fl 0)) ((fz (own_kx (fl 0))) ||| ((1 : Int64) <<< ((fl 0) &&& 0x3f).toInt64))) (own_kx (fl 1)) (((owUp fz (own_kx (fl 0)) ((fz (own_kx (fl 0))) ||| ((1 : Int64) <<< ((fl 0) &&& 0x3f).toInt64))) (own_kx (fl 1))) ||| ((1 : Int64) <<< ((fl 1) &&& 0x3f).toInt64))) (own_kx (fl 2))) ||| ((1 : Int64) <<< ((fl 2) &&& 0x3f).toInt64))), (.int (((fl 2).toUInt32 >>> ((6 : Int32) &&& 31).toUInt32).toInt32)), (.ref aw)])) rfl rfl (hb hby d10_57)
          have f29 := f18.wr W28
          have f30 := f19.other W28 (Or.inl n1w)
          have f32 := f21.other W28 n2w
          have Z33 := Nat.le_trans Z22 (Keep.of_wr W28).1
          have N34 := Fr.snoc X28 N23 g_aw
          have K35 := K24.wr W28 (Or.inl (List.mem_of_getElem? (i := 0) rfl))
          have pre36 : ∀ t, Steps p.tables e below (T28.setTop (mkF m 64 #[.val (.ref a1), .val (.ref a2), .val (.int p3), .val (.int p4), .val (.int (3 : Int32)), .val (.long ((1 : Int64) <<< ((fl 2) &&& 0x3f).toInt64)), .second] [])) t → Steps p.tables e below (s₁.setTop (entryFrame m #[(.ref a1), (.ref a2), (.int p3), (.int p4)] 7)) t := by
            intro t kt
            refine pre25 _ ?_
            show Steps p.tables e below (T17.setTop (mkF m 6 #[.val (.ref a1), .val (.ref a2), .val (.int p3), .val (.int p4), .val (.int (2 : Int32)), .val (.long ((1 : Int64) <<< ((fl 1) &&& 0x3f).toInt64)), .second] [(.int p3), (.int (2 : Int32))])) _
            refine XS.icmpNo X17.here hx rfl (hb hby d10_6) rfl (XT.ii_ge_f hc6_26) ?_
            show Steps p.tables e below (T17.setTop (mkF m 9 #[.val (.ref a1), .val (.ref a2), .val (.int p3), .val (.int p4), .val (.int (2 : Int32)), .val (.long ((1 : Int64) <<< ((fl 1) &&& 0x3f).toInt64)), .second] [])) _
            refine XS.lconst X17.here hx rfl (hb hby d10_9) ?_
            show Steps p.tables e below (T17.setTop (mkF m 10 #[.val (.ref a1), .val (.ref a2), .val (.int p3), .val (.int p4), .val (.int (2 : Int32)), .val (.long ((1 : Int64) <<< ((fl 1) &&& 0x3f).toInt64)), .second] [(.long (1 : Int64))])) _
            refine XS.aloadN X17.here hx rfl (hb hby d10_10) rfl rfl ?_
            show Steps p.tables e below (T17.setTop (mkF m 11 #[.val (.ref a1), .val (.ref a2), .val (.int p3), .val (.int p4), .val (.int (2 : Int32)), .val (.long ((1 : Int64) <<< ((fl 1) &&& 0x3f).toInt64)), .second] [(.ref a2), (.long (1 : Int64))])) _
            refine XS.iload X17.here hx rfl (hb hby d10_11) rfl ?_
            show Steps p.tables e below (T17.setTop (mkF m 13 #[.val (.ref a1), .val (.ref a2), .val (.int p3), .val (.int p4), .val (.int (2 : Int32)), .val (.long ((1 : Int64) <<< ((fl 1) &&& 0x3f).toInt64)), .second] [(.int (2 : Int32)), (.ref a2), (.long (1 : Int64))])) _
            refine owLdC (k := 2) X17 hx hZ hE17 f21 (j := (2 : Int32)) rfl (by decide) (g := (mkF m 13 #[.val (.ref a1), .val (.ref a2), .val (.int p3), .val (.int p4), .val (.int (2 : Int32)), .val (.long ((1 : Int64) <<< ((fl 1) &&& 0x3f).toInt64)), .second] [(.int (2 : Int32)), (.ref a2), (.long (1 : Int64))])) rfl rfl (hb hby d10_13) _ ?_
            show Steps p.tables e below (T17.setTop (mkF m 14 #[.val (.ref a1), .val (.ref a2), .val (.int p3), .val (.int p4), .val (.int (2 : Int32)), .val (.long ((1 : Int64) <<< ((fl 1) &&& 0x3f).toInt64)), .second] [(.int (fl 2)), (.long (1 : Int64))])) _
            refine XS.lshl X17.here hx rfl (hb hby d10_14) rfl ?_
            show Steps p.tables e below (T17.setTop (mkF m 15 #[.val (.ref a1), .val (.ref a2), .val (.int p3), .val (.int p4), .val (.int (2 : Int32)), .val (.long ((1 : Int64) <<< ((fl 1) &&& 0x3f).toInt64)), .second] [(.long ((1 : Int64) <<< ((fl 2) &&& 0x3f).toInt64))])) _
            refine XS.lstore X17.here hx rfl (hb hby d10_15) rfl (l' := #[.val (.ref a1), .val (.ref a2), .val (.int p3), .val (.int p4), .val (.int (2 : Int32)), .val (.long ((1 : Int64) <<< ((fl 2) &&& 0x3f).toInt64)), .second]) rfl ?_
            show Steps p.tables e below (T17.setTop (mkF m 17 #[.val (.ref a1), .val (.ref a2), .val (.int p3), .val (.int p4), .val (.int (2 : Int32)), .val (.long ((1 : Int64) <<< ((fl 2) &&& 0x3f).toInt64)), .second] [])) _
            refine XS.iloadN X17.here hx rfl (hb hby d10_17) rfl ?_
            show Steps p.tables e below (T17.setTop (mkF m 18 #[.val (.ref a1), .val (.ref a2), .val (.int p3), .val (.int p4), .val (.int (2 : Int32)), .val (.long ((1 : Int64) <<< ((fl 2) &&& 0x3f).toInt64)), .second] [(.int p4)])) _
            refine XS.ifYes X17.here hx rfl (pc0 := 18) (pc' := 41) rfl (hb hby d10_18) rfl (XT.i0_eq_t hc18_4) (by decide) (by decide) ?_
            show Steps p.tables e below (T17.setTop (mkF m 41 #[.val (.ref a1), .val (.ref a2), .val (.int p3), .val (.int p4), .val (.int (2 : Int32)), .val (.long ((1 : Int64) <<< ((fl 2) &&& 0x3f).toInt64)), .second] [])) _
            refine XS.aloadN X17.here hx rfl (hb hby d10_41) rfl rfl ?_
            show Steps p.tables e below (T17.setTop (mkF m 42 #[.val (.ref a1), .val (.ref a2), .val (.int p3), .val (.int p4), .val (.int (2 : Int32)), .val (.long ((1 : Int64) <<< ((fl 2) &&& 0x3f).toInt64)), .second] [(.ref a1)])) _
            refine st27 _ ?_
            show Steps p.tables e below (T27.setTop (mkF m 45 #[.val (.ref a1), .val (.ref a2), .val (.int p3), .val (.int p4), .val (.int (2 : Int32)), .val (.long ((1 : Int64) <<< ((fl 2) &&& 0x3f).toInt64)), .second] [(.ref aw)])) _
            refine XS.aloadN X27.here hx rfl (hb hby d10_45) rfl rfl ?_
            show Steps p.tables e below (T27.setTop (mkF m 46 #[.val (.ref a1), .val (.ref a2), .val (.int p3), .val (.int p4), .val (.int (2 : Int32)), .val (.long ((1 : Int64) <<< ((fl 2) &&& 0x3f).toInt64)), .second] [(.ref a2), (.ref aw)])) _
            refine XS.iload X27.here hx rfl (hb hby d10_46) rfl ?_
            show Steps p.tables e below (T27.setTop (mkF m 48 #[.val (.ref a1), .val (.ref a2), .val (.int p3), .val (.int p4), .val (.int (2 : Int32)), .val (.long ((1 : Int64) <<< ((fl 2) &&& 0x3f).toInt64)), .second] [(.int (2 : Int32)), (.ref a2), (.ref aw)])) _
            refine owLdC (k := 2) X27 hx hZ hE27 f21 (j := (2 : Int32)) rfl (by decide) (g := (mkF m 48 #[.val (.ref a1), .val (.ref a2), .val (.int p3), .val (.int p4), .val (.int (2 : Int32)), .val (.long ((1 : Int64) <<< ((fl 2) &&& 0x3f).toInt64)), .second] [(.int (2 : Int32)), (.ref a2), (.ref aw)])) rfl rfl (hb hby d10_48) _ ?_
            show Steps p.tables e below (T27.setTop (mkF m 49 #[.val (.ref a1), .val (.ref a2), .val (.int p3), .val (.int p4), .val (.int (2 : Int32)), .val (.long ((1 : Int64) <<< ((fl 2) &&& 0x3f).toInt64)), .second] [(.int (fl 2)), (.ref aw)])) _
            refine XS.bipush X27.here hx rfl (hb hby d10_49) ?_
            show Steps p.tables e below (T27.setTop (mkF m 51 #[.val (.ref a1), .val (.ref a2), .val (.int p3), .val (.int p4), .val (.int (2 : Int32)), .val (.long ((1 : Int64) <<< ((fl 2) &&& 0x3f).toInt64)), .second] [(.int (6 : Int32)), (.int (fl 2)), (.ref aw)])) _
            refine XS.iushr X27.here hx rfl (hb hby d10_51) rfl ?_
            show Steps p.tables e below (T27.setTop (mkF m 52 #[.val (.ref a1), .val (.ref a2), .val (.int p3), .val (.int p4), .val (.int (2 : Int32)), .val (.long ((1 : Int64) <<< ((fl 2) &&& 0x3f).toInt64)), .second] [(.int (((fl 2).toUInt32 >>> ((6 : Int32) &&& 31).toUInt32).toInt32)), (.ref aw)])) _
            refine XT.dup2 X27.here hx rfl (hb hby d10_52) rfl rfl rfl ?_
            show Steps p.tables e below (T27.setTop (mkF m 53 #[.val (.ref a1), .val (.ref a2), .val (.int p3), .val (.int p4), .val (.int (2 : Int32)), .val (.long ((1 : Int64) <<< ((fl 2) &&& 0x3f).toInt64)), .second] [(.int (((fl 2).toUInt32 >>> ((6 : Int32) &&& 31).toUInt32).toInt32)), (.ref aw), (.int (((fl 2).toUInt32 >>> ((6 : Int32) &&& 31).toUInt32).toInt32)), (.ref aw)])) _
            refine owLdJ (k := (own_kx (fl 2))) X27 hx hZ hE27 V17 (j := (((fl 2).toUInt32 >>> ((6 : Int32) &&& 31).toUInt32).toInt32)) (own_kx1 (hfl 2 (by decide))) (own_kx2 (hfl 2 (by decide))) (g := (mkF m 53 #[.val (.ref a1), .val (.ref a2), .val (.int p3), .val (.int p4), .val (.int (2 : Int32)), .val (.long ((1 : Int64) <<< ((fl 2) &&& 0x3f).toInt64)), .second] [(.int (((fl 2).toUInt32 >>> ((6 : Int32) &&& 31).toUInt32).toInt32)), (.ref aw), (.int (((fl 2).toUInt32 >>> ((6 : Int32) &&& 31).toUInt32).toInt32)), (.ref aw)])) rfl rfl (hb hby d10_53) _ ?_
            show Steps p.tables e below (T27.setTop (mkF m 54 #[.val (.ref a1), .val (.ref a2), .val (.int p3), .val (.int p4), .val (.int (2 : Int32)), .val (.long ((1 : Int64) <<< ((fl 2) &&& 0x3f).toInt64)), .second] [(.long ((owUp (owUp fz (own_kx (fl 0)) ((fz (own_kx (fl 0))) ||| ((1 : Int64) <<< ((fl 0) &&& 0x3f).toInt64))) (own_kx (fl 1)) (((owUp fz (own_kx (fl 0)) ((fz (own_kx (fl 0))) ||| ((1 : Int64) <<< ((fl 0) &&& 0x3f).toInt64))) (own_kx (fl 1))) ||| ((1 : Int64) <<< ((fl 1) &&& 0x3f).toInt64))) (own_kx (fl 2)))), (.int (((fl 2).toUInt32 >>> ((6 : Int32) &&& 31).toUInt32).toInt32)), (.ref aw)])) _
            refine XS.lload X27.here hx rfl (hb hby d10_54) rfl ?_
            show Steps p.tables e below (T27.setTop (mkF m 56 #[.val (.ref a1), .val (.ref a2), .val (.int p3), .val (.int p4), .val (.int (2 : Int32)), .val (.long ((1 : Int64) <<< ((fl 2) &&& 0x3f).toInt64)), .second] [(.long ((1 : Int64) <<< ((fl 2) &&& 0x3f).toInt64)), (.long ((owUp (owUp fz (own_kx (fl 0)) ((fz (own_kx (fl 0))) ||| ((1 : Int64) <<< ((fl 0) &&& 0x3f).toInt64))) (own_kx (fl 1)) (((owUp fz (own_kx (fl 0)) ((fz (own_kx (fl 0))) ||| ((1 : Int64) <<< ((fl 0) &&& 0x3f).toInt64))) (own_kx (fl 1))) ||| ((1 : Int64) <<< ((fl 1) &&& 0x3f).toInt64))) (own_kx (fl 2)))), (.int (((fl 2).toUInt32 >>> ((6 : Int32) &&& 31).toUInt32).toInt32)), (.ref aw)])) _
            refine XS.lor X27.here hx rfl (hb hby d10_56) rfl ?_
            show Steps p.tables e below (T27.setTop (mkF m 57 #[.val (.ref a1), .val (.ref a2), .val (.int p3), .val (.int p4), .val (.int (2 : Int32)), .val (.long ((1 : Int64) <<< ((fl 2) &&& 0x3f).toInt64)), .second] [(.long (((owUp (owUp fz (own_kx (fl 0)) ((fz (own_kx (fl 0))) ||| ((1 : Int64) <<< ((fl 0) &&& 0x3f).toInt64))) (own_kx (fl 1)) (((owUp fz (own_kx (fl 0)) ((fz (own_kx (fl 0))) ||| ((1 : Int64) <<< ((fl 0) &&& 0x3f).toInt64))) (own_kx (fl 1))) ||| ((1 : Int64) <<< ((fl 1) &&& 0x3f).toInt64))) (own_kx (fl 2))) ||| ((1 : Int64) <<< ((fl 2) &&& 0x3f).toInt64))), (.int (((fl 2).toUInt32 >>> ((6 : Int32) &&& 31).toUInt32).toInt32)), (.ref aw)])) _
            refine st28 _ ?_
            show Steps p.tables e below (T28.setTop (mkF m 58 #[.val (.ref a1), .val (.ref a2), .val (.int p3), .val (.int p4), .val (.int (2 : Int32)), .val (.long ((1 : Int64) <<< ((fl 2) &&& 0x3f).toInt64)), .second] [])) _
            refine XS.iinc X28.here hx rfl (hb hby d10_58) rfl (l' := #[.val (.ref a1), .val (.ref a2), .val (.int p3), .val (.int p4), .val (.int (3 : Int32)), .val (.long ((1 : Int64) <<< ((fl 2) &&& 0x3f).toInt64)), .second]) rfl ?_
            show Steps p.tables e below (T28.setTop (mkF m 61 #[.val (.ref a1), .val (.ref a2), .val (.int p3), .val (.int p4), .val (.int (3 : Int32)), .val (.long ((1 : Int64) <<< ((fl 2) &&& 0x3f).toInt64)), .second] [])) _
            refine XS.goto X28.here hx rfl (pc0 := 61) (pc' := 3) rfl (hb hby d10_61) (by decide) (by decide) ?_
            show Steps p.tables e below (T28.setTop (mkF m 3 #[.val (.ref a1), .val (.ref a2), .val (.int p3), .val (.int p4), .val (.int (3 : Int32)), .val (.long ((1 : Int64) <<< ((fl 2) &&& 0x3f).toInt64)), .second] [])) _
            refine XS.iload X28.here hx rfl (hb hby d10_3) rfl ?_
            show Steps p.tables e below (T28.setTop (mkF m 5 #[.val (.ref a1), .val (.ref a2), .val (.int p3), .val (.int p4), .val (.int (3 : Int32)), .val (.long ((1 : Int64) <<< ((fl 2) &&& 0x3f).toInt64)), .second] [(.int (3 : Int32))])) _
            refine XS.iloadN X28.here hx rfl (hb hby d10_5) rfl ?_
            show Steps p.tables e below (T28.setTop (mkF m 6 #[.val (.ref a1), .val (.ref a2), .val (.int p3), .val (.int p4), .val (.int (3 : Int32)), .val (.long ((1 : Int64) <<< ((fl 2) &&& 0x3f).toInt64)), .second] [(.int p3), (.int (3 : Int32))])) _
            refine XS.icmpYes X28.here hx rfl (pc0 := 6) (pc' := 64) rfl (hb hby d10_6) rfl (XT.ii_ge_t hp3) (by decide) (by decide) ?_
            exact kt
          obtain ⟨fs, hr, hrun, hended, hW, hsame⟩ := X28.leave (v := none) (fun _ => rfl)
          refine ⟨_, _, pre36 _ ?_, hrun, hended, _, _, rfl, ?_, ⟨_, rfl⟩, hW, hsame.mono (by decide) (by decide)⟩
          · show Steps p.tables e below (T28.setTop (mkF m 64 #[.val (.ref a1), .val (.ref a2), .val (.int p3), .val (.int p4), .val (.int (3 : Int32)), .val (.long ((1 : Int64) <<< ((fl 2) &&& 0x3f).toInt64)), .second] [])) _
            exact X28.returnOut hx Bd.returns (hb hby d10_64) hr
          · show Q10 Z a1 a2 p3 p4 aw fl fz h0 n0 _ T28.heap _
            rw [hE28]
            exact ⟨rfl, N34, K35, f29, f30, (by unfold tkf; rw [if_pos hc6_2, if_pos hc18_4, if_pos hc6_15, if_pos hc6_26]; exact V28)⟩
        · skip
          have pre37 : ∀ t, Steps p.tables e below (T17.setTop (mkF m 64 #[.val (.ref a1), .val (.ref a2), .val (.int p3), .val (.int p4), .val (.int (2 : Int32)), .val (.long ((1 : Int64) <<< ((fl 1) &&& 0x3f).toInt64)), .second] [])) t → Steps p.tables e below (s₁.setTop (entryFrame m #[(.ref a1), (.ref a2), (.int p3), (.int p4)] 7)) t := by
            intro t kt
            refine pre25 _ ?_
            show Steps p.tables e below (T17.setTop (mkF m 6 #[.val (.ref a1), .val (.ref a2), .val (.int p3), .val (.int p4), .val (.int (2 : Int32)), .val (.long ((1 : Int64) <<< ((fl 1) &&& 0x3f).toInt64)), .second] [(.int p3), (.int (2 : Int32))])) _
            refine XS.icmpYes X17.here hx rfl (pc0 := 6) (pc' := 64) rfl (hb hby d10_6) rfl (XT.ii_ge_t hc6_26) (by decide) (by decide) ?_
            exact kt
          obtain ⟨fs, hr, hrun, hended, hW, hsame⟩ := X17.leave (v := none) (fun _ => rfl)
          refine ⟨_, _, pre37 _ ?_, hrun, hended, _, _, rfl, ?_, ⟨_, rfl⟩, hW, hsame.mono (by decide) (by decide)⟩
          · show Steps p.tables e below (T17.setTop (mkF m 64 #[.val (.ref a1), .val (.ref a2), .val (.int p3), .val (.int p4), .val (.int (2 : Int32)), .val (.long ((1 : Int64) <<< ((fl 1) &&& 0x3f).toInt64)), .second] [])) _
            exact X17.returnOut hx Bd.returns (hb hby d10_64) hr
          · show Q10 Z a1 a2 p3 p4 aw fl fz h0 n0 _ T17.heap _
            rw [hE17]
            exact ⟨rfl, N23, K24, f18, f19, (by unfold tkf; rw [if_pos hc6_2, if_pos hc18_4, if_pos hc6_15, if_neg hc6_26]; exact V17)⟩
      · skip
        have pre38 : ∀ t, Steps p.tables e below (T6.setTop (mkF m 64 #[.val (.ref a1), .val (.ref a2), .val (.int p3), .val (.int p4), .val (.int (1 : Int32)), .val (.long ((1 : Int64) <<< ((fl 0) &&& 0x3f).toInt64)), .second] [])) t → Steps p.tables e below (s₁.setTop (entryFrame m #[(.ref a1), (.ref a2), (.int p3), (.int p4)] 7)) t := by
          intro t kt
          refine pre14 _ ?_
          show Steps p.tables e below (T6.setTop (mkF m 6 #[.val (.ref a1), .val (.ref a2), .val (.int p3), .val (.int p4), .val (.int (1 : Int32)), .val (.long ((1 : Int64) <<< ((fl 0) &&& 0x3f).toInt64)), .second] [(.int p3), (.int (1 : Int32))])) _
          refine XS.icmpYes X6.here hx rfl (pc0 := 6) (pc' := 64) rfl (hb hby d10_6) rfl (XT.ii_ge_t hc6_15) (by decide) (by decide) ?_
          exact kt
        obtain ⟨fs, hr, hrun, hended, hW, hsame⟩ := X6.leave (v := none) (fun _ => rfl)
        refine ⟨_, _, pre38 _ ?_, hrun, hended, _, _, rfl, ?_, ⟨_, rfl⟩, hW, hsame.mono (by decide) (by decide)⟩
        · show Steps p.tables e below (T6.setTop (mkF m 64 #[.val (.ref a1), .val (.ref a2), .val (.int p3), .val (.int p4), .val (.int (1 : Int32)), .val (.long ((1 : Int64) <<< ((fl 0) &&& 0x3f).toInt64)), .second] [])) _
          exact X6.returnOut hx Bd.returns (hb hby d10_64) hr
        · show Q10 Z a1 a2 p3 p4 aw fl fz h0 n0 _ T6.heap _
          rw [hE6]
          exact ⟨rfl, N12, K13, f7, f8, (by unfold tkf; rw [if_pos hc6_2, if_pos hc18_4, if_neg hc6_15]; exact V6)⟩
    · skip
      obtain ⟨T39, X39, hE39, st39⟩ := getF X0 hx hZ hown (host := "") (Or.inl (hw _ (List.mem_of_getElem? (i := 19) rfl))) Via.refl e0 F_words (g := (mkF m 22 #[.val (.ref a1), .val (.ref a2), .val (.int p3), .val (.int p4), .val (.int (0 : Int32)), .val (.long ((1 : Int64) <<< ((fl 0) &&& 0x3f).toInt64)), .second] [(.ref a1)])) rfl rfl (hb hby d10_22)
      obtain ⟨T40, gh40, X40, hE40, W40, V40, st40⟩ := owStJ X39 hx hZ hE39 A_aw (k := (own_kx (fl 0))) (j := (((fl 0).toUInt32 >>> ((6 : Int32) &&& 31).toUInt32).toInt32)) (own_kx1 (hfl 0 (by decide))) (own_kx2 (hfl 0 (by decide))) (g := (mkF m 37 #[.val (.ref a1), .val (.ref a2), .val (.int p3), .val (.int p4), .val (.int (0 : Int32)), .val (.long ((1 : Int64) <<< ((fl 0) &&& 0x3f).toInt64)), .second] [(.long ((fz (own_kx (fl 0))) ^^^ ((1 : Int64) <<< ((fl 0) &&& 0x3f).toInt64))), (.int (((fl 0).toUInt32 >>> ((6 : Int32) &&& 31).toUInt32).toInt32)), (.ref aw)])) rfl rfl (hb hby d10_37)
      have f41 := E_a1.wr W40
      have f42 := F_words.other W40 (Or.inl n1w)
      have f44 := A_a2.other W40 n2w
      have Z45 := Nat.le_trans Z0 (Keep.of_wr W40).1
      have N46 := Fr.snoc X40 N0 g_aw
      have K47 := (Keep.refl h0 [aw]).wr W40 (Or.inl (List.mem_of_getElem? (i := 0) rfl))
      have pre48 : ∀ t, Steps p.tables e below (T40.setTop (mkF m 6 #[.val (.ref a1), .val (.ref a2), .val (.int p3), .val (.int p4), .val (.int (1 : Int32)), .val (.long ((1 : Int64) <<< ((fl 0) &&& 0x3f).toInt64)), .second] [(.int p3), (.int (1 : Int32))])) t → Steps p.tables e below (s₁.setTop (entryFrame m #[(.ref a1), (.ref a2), (.int p3), (.int p4)] 7)) t := by
        intro t kt
        refine pre3 _ ?_
        show Steps p.tables e below (s₁.setTop (mkF m 18 #[.val (.ref a1), .val (.ref a2), .val (.int p3), .val (.int p4), .val (.int (0 : Int32)), .val (.long ((1 : Int64) <<< ((fl 0) &&& 0x3f).toInt64)), .second] [(.int p4)])) _
        refine XS.ifNo X0.here hx rfl (hb hby d10_18) rfl (XT.i0_eq_f hc18_4) ?_
        show Steps p.tables e below (s₁.setTop (mkF m 21 #[.val (.ref a1), .val (.ref a2), .val (.int p3), .val (.int p4), .val (.int (0 : Int32)), .val (.long ((1 : Int64) <<< ((fl 0) &&& 0x3f).toInt64)), .second] [])) _
        refine XS.aloadN X0.here hx rfl (hb hby d10_21) rfl rfl ?_
        show Steps p.tables e below (s₁.setTop (mkF m 22 #[.val (.ref a1), .val (.ref a2), .val (.int p3), .val (.int p4), .val (.int (0 : Int32)), .val (.long ((1 : Int64) <<< ((fl 0) &&& 0x3f).toInt64)), .second] [(.ref a1)])) _
        refine st39 _ ?_
        show Steps p.tables e below (T39.setTop (mkF m 25 #[.val (.ref a1), .val (.ref a2), .val (.int p3), .val (.int p4), .val (.int (0 : Int32)), .val (.long ((1 : Int64) <<< ((fl 0) &&& 0x3f).toInt64)), .second] [(.ref aw)])) _
        refine XS.aloadN X39.here hx rfl (hb hby d10_25) rfl rfl ?_
        show Steps p.tables e below (T39.setTop (mkF m 26 #[.val (.ref a1), .val (.ref a2), .val (.int p3), .val (.int p4), .val (.int (0 : Int32)), .val (.long ((1 : Int64) <<< ((fl 0) &&& 0x3f).toInt64)), .second] [(.ref a2), (.ref aw)])) _
        refine XS.iload X39.here hx rfl (hb hby d10_26) rfl ?_
        show Steps p.tables e below (T39.setTop (mkF m 28 #[.val (.ref a1), .val (.ref a2), .val (.int p3), .val (.int p4), .val (.int (0 : Int32)), .val (.long ((1 : Int64) <<< ((fl 0) &&& 0x3f).toInt64)), .second] [(.int (0 : Int32)), (.ref a2), (.ref aw)])) _
        refine owLdC (k := 0) X39 hx hZ hE39 A_a2 (j := (0 : Int32)) rfl (by decide) (g := (mkF m 28 #[.val (.ref a1), .val (.ref a2), .val (.int p3), .val (.int p4), .val (.int (0 : Int32)), .val (.long ((1 : Int64) <<< ((fl 0) &&& 0x3f).toInt64)), .second] [(.int (0 : Int32)), (.ref a2), (.ref aw)])) rfl rfl (hb hby d10_28) _ ?_
        show Steps p.tables e below (T39.setTop (mkF m 29 #[.val (.ref a1), .val (.ref a2), .val (.int p3), .val (.int p4), .val (.int (0 : Int32)), .val (.long ((1 : Int64) <<< ((fl 0) &&& 0x3f).toInt64)), .second] [(.int (fl 0)), (.ref aw)])) _
        refine XS.bipush X39.here hx rfl (hb hby d10_29) ?_
        show Steps p.tables e below (T39.setTop (mkF m 31 #[.val (.ref a1), .val (.ref a2), .val (.int p3), .val (.int p4), .val (.int (0 : Int32)), .val (.long ((1 : Int64) <<< ((fl 0) &&& 0x3f).toInt64)), .second] [(.int (6 : Int32)), (.int (fl 0)), (.ref aw)])) _
        refine XS.iushr X39.here hx rfl (hb hby d10_31) rfl ?_
        show Steps p.tables e below (T39.setTop (mkF m 32 #[.val (.ref a1), .val (.ref a2), .val (.int p3), .val (.int p4), .val (.int (0 : Int32)), .val (.long ((1 : Int64) <<< ((fl 0) &&& 0x3f).toInt64)), .second] [(.int (((fl 0).toUInt32 >>> ((6 : Int32) &&& 31).toUInt32).toInt32)), (.ref aw)])) _
        refine XT.dup2 X39.here hx rfl (hb hby d10_32) rfl rfl rfl ?_
        show Steps p.tables e below (T39.setTop (mkF m 33 #[.val (.ref a1), .val (.ref a2), .val (.int p3), .val (.int p4), .val (.int (0 : Int32)), .val (.long ((1 : Int64) <<< ((fl 0) &&& 0x3f).toInt64)), .second] [(.int (((fl 0).toUInt32 >>> ((6 : Int32) &&& 31).toUInt32).toInt32)), (.ref aw), (.int (((fl 0).toUInt32 >>> ((6 : Int32) &&& 31).toUInt32).toInt32)), (.ref aw)])) _
        refine owLdJ (k := (own_kx (fl 0))) X39 hx hZ hE39 A_aw (j := (((fl 0).toUInt32 >>> ((6 : Int32) &&& 31).toUInt32).toInt32)) (own_kx1 (hfl 0 (by decide))) (own_kx2 (hfl 0 (by decide))) (g := (mkF m 33 #[.val (.ref a1), .val (.ref a2), .val (.int p3), .val (.int p4), .val (.int (0 : Int32)), .val (.long ((1 : Int64) <<< ((fl 0) &&& 0x3f).toInt64)), .second] [(.int (((fl 0).toUInt32 >>> ((6 : Int32) &&& 31).toUInt32).toInt32)), (.ref aw), (.int (((fl 0).toUInt32 >>> ((6 : Int32) &&& 31).toUInt32).toInt32)), (.ref aw)])) rfl rfl (hb hby d10_33) _ ?_
        show Steps p.tables e below (T39.setTop (mkF m 34 #[.val (.ref a1), .val (.ref a2), .val (.int p3), .val (.int p4), .val (.int (0 : Int32)), .val (.long ((1 : Int64) <<< ((fl 0) &&& 0x3f).toInt64)), .second] [(.long (fz (own_kx (fl 0)))), (.int (((fl 0).toUInt32 >>> ((6 : Int32) &&& 31).toUInt32).toInt32)), (.ref aw)])) _
        refine XS.lload X39.here hx rfl (hb hby d10_34) rfl ?_
        show Steps p.tables e below (T39.setTop (mkF m 36 #[.val (.ref a1), .val (.ref a2), .val (.int p3), .val (.int p4), .val (.int (0 : Int32)), .val (.long ((1 : Int64) <<< ((fl 0) &&& 0x3f).toInt64)), .second] [(.long ((1 : Int64) <<< ((fl 0) &&& 0x3f).toInt64)), (.long (fz (own_kx (fl 0)))), (.int (((fl 0).toUInt32 >>> ((6 : Int32) &&& 31).toUInt32).toInt32)), (.ref aw)])) _
        refine XS.lxor X39.here hx rfl (hb hby d10_36) rfl ?_
        show Steps p.tables e below (T39.setTop (mkF m 37 #[.val (.ref a1), .val (.ref a2), .val (.int p3), .val (.int p4), .val (.int (0 : Int32)), .val (.long ((1 : Int64) <<< ((fl 0) &&& 0x3f).toInt64)), .second] [(.long ((fz (own_kx (fl 0))) ^^^ ((1 : Int64) <<< ((fl 0) &&& 0x3f).toInt64))), (.int (((fl 0).toUInt32 >>> ((6 : Int32) &&& 31).toUInt32).toInt32)), (.ref aw)])) _
        refine st40 _ ?_
        show Steps p.tables e below (T40.setTop (mkF m 38 #[.val (.ref a1), .val (.ref a2), .val (.int p3), .val (.int p4), .val (.int (0 : Int32)), .val (.long ((1 : Int64) <<< ((fl 0) &&& 0x3f).toInt64)), .second] [])) _
        refine XS.goto X40.here hx rfl (pc0 := 38) (pc' := 58) rfl (hb hby d10_38) (by decide) (by decide) ?_
        show Steps p.tables e below (T40.setTop (mkF m 58 #[.val (.ref a1), .val (.ref a2), .val (.int p3), .val (.int p4), .val (.int (0 : Int32)), .val (.long ((1 : Int64) <<< ((fl 0) &&& 0x3f).toInt64)), .second] [])) _
        refine XS.iinc X40.here hx rfl (hb hby d10_58) rfl (l' := #[.val (.ref a1), .val (.ref a2), .val (.int p3), .val (.int p4), .val (.int (1 : Int32)), .val (.long ((1 : Int64) <<< ((fl 0) &&& 0x3f).toInt64)), .second]) rfl ?_
        show Steps p.tables e below (T40.setTop (mkF m 61 #[.val (.ref a1), .val (.ref a2), .val (.int p3), .val (.int p4), .val (.int (1 : Int32)), .val (.long ((1 : Int64) <<< ((fl 0) &&& 0x3f).toInt64)), .second] [])) _
        refine XS.goto X40.here hx rfl (pc0 := 61) (pc' := 3) rfl (hb hby d10_61) (by decide) (by decide) ?_
        show Steps p.tables e below (T40.setTop (mkF m 3 #[.val (.ref a1), .val (.ref a2), .val (.int p3), .val (.int p4), .val (.int (1 : Int32)), .val (.long ((1 : Int64) <<< ((fl 0) &&& 0x3f).toInt64)), .second] [])) _
        refine XS.iload X40.here hx rfl (hb hby d10_3) rfl ?_
        show Steps p.tables e below (T40.setTop (mkF m 5 #[.val (.ref a1), .val (.ref a2), .val (.int p3), .val (.int p4), .val (.int (1 : Int32)), .val (.long ((1 : Int64) <<< ((fl 0) &&& 0x3f).toInt64)), .second] [(.int (1 : Int32))])) _
        refine XS.iloadN X40.here hx rfl (hb hby d10_5) rfl ?_
        exact kt
      by_cases hc6_49 : (1 : Int32) < p3
      · skip
        obtain ⟨T50, X50, hE50, st50⟩ := getF X40 hx hZ hown (host := "") (Or.inl (hw _ (List.mem_of_getElem? (i := 19) rfl))) Via.refl hE40 f42 (g := (mkF m 22 #[.val (.ref a1), .val (.ref a2), .val (.int p3), .val (.int p4), .val (.int (1 : Int32)), .val (.long ((1 : Int64) <<< ((fl 1) &&& 0x3f).toInt64)), .second] [(.ref a1)])) rfl rfl (hb hby d10_22)
        obtain ⟨T51, gh51, X51, hE51, W51, V51, st51⟩ := owStJ X50 hx hZ hE50 V40 (k := (own_kx (fl 1))) (j := (((fl 1).toUInt32 >>> ((6 : Int32) &&& 31).toUInt32).toInt32)) (own_kx1 (hfl 1 (by decide))) (own_kx2 (hfl 1 (by decide))) (g := (mkF m 37 #[.val (.ref a1), .val (.ref a2), .val (.int p3), .val (.int p4), .val (.int (1 : Int32)), .val (.long ((1 : Int64) <<< ((fl 1) &&& 0x3f).toInt64)), .second] [(.long (((owUp fz (own_kx (fl 0)) ((fz (own_kx (fl 0))) ^^^ ((1 : Int64) <<< ((fl 0) &&& 0x3f).toInt64))) (own_kx (fl 1))) ^^^ ((1 : Int64) <<< ((fl 1) &&& 0x3f).toInt64))), (.int (((fl 1).toUInt32 >>> ((6 : Int32) &&& 31).toUInt32).toInt32)), (.ref aw)])) rfl rfl (hb hby d10_37)
        have f52 := f41.wr W51
        have f53 := f42.other W51 (Or.inl n1w)
        have f55 := f44.other W51 n2w
        have Z56 := Nat.le_trans Z45 (Keep.of_wr W51).1
        have N57 := Fr.snoc X51 N46 g_aw
        have K58 := K47.wr W51 (Or.inl (List.mem_of_getElem? (i := 0) rfl))
        have pre59 : ∀ t, Steps p.tables e below (T51.setTop (mkF m 6 #[.val (.ref a1), .val (.ref a2), .val (.int p3), .val (.int p4), .val (.int (2 : Int32)), .val (.long ((1 : Int64) <<< ((fl 1) &&& 0x3f).toInt64)), .second] [(.int p3), (.int (2 : Int32))])) t → Steps p.tables e below (s₁.setTop (entryFrame m #[(.ref a1), (.ref a2), (.int p3), (.int p4)] 7)) t := by
          intro t kt
          refine pre48 _ ?_
          show Steps p.tables e below (T40.setTop (mkF m 6 #[.val (.ref a1), .val (.ref a2), .val (.int p3), .val (.int p4), .val (.int (1 : Int32)), .val (.long ((1 : Int64) <<< ((fl 0) &&& 0x3f).toInt64)), .second] [(.int p3), (.int (1 : Int32))])) _
          refine XS.icmpNo X40.here hx rfl (hb hby d10_6) rfl (XT.ii_ge_f hc6_49) ?_
          show Steps p.tables e below (T40.setTop (mkF m 9 #[.val (.ref a1), .val (.ref a2), .val (.int p3), .val (.int p4), .val (.int (1 : Int32)), .val (.long ((1 : Int64) <<< ((fl 0) &&& 0x3f).toInt64)), .second] [])) _
          refine XS.lconst X40.here hx rfl (hb hby d10_9) ?_
          show Steps p.tables e below (T40.setTop (mkF m 10 #[.val (.ref a1), .val (.ref a2), .val (.int p3), .val (.int p4), .val (.int (1 : Int32)), .val (.long ((1 : Int64) <<< ((fl 0) &&& 0x3f).toInt64)), .second] [(.long (1 : Int64))])) _
          refine XS.aloadN X40.here hx rfl (hb hby d10_10) rfl rfl ?_
          show Steps p.tables e below (T40.setTop (mkF m 11 #[.val (.ref a1), .val (.ref a2), .val (.int p3), .val (.int p4), .val (.int (1 : Int32)), .val (.long ((1 : Int64) <<< ((fl 0) &&& 0x3f).toInt64)), .second] [(.ref a2), (.long (1 : Int64))])) _
          refine XS.iload X40.here hx rfl (hb hby d10_11) rfl ?_
          show Steps p.tables e below (T40.setTop (mkF m 13 #[.val (.ref a1), .val (.ref a2), .val (.int p3), .val (.int p4), .val (.int (1 : Int32)), .val (.long ((1 : Int64) <<< ((fl 0) &&& 0x3f).toInt64)), .second] [(.int (1 : Int32)), (.ref a2), (.long (1 : Int64))])) _
          refine owLdC (k := 1) X40 hx hZ hE40 f44 (j := (1 : Int32)) rfl (by decide) (g := (mkF m 13 #[.val (.ref a1), .val (.ref a2), .val (.int p3), .val (.int p4), .val (.int (1 : Int32)), .val (.long ((1 : Int64) <<< ((fl 0) &&& 0x3f).toInt64)), .second] [(.int (1 : Int32)), (.ref a2), (.long (1 : Int64))])) rfl rfl (hb hby d10_13) _ ?_
          show Steps p.tables e below (T40.setTop (mkF m 14 #[.val (.ref a1), .val (.ref a2), .val (.int p3), .val (.int p4), .val (.int (1 : Int32)), .val (.long ((1 : Int64) <<< ((fl 0) &&& 0x3f).toInt64)), .second] [(.int (fl 1)), (.long (1 : Int64))])) _
          refine XS.lshl X40.here hx rfl (hb hby d10_14) rfl ?_
          show Steps p.tables e below (T40.setTop (mkF m 15 #[.val (.ref a1), .val (.ref a2), .val (.int p3), .val (.int p4), .val (.int (1 : Int32)), .val (.long ((1 : Int64) <<< ((fl 0) &&& 0x3f).toInt64)), .second] [(.long ((1 : Int64) <<< ((fl 1) &&& 0x3f).toInt64))])) _
          refine XS.lstore X40.here hx rfl (hb hby d10_15) rfl (l' := #[.val (.ref a1), .val (.ref a2), .val (.int p3), .val (.int p4), .val (.int (1 : Int32)), .val (.long ((1 : Int64) <<< ((fl 1) &&& 0x3f).toInt64)), .second]) rfl ?_
          show Steps p.tables e below (T40.setTop (mkF m 17 #[.val (.ref a1), .val (.ref a2), .val (.int p3), .val (.int p4), .val (.int (1 : Int32)), .val (.long ((1 : Int64) <<< ((fl 1) &&& 0x3f).toInt64)), .second] [])) _
          refine XS.iloadN X40.here hx rfl (hb hby d10_17) rfl ?_
          show Steps p.tables e below (T40.setTop (mkF m 18 #[.val (.ref a1), .val (.ref a2), .val (.int p3), .val (.int p4), .val (.int (1 : Int32)), .val (.long ((1 : Int64) <<< ((fl 1) &&& 0x3f).toInt64)), .second] [(.int p4)])) _
          refine XS.ifNo X40.here hx rfl (hb hby d10_18) rfl (XT.i0_eq_f hc18_4) ?_
          show Steps p.tables e below (T40.setTop (mkF m 21 #[.val (.ref a1), .val (.ref a2), .val (.int p3), .val (.int p4), .val (.int (1 : Int32)), .val (.long ((1 : Int64) <<< ((fl 1) &&& 0x3f).toInt64)), .second] [])) _
          refine XS.aloadN X40.here hx rfl (hb hby d10_21) rfl rfl ?_
          show Steps p.tables e below (T40.setTop (mkF m 22 #[.val (.ref a1), .val (.ref a2), .val (.int p3), .val (.int p4), .val (.int (1 : Int32)), .val (.long ((1 : Int64) <<< ((fl 1) &&& 0x3f).toInt64)), .second] [(.ref a1)])) _
          refine st50 _ ?_
          show Steps p.tables e below (T50.setTop (mkF m 25 #[.val (.ref a1), .val (.ref a2), .val (.int p3), .val (.int p4), .val (.int (1 : Int32)), .val (.long ((1 : Int64) <<< ((fl 1) &&& 0x3f).toInt64)), .second] [(.ref aw)])) _
          refine XS.aloadN X50.here hx rfl (hb hby d10_25) rfl rfl ?_
          show Steps p.tables e below (T50.setTop (mkF m 26 #[.val (.ref a1), .val (.ref a2), .val (.int p3), .val (.int p4), .val (.int (1 : Int32)), .val (.long ((1 : Int64) <<< ((fl 1) &&& 0x3f).toInt64)), .second] [(.ref a2), (.ref aw)])) _
          refine XS.iload X50.here hx rfl (hb hby d10_26) rfl ?_
          show Steps p.tables e below (T50.setTop (mkF m 28 #[.val (.ref a1), .val (.ref a2), .val (.int p3), .val (.int p4), .val (.int (1 : Int32)), .val (.long ((1 : Int64) <<< ((fl 1) &&& 0x3f).toInt64)), .second] [(.int (1 : Int32)), (.ref a2), (.ref aw)])) _
          refine owLdC (k := 1) X50 hx hZ hE50 f44 (j := (1 : Int32)) rfl (by decide) (g := (mkF m 28 #[.val (.ref a1), .val (.ref a2), .val (.int p3), .val (.int p4), .val (.int (1 : Int32)), .val (.long ((1 : Int64) <<< ((fl 1) &&& 0x3f).toInt64)), .second] [(.int (1 : Int32)), (.ref a2), (.ref aw)])) rfl rfl (hb hby d10_28) _ ?_
          show Steps p.tables e below (T50.setTop (mkF m 29 #[.val (.ref a1), .val (.ref a2), .val (.int p3), .val (.int p4), .val (.int (1 : Int32)), .val (.long ((1 : Int64) <<< ((fl 1) &&& 0x3f).toInt64)), .second] [(.int (fl 1)), (.ref aw)])) _
          refine XS.bipush X50.here hx rfl (hb hby d10_29) ?_
          show Steps p.tables e below (T50.setTop (mkF m 31 #[.val (.ref a1), .val (.ref a2), .val (.int p3), .val (.int p4), .val (.int (1 : Int32)), .val (.long ((1 : Int64) <<< ((fl 1) &&& 0x3f).toInt64)), .second] [(.int (6 : Int32)), (.int (fl 1)), (.ref aw)])) _
          refine XS.iushr X50.here hx rfl (hb hby d10_31) rfl ?_
          show Steps p.tables e below (T50.setTop (mkF m 32 #[.val (.ref a1), .val (.ref a2), .val (.int p3), .val (.int p4), .val (.int (1 : Int32)), .val (.long ((1 : Int64) <<< ((fl 1) &&& 0x3f).toInt64)), .second] [(.int (((fl 1).toUInt32 >>> ((6 : Int32) &&& 31).toUInt32).toInt32)), (.ref aw)])) _
          refine XT.dup2 X50.here hx rfl (hb hby d10_32) rfl rfl rfl ?_
          show Steps p.tables e below (T50.setTop (mkF m 33 #[.val (.ref a1), .val (.ref a2), .val (.int p3), .val (.int p4), .val (.int (1 : Int32)), .val (.long ((1 : Int64) <<< ((fl 1) &&& 0x3f).toInt64)), .second] [(.int (((fl 1).toUInt32 >>> ((6 : Int32) &&& 31).toUInt32).toInt32)), (.ref aw), (.int (((fl 1).toUInt32 >>> ((6 : Int32) &&& 31).toUInt32).toInt32)), (.ref aw)])) _
          refine owLdJ (k := (own_kx (fl 1))) X50 hx hZ hE50 V40 (j := (((fl 1).toUInt32 >>> ((6 : Int32) &&& 31).toUInt32).toInt32)) (own_kx1 (hfl 1 (by decide))) (own_kx2 (hfl 1 (by decide))) (g := (mkF m 33 #[.val (.ref a1), .val (.ref a2), .val (.int p3), .val (.int p4), .val (.int (1 : Int32)), .val (.long ((1 : Int64) <<< ((fl 1) &&& 0x3f).toInt64)), .second] [(.int (((fl 1).toUInt32 >>> ((6 : Int32) &&& 31).toUInt32).toInt32)), (.ref aw), (.int (((fl 1).toUInt32 >>> ((6 : Int32) &&& 31).toUInt32).toInt32)), (.ref aw)])) rfl rfl (hb hby d10_33) _ ?_
          show Steps p.tables e below (T50.setTop (mkF m 34 #[.val (.ref a1), .val (.ref a2), .val (.int p3), .val (.int p4), .val (.int (1 : Int32)), .val (.long ((1 : Int64) <<< ((fl 1) &&& 0x3f).toInt64)), .second] [(.long ((owUp fz (own_kx (fl 0)) ((fz (own_kx (fl 0))) ^^^ ((1 : Int64) <<< ((fl 0) &&& 0x3f).toInt64))) (own_kx (fl 1)))), (.int (((fl 1).toUInt32 >>> ((6 : Int32) &&& 31).toUInt32).toInt32)), (.ref aw)])) _
          refine XS.lload X50.here hx rfl (hb hby d10_34) rfl ?_
          show Steps p.tables e below (T50.setTop (mkF m 36 #[.val (.ref a1), .val (.ref a2), .val (.int p3), .val (.int p4), .val (.int (1 : Int32)), .val (.long ((1 : Int64) <<< ((fl 1) &&& 0x3f).toInt64)), .second] [(.long ((1 : Int64) <<< ((fl 1) &&& 0x3f).toInt64)), (.long ((owUp fz (own_kx (fl 0)) ((fz (own_kx (fl 0))) ^^^ ((1 : Int64) <<< ((fl 0) &&& 0x3f).toInt64))) (own_kx (fl 1)))), (.int (((fl 1).toUInt32 >>> ((6 : Int32) &&& 31).toUInt32).toInt32)), (.ref aw)])) _
          refine XS.lxor X50.here hx rfl (hb hby d10_36) rfl ?_
          show Steps p.tables e below (T50.setTop (mkF m 37 #[.val (.ref a1), .val (.ref a2), .val (.int p3), .val (.int p4), .val (.int (1 : Int32)), .val (.long ((1 : Int64) <<< ((fl 1) &&& 0x3f).toInt64)), .second] [(.long (((owUp fz (own_kx (fl 0)) ((fz (own_kx (fl 0))) ^^^ ((1 : Int64) <<< ((fl 0) &&& 0x3f).toInt64))) (own_kx (fl 1))) ^^^ ((1 : Int64) <<< ((fl 1) &&& 0x3f).toInt64))), (.int (((fl 1).toUInt32 >>> ((6 : Int32) &&& 31).toUInt32).toInt32)), (.ref aw)])) _
          refine st51 _ ?_
          show Steps p.tables e below (T51.setTop (mkF m 38 #[.val (.ref a1), .val (.ref a2), .val (.int p3), .val (.int p4), .val (.int (1 : Int32)), .val (.long ((1 : Int64) <<< ((fl 1) &&& 0x3f).toInt64)), .second] [])) _
          refine XS.goto X51.here hx rfl (pc0 := 38) (pc' := 58) rfl (hb hby d10_38) (by decide) (by decide) ?_
          show Steps p.tables e below (T51.setTop (mkF m 58 #[.val (.ref a1), .val (.ref a2), .val (.int p3), .val (.int p4), .val (.int (1 : Int32)), .val (.long ((1 : Int64) <<< ((fl 1) &&& 0x3f).toInt64)), .second] [])) _
          refine XS.iinc X51.here hx rfl (hb hby d10_58) rfl (l' := #[.val (.ref a1), .val (.ref a2), .val (.int p3), .val (.int p4), .val (.int (2 : Int32)), .val (.long ((1 : Int64) <<< ((fl 1) &&& 0x3f).toInt64)), .second]) rfl ?_
          show Steps p.tables e below (T51.setTop (mkF m 61 #[.val (.ref a1), .val (.ref a2), .val (.int p3), .val (.int p4), .val (.int (2 : Int32)), .val (.long ((1 : Int64) <<< ((fl 1) &&& 0x3f).toInt64)), .second] [])) _
          refine XS.goto X51.here hx rfl (pc0 := 61) (pc' := 3) rfl (hb hby d10_61) (by decide) (by decide) ?_
          show Steps p.tables e below (T51.setTop (mkF m 3 #[.val (.ref a1), .val (.ref a2), .val (.int p3), .val (.int p4), .val (.int (2 : Int32)), .val (.long ((1 : Int64) <<< ((fl 1) &&& 0x3f).toInt64)), .second] [])) _
          refine XS.iload X51.here hx rfl (hb hby d10_3) rfl ?_
          show Steps p.tables e below (T51.setTop (mkF m 5 #[.val (.ref a1), .val (.ref a2), .val (.int p3), .val (.int p4), .val (.int (2 : Int32)), .val (.long ((1 : Int64) <<< ((fl 1) &&& 0x3f).toInt64)), .second] [(.int (2 : Int32))])) _
          refine XS.iloadN X51.here hx rfl (hb hby d10_5) rfl ?_
          exact kt
        by_cases hc6_60 : (2 : Int32) < p3
        · skip
          obtain ⟨T61, X61, hE61, st61⟩ := getF X51 hx hZ hown (host := "") (Or.inl (hw _ (List.mem_of_getElem? (i := 19) rfl))) Via.refl hE51 f53 (g := (mkF m 22 #[.val (.ref a1), .val (.ref a2), .val (.int p3), .val (.int p4), .val (.int (2 : Int32)), .val (.long ((1 : Int64) <<< ((fl 2) &&& 0x3f).toInt64)), .second] [(.ref a1)])) rfl rfl (hb hby d10_22)
          obtain ⟨T62, gh62, X62, hE62, W62, V62, st62⟩ := owStJ X61 hx hZ hE61 V51 (k := (own_kx (fl 2))) (j := (((fl 2).toUInt32 >>> ((6 : Int32) &&& 31).toUInt32).toInt32)) (own_kx1 (hfl 2 (by decide))) (own_kx2 (hfl 2 (by decide))) (g := (mkF m 37 #[.val (.ref a1), .val (.ref a2), .val (.int p3), .val (.int p4), .val (.int (2 : Int32)), .val (.long ((1 : Int64) <<< ((fl 2) &&& 0x3f).toInt64)), .second] [(.long (((owUp (owUp fz (own_kx (fl 0)) ((fz (own_kx (fl 0))) ^^^ ((1 : Int64) <<< ((fl 0) &&& 0x3f).toInt64))) (own_kx (fl 1)) (((owUp fz (own_kx (fl 0)) ((fz (own_kx (fl 0))) ^^^ ((1 : Int64) <<< ((fl 0) &&& 0x3f).toInt64))) (own_kx (fl 1))) ^^^ ((1 : Int64) <<< ((fl 1) &&& 0x3f).toInt64))) (own_kx (fl 2))) ^^^ ((1 : Int64) <<< ((fl 2) &&& 0x3f).toInt64))), (.int (((fl 2).toUInt32 >>> ((6 : Int32) &&& 31).toUInt32).toInt32)), (.ref aw)])) rfl rfl (hb hby d10_37)
          have f63 := f52.wr W62
          have f64 := f53.other W62 (Or.inl n1w)
          have f66 := f55.other W62 n2w
          have Z67 := Nat.le_trans Z56 (Keep.of_wr W62).1
          have N68 := Fr.snoc X62 N57 g_aw
          have K69 := K58.wr W62 (Or.inl (List.mem_of_getElem? (i := 0) rfl))
          have pre70 : ∀ t, Steps p.tables e below (T62.setTop (mkF m 64 #[.val (.ref a1), .val (.ref a2), .val (.int p3), .val (.int p4), .val (.int (3 : Int32)), .val (.long ((1 : Int64) <<< ((fl 2) &&& 0x3f).toInt64)), .second] [])) t → Steps p.tables e below (s₁.setTop (entryFrame m #[(.ref a1), (.ref a2), (.int p3), (.int p4)] 7)) t := by
            intro t kt
            refine pre59 _ ?_
            show Steps p.tables e below (T51.setTop (mkF m 6 #[.val (.ref a1), .val (.ref a2), .val (.int p3), .val (.int p4), .val (.int (2 : Int32)), .val (.long ((1 : Int64) <<< ((fl 1) &&& 0x3f).toInt64)), .second] [(.int p3), (.int (2 : Int32))])) _
            refine XS.icmpNo X51.here hx rfl (hb hby d10_6) rfl (XT.ii_ge_f hc6_60) ?_
            show Steps p.tables e below (T51.setTop (mkF m 9 #[.val (.ref a1), .val (.ref a2), .val (.int p3), .val (.int p4), .val (.int (2 : Int32)), .val (.long ((1 : Int64) <<< ((fl 1) &&& 0x3f).toInt64)), .second] [])) _
            refine XS.lconst X51.here hx rfl (hb hby d10_9) ?_
            show Steps p.tables e below (T51.setTop (mkF m 10 #[.val (.ref a1), .val (.ref a2), .val (.int p3), .val (.int p4), .val (.int (2 : Int32)), .val (.long ((1 : Int64) <<< ((fl 1) &&& 0x3f).toInt64)), .second] [(.long (1 : Int64))])) _
            refine XS.aloadN X51.here hx rfl (hb hby d10_10) rfl rfl ?_
            show Steps p.tables e below (T51.setTop (mkF m 11 #[.val (.ref a1), .val (.ref a2), .val (.int p3), .val (.int p4), .val (.int (2 : Int32)), .val (.long ((1 : Int64) <<< ((fl 1) &&& 0x3f).toInt64)), .second] [(.ref a2), (.long (1 : Int64))])) _
            refine XS.iload X51.here hx rfl (hb hby d10_11) rfl ?_
            show Steps p.tables e below (T51.setTop (mkF m 13 #[.val (.ref a1), .val (.ref a2), .val (.int p3), .val (.int p4), .val (.int (2 : Int32)), .val (.long ((1 : Int64) <<< ((fl 1) &&& 0x3f).toInt64)), .second] [(.int (2 : Int32)), (.ref a2), (.long (1 : Int64))])) _
            refine owLdC (k := 2) X51 hx hZ hE51 f55 (j := (2 : Int32)) rfl (by decide) (g := (mkF m 13 #[.val (.ref a1), .val (.ref a2), .val (.int p3), .val (.int p4), .val (.int (2 : Int32)), .val (.long ((1 : Int64) <<< ((fl 1) &&& 0x3f).toInt64)), .second] [(.int (2 : Int32)), (.ref a2), (.long (1 : Int64))])) rfl rfl (hb hby d10_13) _ ?_
            show Steps p.tables e below (T51.setTop (mkF m 14 #[.val (.ref a1), .val (.ref a2), .val (.int p3), .val (.int p4), .val (.int (2 : Int32)), .val (.long ((1 : Int64) <<< ((fl 1) &&& 0x3f).toInt64)), .second] [(.int (fl 2)), (.long (1 : Int64))])) _
            refine XS.lshl X51.here hx rfl (hb hby d10_14) rfl ?_
            show Steps p.tables e below (T51.setTop (mkF m 15 #[.val (.ref a1), .val (.ref a2), .val (.int p3), .val (.int p4), .val (.int (2 : Int32)), .val (.long ((1 : Int64) <<< ((fl 1) &&& 0x3f).toInt64)), .second] [(.long ((1 : Int64) <<< ((fl 2) &&& 0x3f).toInt64))])) _
            refine XS.lstore X51.here hx rfl (hb hby d10_15) rfl (l' := #[.val (.ref a1), .val (.ref a2), .val (.int p3), .val (.int p4), .val (.int (2 : Int32)), .val (.long ((1 : Int64) <<< ((fl 2) &&& 0x3f).toInt64)), .second]) rfl ?_
            show Steps p.tables e below (T51.setTop (mkF m 17 #[.val (.ref a1), .val (.ref a2), .val (.int p3), .val (.int p4), .val (.int (2 : Int32)), .val (.long ((1 : Int64) <<< ((fl 2) &&& 0x3f).toInt64)), .second] [])) _
            refine XS.iloadN X51.here hx rfl (hb hby d10_17) rfl ?_
            show Steps p.tables e below (T51.setTop (mkF m 18 #[.val (.ref a1), .val (.ref a2), .val (.int p3), .val (.int p4), .val (.int (2 : Int32)), .val (.long ((1 : Int64) <<< ((fl 2) &&& 0x3f).toInt64)), .second] [(.int p4)])) _
            refine XS.ifNo X51.here hx rfl (hb hby d10_18) rfl (XT.i0_eq_f hc18_4) ?_
            show Steps p.tables e below (T51.setTop (mkF m 21 #[.val (.ref a1), .val (.ref a2), .val (.int p3), .val (.int p4), .val (.int (2 : Int32)), .val (.long ((1 : Int64) <<< ((fl 2) &&& 0x3f).toInt64)), .second] [])) _
            refine XS.aloadN X51.here hx rfl (hb hby d10_21) rfl rfl ?_
            show Steps p.tables e below (T51.setTop (mkF m 22 #[.val (.ref a1), .val (.ref a2), .val (.int p3), .val (.int p4), .val (.int (2 : Int32)), .val (.long ((1 : Int64) <<< ((fl 2) &&& 0x3f).toInt64)), .second] [(.ref a1)])) _
            refine st61 _ ?_
            show Steps p.tables e below (T61.setTop (mkF m 25 #[.val (.ref a1), .val (.ref a2), .val (.int p3), .val (.int p4), .val (.int (2 : Int32)), .val (.long ((1 : Int64) <<< ((fl 2) &&& 0x3f).toInt64)), .second] [(.ref aw)])) _
            refine XS.aloadN X61.here hx rfl (hb hby d10_25) rfl rfl ?_
            show Steps p.tables e below (T61.setTop (mkF m 26 #[.val (.ref a1), .val (.ref a2), .val (.int p3), .val (.int p4), .val (.int (2 : Int32)), .val (.long ((1 : Int64) <<< ((fl 2) &&& 0x3f).toInt64)), .second] [(.ref a2), (.ref aw)])) _
            refine XS.iload X61.here hx rfl (hb hby d10_26) rfl ?_
            show Steps p.tables e below (T61.setTop (mkF m 28 #[.val (.ref a1), .val (.ref a2), .val (.int p3), .val (.int p4), .val (.int (2 : Int32)), .val (.long ((1 : Int64) <<< ((fl 2) &&& 0x3f).toInt64)), .second] [(.int (2 : Int32)), (.ref a2), (.ref aw)])) _
            refine owLdC (k := 2) X61 hx hZ hE61 f55 (j := (2 : Int32)) rfl (by decide) (g := (mkF m 28 #[.val (.ref a1), .val (.ref a2), .val (.int p3), .val (.int p4), .val (.int (2 : Int32)), .val (.long ((1 : Int64) <<< ((fl 2) &&& 0x3f).toInt64)), .second] [(.int (2 : Int32)), (.ref a2), (.ref aw)])) rfl rfl (hb hby d10_28) _ ?_
            show Steps p.tables e below (T61.setTop (mkF m 29 #[.val (.ref a1), .val (.ref a2), .val (.int p3), .val (.int p4), .val (.int (2 : Int32)), .val (.long ((1 : Int64) <<< ((fl 2) &&& 0x3f).toInt64)), .second] [(.int (fl 2)), (.ref aw)])) _
            refine XS.bipush X61.here hx rfl (hb hby d10_29) ?_
            show Steps p.tables e below (T61.setTop (mkF m 31 #[.val (.ref a1), .val (.ref a2), .val (.int p3), .val (.int p4), .val (.int (2 : Int32)), .val (.long ((1 : Int64) <<< ((fl 2) &&& 0x3f).toInt64)), .second] [(.int (6 : Int32)), (.int (fl 2)), (.ref aw)])) _
            refine XS.iushr X61.here hx rfl (hb hby d10_31) rfl ?_
            show Steps p.tables e below (T61.setTop (mkF m 32 #[.val (.ref a1), .val (.ref a2), .val (.int p3), .val (.int p4), .val (.int (2 : Int32)), .val (.long ((1 : Int64) <<< ((fl 2) &&& 0x3f).toInt64)), .second] [(.int (((fl 2).toUInt32 >>> ((6 : Int32) &&& 31).toUInt32).toInt32)), (.ref aw)])) _
            refine XT.dup2 X61.here hx rfl (hb hby d10_32) rfl rfl rfl ?_
            show Steps p.tables e below (T61.setTop (mkF m 33 #[.val (.ref a1), .val (.ref a2), .val (.int p3), .val (.int p4), .val (.int (2 : Int32)), .val (.long ((1 : Int64) <<< ((fl 2) &&& 0x3f).toInt64)), .second] [(.int (((fl 2).toUInt32 >>> ((6 : Int32) &&& 31).toUInt32).toInt32)), (.ref aw), (.int (((fl 2).toUInt32 >>> ((6 : Int32) &&& 31).toUInt32).toInt32)), (.ref aw)])) _
            refine owLdJ (k := (own_kx (fl 2))) X61 hx hZ hE61 V51 (j := (((fl 2).toUInt32 >>> ((6 : Int32) &&& 31).toUInt32).toInt32)) (own_kx1 (hfl 2 (by decide))) (own_kx2 (hfl 2 (by decide))) (g := (mkF m 33 #[.val (.ref a1), .val (.ref a2), .val (.int p3), .val (.int p4), .val (.int (2 : Int32)), .val (.long ((1 : Int64) <<< ((fl 2) &&& 0x3f).toInt64)), .second] [(.int (((fl 2).toUInt32 >>> ((6 : Int32) &&& 31).toUInt32).toInt32)), (.ref aw), (.int (((fl 2).toUInt32 >>> ((6 : Int32) &&& 31).toUInt32).toInt32)), (.ref aw)])) rfl rfl (hb hby d10_33) _ ?_
            show Steps p.tables e below (T61.setTop (mkF m 34 #[.val (.ref a1), .val (.ref a2), .val (.int p3), .val (.int p4), .val (.int (2 : Int32)), .val (.long ((1 : Int64) <<< ((fl 2) &&& 0x3f).toInt64)), .second] [(.long ((owUp (owUp fz (own_kx (fl 0)) ((fz (own_kx (fl 0))) ^^^ ((1 : Int64) <<< ((fl 0) &&& 0x3f).toInt64))) (own_kx (fl 1)) (((owUp fz (own_kx (fl 0)) ((fz (own_kx (fl 0))) ^^^ ((1 : Int64) <<< ((fl 0) &&& 0x3f).toInt64))) (own_kx (fl 1))) ^^^ ((1 : Int64) <<< ((fl 1) &&& 0x3f).toInt64))) (own_kx (fl 2)))), (.int (((fl 2).toUInt32 >>> ((6 : Int32) &&& 31).toUInt32).toInt32)), (.ref aw)])) _
            refine XS.lload X61.here hx rfl (hb hby d10_34) rfl ?_
            show Steps p.tables e below (T61.setTop (mkF m 36 #[.val (.ref a1), .val (.ref a2), .val (.int p3), .val (.int p4), .val (.int (2 : Int32)), .val (.long ((1 : Int64) <<< ((fl 2) &&& 0x3f).toInt64)), .second] [(.long ((1 : Int64) <<< ((fl 2) &&& 0x3f).toInt64)), (.long ((owUp (owUp fz (own_kx (fl 0)) ((fz (own_kx (fl 0))) ^^^ ((1 : Int64) <<< ((fl 0) &&& 0x3f).toInt64))) (own_kx (fl 1)) (((owUp fz (own_kx (fl 0)) ((fz (own_kx (fl 0))) ^^^ ((1 : Int64) <<< ((fl 0) &&& 0x3f).toInt64))) (own_kx (fl 1))) ^^^ ((1 : Int64) <<< ((fl 1) &&& 0x3f).toInt64))) (own_kx (fl 2)))), (.int (((fl 2).toUInt32 >>> ((6 : Int32) &&& 31).toUInt32).toInt32)), (.ref aw)])) _
            refine XS.lxor X61.here hx rfl (hb hby d10_36) rfl ?_
            show Steps p.tables e below (T61.setTop (mkF m 37 #[.val (.ref a1), .val (.ref a2), .val (.int p3), .val (.int p4), .val (.int (2 : Int32)), .val (.long ((1 : Int64) <<< ((fl 2) &&& 0x3f).toInt64)), .second] [(.long (((owUp (owUp fz (own_kx (fl 0)) ((fz (own_kx (fl 0))) ^^^ ((1 : Int64) <<< ((fl 0) &&& 0x3f).toInt64))) (own_kx (fl 1)) (((owUp fz (own_kx (fl 0)) ((fz (own_kx (fl 0))) ^^^ ((1 : Int64) <<< ((fl 0) &&& 0x3f).toInt64))) (own_kx (fl 1))) ^^^ ((1 : Int64) <<< ((fl 1) &&& 0x3f).toInt64))) (own_kx (fl 2))) ^^^ ((1 : Int64) <<< ((fl 2) &&& 0x3f).toInt64))), (.int (((fl 2).toUInt32 >>> ((6 : Int32) &&& 31).toUInt32).toInt32)), (.ref aw)])) _
            refine st62 _ ?_
            show Steps p.tables e below (T62.setTop (mkF m 38 #[.val (.ref a1), .val (.ref a2), .val (.int p3), .val (.int p4), .val (.int (2 : Int32)), .val (.long ((1 : Int64) <<< ((fl 2) &&& 0x3f).toInt64)), .second] [])) _
            refine XS.goto X62.here hx rfl (pc0 := 38) (pc' := 58) rfl (hb hby d10_38) (by decide) (by decide) ?_
            show Steps p.tables e below (T62.setTop (mkF m 58 #[.val (.ref a1), .val (.ref a2), .val (.int p3), .val (.int p4), .val (.int (2 : Int32)), .val (.long ((1 : Int64) <<< ((fl 2) &&& 0x3f).toInt64)), .second] [])) _
            refine XS.iinc X62.here hx rfl (hb hby d10_58) rfl (l' := #[.val (.ref a1), .val (.ref a2), .val (.int p3), .val (.int p4), .val (.int (3 : Int32)), .val (.long ((1 : Int64) <<< ((fl 2) &&& 0x3f).toInt64)), .second]) rfl ?_
            show Steps p.tables e below (T62.setTop (mkF m 61 #[.val (.ref a1), .val (.ref a2), .val (.int p3), .val (.int p4), .val (.int (3 : Int32)), .val (.long ((1 : Int64) <<< ((fl 2) &&& 0x3f).toInt64)), .second] [])) _
            refine XS.goto X62.here hx rfl (pc0 := 61) (pc' := 3) rfl (hb hby d10_61) (by decide) (by decide) ?_
            show Steps p.tables e below (T62.setTop (mkF m 3 #[.val (.ref a1), .val (.ref a2), .val (.int p3), .val (.int p4), .val (.int (3 : Int32)), .val (.long ((1 : Int64) <<< ((fl 2) &&& 0x3f).toInt64)), .second] [])) _
            refine XS.iload X62.here hx rfl (hb hby d10_3) rfl ?_
            show Steps p.tables e below (T62.setTop (mkF m 5 #[.val (.ref a1), .val (.ref a2), .val (.int p3), .val (.int p4), .val (.int (3 : Int32)), .val (.long ((1 : Int64) <<< ((fl 2) &&& 0x3f).toInt64)), .second] [(.int (3 : Int32))])) _
            refine XS.iloadN X62.here hx rfl (hb hby d10_5) rfl ?_
            show Steps p.tables e below (T62.setTop (mkF m 6 #[.val (.ref a1), .val (.ref a2), .val (.int p3), .val (.int p4), .val (.int (3 : Int32)), .val (.long ((1 : Int64) <<< ((fl 2) &&& 0x3f).toInt64)), .second] [(.int p3), (.int (3 : Int32))])) _
            refine XS.icmpYes X62.here hx rfl (pc0 := 6) (pc' := 64) rfl (hb hby d10_6) rfl (XT.ii_ge_t hp3) (by decide) (by decide) ?_
            exact kt
          obtain ⟨fs, hr, hrun, hended, hW, hsame⟩ := X62.leave (v := none) (fun _ => rfl)
          refine ⟨_, _, pre70 _ ?_, hrun, hended, _, _, rfl, ?_, ⟨_, rfl⟩, hW, hsame.mono (by decide) (by decide)⟩
          · show Steps p.tables e below (T62.setTop (mkF m 64 #[.val (.ref a1), .val (.ref a2), .val (.int p3), .val (.int p4), .val (.int (3 : Int32)), .val (.long ((1 : Int64) <<< ((fl 2) &&& 0x3f).toInt64)), .second] [])) _
            exact X62.returnOut hx Bd.returns (hb hby d10_64) hr
          · show Q10 Z a1 a2 p3 p4 aw fl fz h0 n0 _ T62.heap _
            rw [hE62]
            exact ⟨rfl, N68, K69, f63, f64, (by unfold tkf; rw [if_pos hc6_2, if_neg hc18_4, if_pos hc6_49, if_pos hc6_60]; exact V62)⟩
        · skip
          have pre71 : ∀ t, Steps p.tables e below (T51.setTop (mkF m 64 #[.val (.ref a1), .val (.ref a2), .val (.int p3), .val (.int p4), .val (.int (2 : Int32)), .val (.long ((1 : Int64) <<< ((fl 1) &&& 0x3f).toInt64)), .second] [])) t → Steps p.tables e below (s₁.setTop (entryFrame m #[(.ref a1), (.ref a2), (.int p3), (.int p4)] 7)) t := by
            intro t kt
            refine pre59 _ ?_
            show Steps p.tables e below (T51.setTop (mkF m 6 #[.val (.ref a1), .val (.ref a2), .val (.int p3), .val (.int p4), .val (.int (2 : Int32)), .val (.long ((1 : Int64) <<< ((fl 1) &&& 0x3f).toInt64)), .second] [(.int p3), (.int (2 : Int32))])) _
            refine XS.icmpYes X51.here hx rfl (pc0 := 6) (pc' := 64) rfl (hb hby d10_6) rfl (XT.ii_ge_t hc6_60) (by decide) (by decide) ?_
            exact kt
          obtain ⟨fs, hr, hrun, hended, hW, hsame⟩ := X51.leave (v := none) (fun _ => rfl)
          refine ⟨_, _, pre71 _ ?_, hrun, hended, _, _, rfl, ?_, ⟨_, rfl⟩, hW, hsame.mono (by decide) (by decide)⟩
          · show Steps p.tables e below (T51.setTop (mkF m 64 #[.val (.ref a1), .val (.ref a2), .val (.int p3), .val (.int p4), .val (.int (2 : Int32)), .val (.long ((1 : Int64) <<< ((fl 1) &&& 0x3f).toInt64)), .second] [])) _
            exact X51.returnOut hx Bd.returns (hb hby d10_64) hr
          · show Q10 Z a1 a2 p3 p4 aw fl fz h0 n0 _ T51.heap _
            rw [hE51]
            exact ⟨rfl, N57, K58, f52, f53, (by unfold tkf; rw [if_pos hc6_2, if_neg hc18_4, if_pos hc6_49, if_neg hc6_60]; exact V51)⟩
      · skip
        have pre72 : ∀ t, Steps p.tables e below (T40.setTop (mkF m 64 #[.val (.ref a1), .val (.ref a2), .val (.int p3), .val (.int p4), .val (.int (1 : Int32)), .val (.long ((1 : Int64) <<< ((fl 0) &&& 0x3f).toInt64)), .second] [])) t → Steps p.tables e below (s₁.setTop (entryFrame m #[(.ref a1), (.ref a2), (.int p3), (.int p4)] 7)) t := by
          intro t kt
          refine pre48 _ ?_
          show Steps p.tables e below (T40.setTop (mkF m 6 #[.val (.ref a1), .val (.ref a2), .val (.int p3), .val (.int p4), .val (.int (1 : Int32)), .val (.long ((1 : Int64) <<< ((fl 0) &&& 0x3f).toInt64)), .second] [(.int p3), (.int (1 : Int32))])) _
          refine XS.icmpYes X40.here hx rfl (pc0 := 6) (pc' := 64) rfl (hb hby d10_6) rfl (XT.ii_ge_t hc6_49) (by decide) (by decide) ?_
          exact kt
        obtain ⟨fs, hr, hrun, hended, hW, hsame⟩ := X40.leave (v := none) (fun _ => rfl)
        refine ⟨_, _, pre72 _ ?_, hrun, hended, _, _, rfl, ?_, ⟨_, rfl⟩, hW, hsame.mono (by decide) (by decide)⟩
        · show Steps p.tables e below (T40.setTop (mkF m 64 #[.val (.ref a1), .val (.ref a2), .val (.int p3), .val (.int p4), .val (.int (1 : Int32)), .val (.long ((1 : Int64) <<< ((fl 0) &&& 0x3f).toInt64)), .second] [])) _
          exact X40.returnOut hx Bd.returns (hb hby d10_64) hr
        · show Q10 Z a1 a2 p3 p4 aw fl fz h0 n0 _ T40.heap _
          rw [hE40]
          exact ⟨rfl, N46, K47, f41, f42, (by unfold tkf; rw [if_pos hc6_2, if_neg hc18_4, if_neg hc6_49]; exact V40)⟩
  · skip
    have pre73 : ∀ t, Steps p.tables e below (s₁.setTop (mkF m 64 #[.val (.ref a1), .val (.ref a2), .val (.int p3), .val (.int p4), .val (.int (0 : Int32)), .unset, .unset] [])) t → Steps p.tables e below (s₁.setTop (entryFrame m #[(.ref a1), (.ref a2), (.int p3), (.int p4)] 7)) t := by
      intro t kt
      refine pre1 _ ?_
      show Steps p.tables e below (s₁.setTop (mkF m 6 #[.val (.ref a1), .val (.ref a2), .val (.int p3), .val (.int p4), .val (.int (0 : Int32)), .unset, .unset] [(.int p3), (.int (0 : Int32))])) _
      refine XS.icmpYes X0.here hx rfl (pc0 := 6) (pc' := 64) rfl (hb hby d10_6) rfl (XT.ii_ge_t hc6_2) (by decide) (by decide) ?_
      exact kt
    obtain ⟨fs, hr, hrun, hended, hW, hsame⟩ := X0.leave (v := none) (fun _ => rfl)
    refine ⟨_, _, pre73 _ ?_, hrun, hended, _, _, rfl, ?_, ⟨_, rfl⟩, hW, hsame.mono (by decide) (by decide)⟩
    · show Steps p.tables e below (s₁.setTop (mkF m 64 #[.val (.ref a1), .val (.ref a2), .val (.int p3), .val (.int p4), .val (.int (0 : Int32)), .unset, .unset] [])) _
      exact X0.returnOut hx Bd.returns (hb hby d10_64) hr
    · show Q10 Z a1 a2 p3 p4 aw fl fz h0 n0 _ s₁.heap _
      rw [e0]
      exact ⟨rfl, N0, (Keep.refl h0 [aw]), E_a1, F_words, (by unfold tkf; rw [if_neg hc6_2]; exact A_aw)⟩
theorem d11_0 : decode prog_39_method_19_code 0 = .ok (.aload_n 0, 1) := by decide +kernel
theorem d11_1 : decode prog_39_method_19_code 1 = .ok (.getfield 18, 3) := by decide +kernel
theorem d11_4 : decode prog_39_method_19_code 4 = .ok (.iload_n 1, 1) := by decide +kernel
theorem d11_5 : decode prog_39_method_19_code 5 = .ok (.laload, 1) := by decide +kernel
theorem d11_6 : decode prog_39_method_19_code 6 = .ok (.lreturn, 1) := by decide +kernel
theorem pn_11 : plainName "com/example/bitweight/bitweight/chunk/WordChunk" = true := by first | (simp [plainName, overriddenIn]; done) | decide +kernel
theorem ef_11 (m : MethodId) (x0 : Addr) (x1 : Int32) : entryFrame m #[(.ref x0), (.int x1)] 2 = mkF m 0 #[.val (.ref x0), .val (.int x1)] [] := by first | (simp [entryFrame, mkF, argsToLocals, Value.category]; done) | rfl
def Q11 (Z : State) (a1 : Addr) (p2 : Int32) (aw : Addr) (fz : Nat → Int64) (kx : Nat) (h0 : Heap) (n0 : Nat) (v : Option Value) (h : Heap) (L : List Loc) : Prop := v = some (.long (fz kx)) ∧ Fr n0 L ∧ h = h0
set_option maxRecDepth 65536 in
set_option maxHeartbeats 40000000 in
theorem rm11 (l : Launch) (Z : State) (a0 : Array Value) (hw : ∀ d ∈ tables_1, d.before a0 Z = true) (ws : List Jvm.Cond) (a1 : Addr) (p2 : Int32) (aw : Addr) (fz : Nat → Int64) (kx : Nat) (h0 : Heap) (n0 : Nat) (Z0 : n0 ≤ h0.size) (F_words : Fld Z h0 a1 "com/example/bitweight/bitweight/chunk/WordChunk" "words" "[J" (.ref aw)) (A_aw : owAJ Z h0 aw .long 1024 fz) (hk1 : p2.toInt = (kx : Int)) (hk2 : kx < 1024) :
    MetFree l (⟨"com/example/bitweight/bitweight/chunk/WordChunk", "word", "(I)J"⟩ : MethodName) (head1 (Jvm.Cond.code (⟨"com/example/bitweight/bitweight/chunk/WordChunk", "word", "(I)J"⟩ : MethodName) prog_39_method_19_code 2 (some .long) :: ws) ({ frames := 0, cells := 0, slots := 0, locals := 0 } : Room)) (fun a U => a = #[(.ref a1), (.int p2)] ∧ Z.Warmed39 U.vm ∧ U.heap = h0) (fun _ _ _ _ _ => True) (fun _ U o U' => ∃ v L, o = .returned v ∧ Q11 Z a1 p2 aw fz kx h0 n0 v U'.heap L ∧ FrameEnd U o U' L ({ frames := 0, cells := 0, slots := 0, locals := 0 } : Room).cells ({ frames := 0, cells := 0, slots := 0, locals := 0 } : Room).slots) := by
  refine MetFree.of_bodySF (plainFor_of_name pn_11) hisR ?_
  intro p e s m args below meth c s₁ Bd hml0 hP hK
  obtain ⟨rfl, hZ, hh⟩ := hP
  have hx := Bd.exec
  have hby := Bd.bytes
  have hml : c.maxLocals = 2 := hml0
  have hown : s.vm.findClass "com/example/bitweight/bitweight/chunk/WordChunk" = some m.cls := findClass_of_methodNamed Bd.named
  have hnm := (name_of_methodNamed Bd.named Bd.method).1
  have X0 : Stand p l e ({ frames := 0, cells := 0, slots := 0, locals := 0 } : Room) s m #[(.ref a1), (.int p2)] below meth c s₁ [] 0 0 := Stand.of_body Bd
  have e0 : s₁.heap = h0 := by rw [← hh, Bd.state]; rfl
  have N0 := Fr.nil n0
  have pre0 : ∀ t, Steps p.tables e below (s₁.setTop (mkF m 0 #[.val (.ref a1), .val (.int p2)] [])) t → Steps p.tables e below (s₁.setTop (entryFrame m #[(.ref a1), (.int p2)] 2)) t := fun t k => castTop (ef_11 m a1 p2) k
  obtain ⟨T1, X1, hE1, st1⟩ := getF X0 hx hZ hown (host := "") (Or.inl (hw _ (List.mem_of_getElem? (i := 19) rfl))) Via.refl e0 F_words (g := (mkF m 1 #[.val (.ref a1), .val (.int p2)] [(.ref a1)])) rfl rfl (hb hby d11_1)
  have pre2 : ∀ t, Steps p.tables e below (T1.setTop (mkF m 6 #[.val (.ref a1), .val (.int p2)] [(.long (fz kx))])) t → Steps p.tables e below (s₁.setTop (entryFrame m #[(.ref a1), (.int p2)] 2)) t := by
    intro t kt
    refine pre0 _ ?_
    show Steps p.tables e below (s₁.setTop (mkF m 0 #[.val (.ref a1), .val (.int p2)] [])) _
    refine XS.aloadN X0.here hx rfl (hb hby d11_0) rfl rfl ?_
    show Steps p.tables e below (s₁.setTop (mkF m 1 #[.val (.ref a1), .val (.int p2)] [(.ref a1)])) _
    refine st1 _ ?_
    show Steps p.tables e below (T1.setTop (mkF m 4 #[.val (.ref a1), .val (.int p2)] [(.ref aw)])) _
    refine XS.iloadN X1.here hx rfl (hb hby d11_4) rfl ?_
    show Steps p.tables e below (T1.setTop (mkF m 5 #[.val (.ref a1), .val (.int p2)] [(.int p2), (.ref aw)])) _
    refine owLdJ (k := kx) X1 hx hZ hE1 A_aw (j := p2) hk1 hk2 (g := (mkF m 5 #[.val (.ref a1), .val (.int p2)] [(.int p2), (.ref aw)])) rfl rfl (hb hby d11_5) _ ?_
    exact kt
  obtain ⟨fs, hr, hrun, hended, hW, hsame⟩ := X1.leave (v := some (.long (fz kx))) (fun h => by rw [Bd.returns] at h; cases h)
  refine ⟨_, _, pre2 _ ?_, hrun, hended, _, _, rfl, ?_, ⟨_, rfl⟩, hW, hsame.mono (by decide) (by decide)⟩
  · show Steps p.tables e below (T1.setTop (mkF m 6 #[.val (.ref a1), .val (.int p2)] [(.long (fz kx))])) _
    exact X1.lreturnOut hx Bd.returns (hb hby d11_6) hr
  · show Q11 Z a1 p2 aw fz kx h0 n0 _ T1.heap _
    rw [hE1]
    exact ⟨rfl, N0, rfl⟩
theorem own_hfl (pa pb pc : Int32) (fl : Nat → Int32) (h_fl : fl = (owUp (owUp (owUp (fun _ => 0) 0 ((pa.toUInt32.toUInt16.toUInt32.toInt32).toUInt32.toUInt16.toUInt32.toInt32)) 1 ((pb.toUInt32.toUInt16.toUInt32.toInt32).toUInt32.toUInt16.toUInt32.toInt32)) 2 ((pc.toUInt32.toUInt16.toUInt32.toInt32).toUInt32.toUInt16.toUInt32.toInt32))) : ∀ i, i < 3 → 0 ≤ (fl i).toInt ∧ (fl i).toInt < 65536 := by
  intro i _
  rw [h_fl]
  exact owUpP (P := fun x : Int32 => 0 ≤ x.toInt ∧ x.toInt < 65536) (owUpP (P := fun x : Int32 => 0 ≤ x.toInt ∧ x.toInt < 65536) (owUpP (P := fun x : Int32 => 0 ≤ x.toInt ∧ x.toInt < 65536) (fun _ => by decide) (c_i2c _).2) (c_i2c _).2) (c_i2c _).2 i
theorem own_kq (pq wq : Int32) (h_wq : wq = (pq &&& (1023 : Int32))) : ∃ kq : Nat, wq.toInt = (kq : Int) ∧ kq < 1024 := by
  have h1 := c_mask pq 1023 10 (by decide) (by decide)
  rw [← h_wq] at h1
  exact ⟨wq.toInt.toNat, by omega, by omega⟩
theorem own_cn (pf cn : Int32) (h_cn : cn = (((pf.toUInt32 >>> ((1 : Int32) &&& 31).toUInt32).toInt32) &&& (3 : Int32))) : ¬ ((3 : Int32) < cn) := by
  have h1 := c_mask ((pf.toUInt32 >>> ((1 : Int32) &&& 31).toUInt32).toInt32) 3 2 (by decide) (by decide)
  rw [← h_cn] at h1
  have o : (3 : Int32).toInt = 3 := rfl
  rw [Int32.lt_iff_toInt_lt]; omega
theorem own_bit {v : Int32} (h : 0 ≤ v.toInt ∧ v.toInt < 65536) : ((v % (64 : Int32)) &&& 0x3f) = (v &&& 0x3f) := by
  have h1 := (c_irem v 64 64 rfl).1 h.1
  have h2 := c_mask v 63 6 (by decide) (by decide)
  have h3 := c_mask (v % 64) 63 6 (by decide) (by decide)
  apply Int32.toInt_inj.mp
  omega
theorem own_div {v kk : Int32} {k : Nat} (h : 0 ≤ v.toInt ∧ v.toInt < 65536) (hk : kk.toInt = (k : Int)) : (v / (64 : Int32)) = kk ↔ own_kx v = k := by
  have h1 := own_kd h rfl
  rw [← Int32.toInt_inj, h1, hk]; omega
set_option maxHeartbeats 40000000 in
theorem own_law (al : Addr) (kk : Int32) (k : Nat) (fl : Nat → Int32) (fz ft : Nat → Int64) (q : Int64) (wa cn xo : Int32) (ev : Int64) (h_ev : ev = (fn8 kk wa q al cn xo fl)) (h_fz : fz = (owUp (fun _ => 0) (own_kx (fl 0)) q)) (h_ft : ft = (tkf cn xo fl fz)) (h_wa : wa = ((fl 0) / (64 : Int32))) (hfl : ∀ i, i < 3 → 0 ≤ (fl i).toInt ∧ (fl i).toInt < 65536) (hk1 : kk.toInt = (k : Int)) (hk2 : k < 1024) : (ft k) = ev := by
  have d0 := own_div (hfl 0 (by decide)) hk1
  have d1 := own_div (hfl 1 (by decide)) hk1
  have d2 := own_div (hfl 2 (by decide)) hk1
  have dw : kk = wa ↔ own_kx (fl 0) = k := by rw [← d0, h_wa]; exact eq_comm
  have b0 := own_bit (hfl 0 (by decide))
  have b1 := own_bit (hfl 1 (by decide))
  have b2 := own_bit (hfl 2 (by decide))
  have z0 : fz k = if own_kx (fl 0) = k then q else 0 := by
    rw [h_fz]; unfold owUp
    by_cases e : own_kx (fl 0) = k
    · rw [if_pos e, if_pos e.symm]
    · rw [if_neg e, if_neg (Ne.symm e)]
  rw [h_ft, h_ev]
  unfold tkf fn8 fn9
  simp only [b0, b1, b2, d0, d1, d2, dw, ← z0]
  have m0 : (1 : Int32) < cn → (0 : Int32) < cn := fun h => by
    rw [Int32.lt_iff_toInt_lt] at h ⊢
    have o1 : (1 : Int32).toInt = 1 := rfl
    have o0 : (0 : Int32).toInt = 0 := rfl
    omega
  have m1 : (2 : Int32) < cn → (1 : Int32) < cn := fun h => by
    rw [Int32.lt_iff_toInt_lt] at h ⊢
    have o1 : (1 : Int32).toInt = 1 := rfl
    have o2 : (2 : Int32).toInt = 2 := rfl
    omega
  have s0 : (k = own_kx (fl 0)) = (own_kx (fl 0) = k) := propext eq_comm
  have s1 : (k = own_kx (fl 1)) = (own_kx (fl 1) = k) := propext eq_comm
  have s2 : (k = own_kx (fl 2)) = (own_kx (fl 2) = k) := propext eq_comm
  by_cases e0 : own_kx (fl 0) = k <;> by_cases e1 : own_kx (fl 1) = k <;> by_cases e2 : own_kx (fl 2) = k <;>
    by_cases c0 : (0 : Int32) < cn <;> by_cases c1 : (1 : Int32) < cn <;> by_cases c2 : (2 : Int32) < cn <;> by_cases x0 : xo = (0 : Int32) <;>
    first | exact absurd (m1 c2) c1 | exact absurd (m0 c1) c0 | simp [s0, s1, s2, e0, e1, e2, c0, c1, c2, x0, owUp]

theorem pn_0 : plainName "com/example/bitweight/bitweight/chunk/WordChunkTakeInPinLaw" = true := by first | (simp [plainName, overriddenIn]; done) | decide +kernel
theorem ef_0 (m : MethodId) (x0 : Int32) (x1 : Int32) (x2 : Int32) (x3 : Int64) (x4 : Int32) (x5 : Int32) : entryFrame m #[(.int x0), (.int x1), (.int x2), (.long x3), (.int x4), (.int x5)] maxLocals = mkF m 0 #[.val (.int x0), .val (.int x1), .val (.int x2), .val (.long x3), .second, .val (.int x4), .val (.int x5), .unset, .unset, .unset, .unset, .unset, .unset, .unset, .unset, .unset, .unset, .unset, .unset, .unset, .unset, .unset, .unset, .unset] [] := by first | (simp [entryFrame, mkF, argsToLocals, Value.category, maxLocals]; done) | rfl
theorem pd_5 : parseMethodDescriptor "([J)Lcom/example/bitweight/bitweight/chunk/WordChunk;" = some ⟨[(.array .long)], some (.object "com/example/bitweight/bitweight/chunk/WordChunk")⟩ := by decide +kernel
theorem pd_6 : parseMethodDescriptor "(IIJ[CIZ)J" = some ⟨[.int, .int, .long, (.array .char), .int, .boolean], some .long⟩ := by decide +kernel
theorem pd_7 : parseMethodDescriptor "([CIZ)V" = some ⟨[(.array .char), .int, .boolean], none⟩ := by decide +kernel
theorem pd_8 : parseMethodDescriptor "(I)J" = some ⟨[.int], some .long⟩ := by decide +kernel
def Q0 (Z : State) (pa : Int32) (pb : Int32) (pc : Int32) (pre0_ : Int64) (pf : Int32) (pq : Int32) (h0 : Heap) (n0 : Nat) (v : Option Value) (h : Heap) (L : List Loc) : Prop := v = some (.int 1) ∧ Fr n0 L
set_option maxRecDepth 65536 in
set_option maxHeartbeats 40000000 in
theorem rm0 (l : Launch) (Z : State) (a0 : Array Value) (hw : ∀ d ∈ tables_1, d.before a0 Z = true) (ws : List Jvm.Cond) (pa : Int32) (pb : Int32) (pc : Int32) (pre0_ : Int64) (pf : Int32) (pq : Int32) (h0 : Heap) (n0 : Nat) (Z0 : n0 ≤ h0.size) :
    MetFree l x (head1 (Jvm.Cond.code x code maxLocals ret :: ws) room_1) (fun a U => a = #[(.int pa), (.int pb), (.int pc), (.long pre0_), (.int pf), (.int pq)] ∧ Z.Warmed39 U.vm ∧ U.heap = h0) (fun _ _ _ _ _ => True) (fun _ U o U' => ∃ v L, o = .returned v ∧ Q0 Z pa pb pc pre0_ pf pq h0 n0 v U'.heap L ∧ FrameEnd U o U' L room_1.cells room_1.slots) := by
  refine MetFree.of_bodySF (plainFor_of_name pn_0) hisR ?_
  intro p e s m args below meth c s₁ Bd hml0 hP hK
  obtain ⟨rfl, hZ, hh⟩ := hP
  have hx := Bd.exec
  have hby := Bd.bytes
  have hml : c.maxLocals = 24 := hml0
  have hown : s.vm.findClass "com/example/bitweight/bitweight/chunk/WordChunkTakeInPinLaw" = some m.cls := findClass_of_methodNamed Bd.named
  have hnm := (name_of_methodNamed Bd.named Bd.method).1
  have X0 : Stand p l e room_1 s m #[(.int pa), (.int pb), (.int pc), (.long pre0_), (.int pf), (.int pq)] below meth c s₁ [] 0 0 := Stand.of_body Bd
  have e0 : s₁.heap = h0 := by rw [← hh, Bd.state]; rfl
  have N0 := Fr.nil n0
  have pre0 : ∀ t, Steps p.tables e below (s₁.setTop (mkF m 0 #[.val (.int pa), .val (.int pb), .val (.int pc), .val (.long pre0_), .second, .val (.int pf), .val (.int pq), .unset, .unset, .unset, .unset, .unset, .unset, .unset, .unset, .unset, .unset, .unset, .unset, .unset, .unset, .unset, .unset, .unset] [])) t → Steps p.tables e below (s₁.setTop (entryFrame m #[(.int pa), (.int pb), (.int pc), (.long pre0_), (.int pf), (.int pq)] maxLocals)) t := fun t k => castTop (ef_0 m pa pb pc pre0_ pf pq) k
  have pre1 : ∀ t, Steps p.tables e below (s₁.setTop (mkF m 4 #[.val (.int pa), .val (.int pb), .val (.int pc), .val (.long pre0_), .second, .val (.int pf), .val (.int pq), .unset, .unset, .unset, .unset, .unset, .unset, .unset, .unset, .unset, .unset, .unset, .unset, .unset, .unset, .unset, .unset, .unset] [(.int (pf &&& (1 : Int32)))])) t → Steps p.tables e below (s₁.setTop (entryFrame m #[(.int pa), (.int pb), (.int pc), (.long pre0_), (.int pf), (.int pq)] maxLocals)) t := by
    intro t kt
    refine pre0 _ ?_
    show Steps p.tables e below (s₁.setTop (mkF m 0 #[.val (.int pa), .val (.int pb), .val (.int pc), .val (.long pre0_), .second, .val (.int pf), .val (.int pq), .unset, .unset, .unset, .unset, .unset, .unset, .unset, .unset, .unset, .unset, .unset, .unset, .unset, .unset, .unset, .unset, .unset] [])) _
    refine XS.iload X0.here hx rfl (hb hby at_0) rfl ?_
    show Steps p.tables e below (s₁.setTop (mkF m 2 #[.val (.int pa), .val (.int pb), .val (.int pc), .val (.long pre0_), .second, .val (.int pf), .val (.int pq), .unset, .unset, .unset, .unset, .unset, .unset, .unset, .unset, .unset, .unset, .unset, .unset, .unset, .unset, .unset, .unset, .unset] [(.int pf)])) _
    refine XS.iconst X0.here hx rfl (hb hby at_2) ?_
    show Steps p.tables e below (s₁.setTop (mkF m 3 #[.val (.int pa), .val (.int pb), .val (.int pc), .val (.long pre0_), .second, .val (.int pf), .val (.int pq), .unset, .unset, .unset, .unset, .unset, .unset, .unset, .unset, .unset, .unset, .unset, .unset, .unset, .unset, .unset, .unset, .unset] [(.int (1 : Int32)), (.int pf)])) _
    refine XS.iand X0.here hx rfl (hb hby at_3) rfl ?_
    exact kt
  obtain ⟨xo, h_xo⟩ : ∃ z : Int32, z = (if (pf &&& (1 : Int32)) = (0 : Int32) then (0 : Int32) else (1 : Int32)) := ⟨_, rfl⟩
  have pre3 : ∀ t, Steps p.tables e below (s₁.setTop (mkF m 12 #[.val (.int pa), .val (.int pb), .val (.int pc), .val (.long pre0_), .second, .val (.int pf), .val (.int pq), .unset, .unset, .unset, .unset, .unset, .unset, .unset, .unset, .unset, .unset, .unset, .unset, .unset, .unset, .unset, .unset, .unset] [(.int xo)])) t → Steps p.tables e below (s₁.setTop (entryFrame m #[(.int pa), (.int pb), (.int pc), (.long pre0_), (.int pf), (.int pq)] maxLocals)) t := by
    intro t kt
    refine pre1 _ ?_
    by_cases hc4_2 : (pf &&& (1 : Int32)) = (0 : Int32)
    · skip
      have q_xo : xo = (0 : Int32) := by rw [h_xo, if_pos hc4_2]
      rw [q_xo] at kt
      show Steps p.tables e below (s₁.setTop (mkF m 4 #[.val (.int pa), .val (.int pb), .val (.int pc), .val (.long pre0_), .second, .val (.int pf), .val (.int pq), .unset, .unset, .unset, .unset, .unset, .unset, .unset, .unset, .unset, .unset, .unset, .unset, .unset, .unset, .unset, .unset, .unset] [(.int (pf &&& (1 : Int32)))])) _
      refine XS.ifYes X0.here hx rfl (pc0 := 4) (pc' := 11) rfl (hb hby at_4) rfl (XT.i0_eq_t hc4_2) (by decide) (by decide) ?_
      show Steps p.tables e below (s₁.setTop (mkF m 11 #[.val (.int pa), .val (.int pb), .val (.int pc), .val (.long pre0_), .second, .val (.int pf), .val (.int pq), .unset, .unset, .unset, .unset, .unset, .unset, .unset, .unset, .unset, .unset, .unset, .unset, .unset, .unset, .unset, .unset, .unset] [])) _
      refine XS.iconst X0.here hx rfl (hb hby at_11) ?_
      exact kt
    · skip
      have q_xo : xo = (1 : Int32) := by rw [h_xo, if_neg hc4_2]
      rw [q_xo] at kt
      show Steps p.tables e below (s₁.setTop (mkF m 4 #[.val (.int pa), .val (.int pb), .val (.int pc), .val (.long pre0_), .second, .val (.int pf), .val (.int pq), .unset, .unset, .unset, .unset, .unset, .unset, .unset, .unset, .unset, .unset, .unset, .unset, .unset, .unset, .unset, .unset, .unset] [(.int (pf &&& (1 : Int32)))])) _
      refine XS.ifNo X0.here hx rfl (hb hby at_4) rfl (XT.i0_eq_f hc4_2) ?_
      show Steps p.tables e below (s₁.setTop (mkF m 7 #[.val (.int pa), .val (.int pb), .val (.int pc), .val (.long pre0_), .second, .val (.int pf), .val (.int pq), .unset, .unset, .unset, .unset, .unset, .unset, .unset, .unset, .unset, .unset, .unset, .unset, .unset, .unset, .unset, .unset, .unset] [])) _
      refine XS.iconst X0.here hx rfl (hb hby at_7) ?_
      show Steps p.tables e below (s₁.setTop (mkF m 8 #[.val (.int pa), .val (.int pb), .val (.int pc), .val (.long pre0_), .second, .val (.int pf), .val (.int pq), .unset, .unset, .unset, .unset, .unset, .unset, .unset, .unset, .unset, .unset, .unset, .unset, .unset, .unset, .unset, .unset, .unset] [(.int (1 : Int32))])) _
      refine XS.goto X0.here hx rfl (pc0 := 8) (pc' := 12) rfl (hb hby at_8) (by decide) (by decide) ?_
      exact kt
  have pre4 : ∀ t, Steps p.tables e below (s₁.setTop (mkF m 20 #[.val (.int pa), .val (.int pb), .val (.int pc), .val (.long pre0_), .second, .val (.int pf), .val (.int pq), .val (.int xo), .unset, .unset, .unset, .unset, .unset, .unset, .unset, .unset, .unset, .unset, .unset, .unset, .unset, .unset, .unset, .unset] [(.int (((pf.toUInt32 >>> ((1 : Int32) &&& 31).toUInt32).toInt32) &&& (3 : Int32)))])) t → Steps p.tables e below (s₁.setTop (entryFrame m #[(.int pa), (.int pb), (.int pc), (.long pre0_), (.int pf), (.int pq)] maxLocals)) t := by
    intro t kt
    refine pre3 _ ?_
    show Steps p.tables e below (s₁.setTop (mkF m 12 #[.val (.int pa), .val (.int pb), .val (.int pc), .val (.long pre0_), .second, .val (.int pf), .val (.int pq), .unset, .unset, .unset, .unset, .unset, .unset, .unset, .unset, .unset, .unset, .unset, .unset, .unset, .unset, .unset, .unset, .unset] [(.int xo)])) _
    refine XS.istore X0.here hx rfl (hb hby at_12) rfl (l' := #[.val (.int pa), .val (.int pb), .val (.int pc), .val (.long pre0_), .second, .val (.int pf), .val (.int pq), .val (.int xo), .unset, .unset, .unset, .unset, .unset, .unset, .unset, .unset, .unset, .unset, .unset, .unset, .unset, .unset, .unset, .unset]) rfl ?_
    show Steps p.tables e below (s₁.setTop (mkF m 14 #[.val (.int pa), .val (.int pb), .val (.int pc), .val (.long pre0_), .second, .val (.int pf), .val (.int pq), .val (.int xo), .unset, .unset, .unset, .unset, .unset, .unset, .unset, .unset, .unset, .unset, .unset, .unset, .unset, .unset, .unset, .unset] [])) _
    refine XS.iload X0.here hx rfl (hb hby at_14) rfl ?_
    show Steps p.tables e below (s₁.setTop (mkF m 16 #[.val (.int pa), .val (.int pb), .val (.int pc), .val (.long pre0_), .second, .val (.int pf), .val (.int pq), .val (.int xo), .unset, .unset, .unset, .unset, .unset, .unset, .unset, .unset, .unset, .unset, .unset, .unset, .unset, .unset, .unset, .unset] [(.int pf)])) _
    refine XS.iconst X0.here hx rfl (hb hby at_16) ?_
    show Steps p.tables e below (s₁.setTop (mkF m 17 #[.val (.int pa), .val (.int pb), .val (.int pc), .val (.long pre0_), .second, .val (.int pf), .val (.int pq), .val (.int xo), .unset, .unset, .unset, .unset, .unset, .unset, .unset, .unset, .unset, .unset, .unset, .unset, .unset, .unset, .unset, .unset] [(.int (1 : Int32)), (.int pf)])) _
    refine XS.iushr X0.here hx rfl (hb hby at_17) rfl ?_
    show Steps p.tables e below (s₁.setTop (mkF m 18 #[.val (.int pa), .val (.int pb), .val (.int pc), .val (.long pre0_), .second, .val (.int pf), .val (.int pq), .val (.int xo), .unset, .unset, .unset, .unset, .unset, .unset, .unset, .unset, .unset, .unset, .unset, .unset, .unset, .unset, .unset, .unset] [(.int ((pf.toUInt32 >>> ((1 : Int32) &&& 31).toUInt32).toInt32))])) _
    refine XS.iconst X0.here hx rfl (hb hby at_18) ?_
    show Steps p.tables e below (s₁.setTop (mkF m 19 #[.val (.int pa), .val (.int pb), .val (.int pc), .val (.long pre0_), .second, .val (.int pf), .val (.int pq), .val (.int xo), .unset, .unset, .unset, .unset, .unset, .unset, .unset, .unset, .unset, .unset, .unset, .unset, .unset, .unset, .unset, .unset] [(.int (3 : Int32)), (.int ((pf.toUInt32 >>> ((1 : Int32) &&& 31).toUInt32).toInt32))])) _
    refine XS.iand X0.here hx rfl (hb hby at_19) rfl ?_
    exact kt
  obtain ⟨cn, h_cn⟩ : ∃ z : Int32, z = (((pf.toUInt32 >>> ((1 : Int32) &&& 31).toUInt32).toInt32) &&& (3 : Int32)) := ⟨_, rfl⟩
  have pre5 : ∀ t, Steps p.tables e below (s₁.setTop (mkF m 20 #[.val (.int pa), .val (.int pb), .val (.int pc), .val (.long pre0_), .second, .val (.int pf), .val (.int pq), .val (.int xo), .unset, .unset, .unset, .unset, .unset, .unset, .unset, .unset, .unset, .unset, .unset, .unset, .unset, .unset, .unset, .unset] [(.int cn)])) t → Steps p.tables e below (s₁.setTop (entryFrame m #[(.int pa), (.int pb), (.int pc), (.long pre0_), (.int pf), (.int pq)] maxLocals)) t := by
    intro t kt
    rw [h_cn] at kt
    exact pre4 _ kt
  obtain ⟨T6, gh6, k6, X6, hE6, E6, A6, st6⟩ := newP X0 hx hZ (hw _ (List.mem_of_getElem? (i := 0) rfl)) e0 (g := (mkF m 23 #[.val (.int pa), .val (.int pb), .val (.int pc), .val (.long pre0_), .second, .val (.int pf), .val (.int pq), .val (.int xo), .val (.int cn), .unset, .unset, .unset, .unset, .unset, .unset, .unset, .unset, .unset, .unset, .unset, .unset, .unset, .unset, .unset] [(.int (3 : Int32))])) rfl (hb hby at_23) rfl (by decide) (cap := 3) (by decide) (by decide) (by decide) (by decide)
  obtain ⟨al, g6⟩ : ∃ z, z = h0.size := ⟨_, rfl⟩
  rw [← g6] at A6 st6
  have g_al : n0 ≤ al := Nat.le_trans Z0 (Nat.le_of_eq g6.symm)
  have Z7 := Nat.le_trans Z0 E6.1
  have V6 : owAI Z gh6 al .char 3 (fun _ => 0) := owAI.new A6 rfl rfl
  obtain ⟨T8, gh8, X8, hE8, W8, V8, st8⟩ := owStC X6 hx hZ hE6 V6 (k := 0) (j := (0 : Int32)) rfl (by decide) (g := (mkF m 32 #[.val (.int pa), .val (.int pb), .val (.int pc), .val (.long pre0_), .second, .val (.int pf), .val (.int pq), .val (.int xo), .val (.int cn), .val (.ref al), .unset, .unset, .unset, .unset, .unset, .unset, .unset, .unset, .unset, .unset, .unset, .unset, .unset, .unset] [(.int (pa.toUInt32.toUInt16.toUInt32.toInt32)), (.int (0 : Int32)), (.ref al)])) rfl rfl (hb hby at_32)
  have Z10 := Nat.le_trans Z7 (Keep.of_wr W8).1
  have N11 := Fr.snoc X8 N0 g_al
  obtain ⟨T12, gh12, X12, hE12, W12, V12, st12⟩ := owStC X8 hx hZ hE8 V8 (k := 1) (j := (1 : Int32)) rfl (by decide) (g := (mkF m 38 #[.val (.int pa), .val (.int pb), .val (.int pc), .val (.long pre0_), .second, .val (.int pf), .val (.int pq), .val (.int xo), .val (.int cn), .val (.ref al), .unset, .unset, .unset, .unset, .unset, .unset, .unset, .unset, .unset, .unset, .unset, .unset, .unset, .unset] [(.int (pb.toUInt32.toUInt16.toUInt32.toInt32)), (.int (1 : Int32)), (.ref al)])) rfl rfl (hb hby at_38)
  have Z14 := Nat.le_trans Z10 (Keep.of_wr W12).1
  have N15 := Fr.snoc X12 N11 g_al
  obtain ⟨T16, gh16, X16, hE16, W16, V16, st16⟩ := owStC X12 hx hZ hE12 V12 (k := 2) (j := (2 : Int32)) rfl (by decide) (g := (mkF m 44 #[.val (.int pa), .val (.int pb), .val (.int pc), .val (.long pre0_), .second, .val (.int pf), .val (.int pq), .val (.int xo), .val (.int cn), .val (.ref al), .unset, .unset, .unset, .unset, .unset, .unset, .unset, .unset, .unset, .unset, .unset, .unset, .unset, .unset] [(.int (pc.toUInt32.toUInt16.toUInt32.toInt32)), (.int (2 : Int32)), (.ref al)])) rfl rfl (hb hby at_44)
  have Z18 := Nat.le_trans Z14 (Keep.of_wr W16).1
  have N19 := Fr.snoc X16 N15 g_al
  obtain ⟨fl, h_fl⟩ : ∃ g : Nat → Int32, g = (owUp (owUp (owUp (fun _ => 0) 0 ((pa.toUInt32.toUInt16.toUInt32.toInt32).toUInt32.toUInt16.toUInt32.toInt32)) 1 ((pb.toUInt32.toUInt16.toUInt32.toInt32).toUInt32.toUInt16.toUInt32.toInt32)) 2 ((pc.toUInt32.toUInt16.toUInt32.toInt32).toUInt32.toUInt16.toUInt32.toInt32)) := ⟨_, rfl⟩
  rw [← h_fl] at V16
  have hfl := own_hfl pa pb pc fl h_fl
  have pre20 : ∀ t, Steps p.tables e below (T16.setTop (mkF m 52 #[.val (.int pa), .val (.int pb), .val (.int pc), .val (.long pre0_), .second, .val (.int pf), .val (.int pq), .val (.int xo), .val (.int cn), .val (.ref al), .unset, .unset, .unset, .unset, .unset, .unset, .unset, .unset, .unset, .unset, .unset, .unset, .unset, .unset] [(.int ((fl 0) / (64 : Int32)))])) t → Steps p.tables e below (s₁.setTop (entryFrame m #[(.int pa), (.int pb), (.int pc), (.long pre0_), (.int pf), (.int pq)] maxLocals)) t := by
    intro t kt
    refine pre5 _ ?_
    show Steps p.tables e below (s₁.setTop (mkF m 20 #[.val (.int pa), .val (.int pb), .val (.int pc), .val (.long pre0_), .second, .val (.int pf), .val (.int pq), .val (.int xo), .unset, .unset, .unset, .unset, .unset, .unset, .unset, .unset, .unset, .unset, .unset, .unset, .unset, .unset, .unset, .unset] [(.int cn)])) _
    refine XS.istore X0.here hx rfl (hb hby at_20) rfl (l' := #[.val (.int pa), .val (.int pb), .val (.int pc), .val (.long pre0_), .second, .val (.int pf), .val (.int pq), .val (.int xo), .val (.int cn), .unset, .unset, .unset, .unset, .unset, .unset, .unset, .unset, .unset, .unset, .unset, .unset, .unset, .unset, .unset]) rfl ?_
    show Steps p.tables e below (s₁.setTop (mkF m 22 #[.val (.int pa), .val (.int pb), .val (.int pc), .val (.long pre0_), .second, .val (.int pf), .val (.int pq), .val (.int xo), .val (.int cn), .unset, .unset, .unset, .unset, .unset, .unset, .unset, .unset, .unset, .unset, .unset, .unset, .unset, .unset, .unset] [])) _
    refine XS.iconst X0.here hx rfl (hb hby at_22) ?_
    show Steps p.tables e below (s₁.setTop (mkF m 23 #[.val (.int pa), .val (.int pb), .val (.int pc), .val (.long pre0_), .second, .val (.int pf), .val (.int pq), .val (.int xo), .val (.int cn), .unset, .unset, .unset, .unset, .unset, .unset, .unset, .unset, .unset, .unset, .unset, .unset, .unset, .unset, .unset] [(.int (3 : Int32))])) _
    refine st6 _ ?_
    show Steps p.tables e below (T6.setTop (mkF m 25 #[.val (.int pa), .val (.int pb), .val (.int pc), .val (.long pre0_), .second, .val (.int pf), .val (.int pq), .val (.int xo), .val (.int cn), .unset, .unset, .unset, .unset, .unset, .unset, .unset, .unset, .unset, .unset, .unset, .unset, .unset, .unset, .unset] [(.ref al)])) _
    refine XS.astore X6.here hx rfl (hb hby at_25) rfl rfl (l' := #[.val (.int pa), .val (.int pb), .val (.int pc), .val (.long pre0_), .second, .val (.int pf), .val (.int pq), .val (.int xo), .val (.int cn), .val (.ref al), .unset, .unset, .unset, .unset, .unset, .unset, .unset, .unset, .unset, .unset, .unset, .unset, .unset, .unset]) rfl ?_
    show Steps p.tables e below (T6.setTop (mkF m 27 #[.val (.int pa), .val (.int pb), .val (.int pc), .val (.long pre0_), .second, .val (.int pf), .val (.int pq), .val (.int xo), .val (.int cn), .val (.ref al), .unset, .unset, .unset, .unset, .unset, .unset, .unset, .unset, .unset, .unset, .unset, .unset, .unset, .unset] [])) _
    refine XS.aload X6.here hx rfl (hb hby at_27) rfl rfl ?_
    show Steps p.tables e below (T6.setTop (mkF m 29 #[.val (.int pa), .val (.int pb), .val (.int pc), .val (.long pre0_), .second, .val (.int pf), .val (.int pq), .val (.int xo), .val (.int cn), .val (.ref al), .unset, .unset, .unset, .unset, .unset, .unset, .unset, .unset, .unset, .unset, .unset, .unset, .unset, .unset] [(.ref al)])) _
    refine XS.iconst X6.here hx rfl (hb hby at_29) ?_
    show Steps p.tables e below (T6.setTop (mkF m 30 #[.val (.int pa), .val (.int pb), .val (.int pc), .val (.long pre0_), .second, .val (.int pf), .val (.int pq), .val (.int xo), .val (.int cn), .val (.ref al), .unset, .unset, .unset, .unset, .unset, .unset, .unset, .unset, .unset, .unset, .unset, .unset, .unset, .unset] [(.int (0 : Int32)), (.ref al)])) _
    refine XS.iloadN X6.here hx rfl (hb hby at_30) rfl ?_
    show Steps p.tables e below (T6.setTop (mkF m 31 #[.val (.int pa), .val (.int pb), .val (.int pc), .val (.long pre0_), .second, .val (.int pf), .val (.int pq), .val (.int xo), .val (.int cn), .val (.ref al), .unset, .unset, .unset, .unset, .unset, .unset, .unset, .unset, .unset, .unset, .unset, .unset, .unset, .unset] [(.int pa), (.int (0 : Int32)), (.ref al)])) _
    refine XS.i2c X6.here hx rfl (hb hby at_31) rfl ?_
    show Steps p.tables e below (T6.setTop (mkF m 32 #[.val (.int pa), .val (.int pb), .val (.int pc), .val (.long pre0_), .second, .val (.int pf), .val (.int pq), .val (.int xo), .val (.int cn), .val (.ref al), .unset, .unset, .unset, .unset, .unset, .unset, .unset, .unset, .unset, .unset, .unset, .unset, .unset, .unset] [(.int (pa.toUInt32.toUInt16.toUInt32.toInt32)), (.int (0 : Int32)), (.ref al)])) _
    refine st8 _ ?_
    show Steps p.tables e below (T8.setTop (mkF m 33 #[.val (.int pa), .val (.int pb), .val (.int pc), .val (.long pre0_), .second, .val (.int pf), .val (.int pq), .val (.int xo), .val (.int cn), .val (.ref al), .unset, .unset, .unset, .unset, .unset, .unset, .unset, .unset, .unset, .unset, .unset, .unset, .unset, .unset] [])) _
    refine XS.aload X8.here hx rfl (hb hby at_33) rfl rfl ?_
    show Steps p.tables e below (T8.setTop (mkF m 35 #[.val (.int pa), .val (.int pb), .val (.int pc), .val (.long pre0_), .second, .val (.int pf), .val (.int pq), .val (.int xo), .val (.int cn), .val (.ref al), .unset, .unset, .unset, .unset, .unset, .unset, .unset, .unset, .unset, .unset, .unset, .unset, .unset, .unset] [(.ref al)])) _
    refine XS.iconst X8.here hx rfl (hb hby at_35) ?_
    show Steps p.tables e below (T8.setTop (mkF m 36 #[.val (.int pa), .val (.int pb), .val (.int pc), .val (.long pre0_), .second, .val (.int pf), .val (.int pq), .val (.int xo), .val (.int cn), .val (.ref al), .unset, .unset, .unset, .unset, .unset, .unset, .unset, .unset, .unset, .unset, .unset, .unset, .unset, .unset] [(.int (1 : Int32)), (.ref al)])) _
    refine XS.iloadN X8.here hx rfl (hb hby at_36) rfl ?_
    show Steps p.tables e below (T8.setTop (mkF m 37 #[.val (.int pa), .val (.int pb), .val (.int pc), .val (.long pre0_), .second, .val (.int pf), .val (.int pq), .val (.int xo), .val (.int cn), .val (.ref al), .unset, .unset, .unset, .unset, .unset, .unset, .unset, .unset, .unset, .unset, .unset, .unset, .unset, .unset] [(.int pb), (.int (1 : Int32)), (.ref al)])) _
    refine XS.i2c X8.here hx rfl (hb hby at_37) rfl ?_
    show Steps p.tables e below (T8.setTop (mkF m 38 #[.val (.int pa), .val (.int pb), .val (.int pc), .val (.long pre0_), .second, .val (.int pf), .val (.int pq), .val (.int xo), .val (.int cn), .val (.ref al), .unset, .unset, .unset, .unset, .unset, .unset, .unset, .unset, .unset, .unset, .unset, .unset, .unset, .unset] [(.int (pb.toUInt32.toUInt16.toUInt32.toInt32)), (.int (1 : Int32)), (.ref al)])) _
    refine st12 _ ?_
    show Steps p.tables e below (T12.setTop (mkF m 39 #[.val (.int pa), .val (.int pb), .val (.int pc), .val (.long pre0_), .second, .val (.int pf), .val (.int pq), .val (.int xo), .val (.int cn), .val (.ref al), .unset, .unset, .unset, .unset, .unset, .unset, .unset, .unset, .unset, .unset, .unset, .unset, .unset, .unset] [])) _
    refine XS.aload X12.here hx rfl (hb hby at_39) rfl rfl ?_
    show Steps p.tables e below (T12.setTop (mkF m 41 #[.val (.int pa), .val (.int pb), .val (.int pc), .val (.long pre0_), .second, .val (.int pf), .val (.int pq), .val (.int xo), .val (.int cn), .val (.ref al), .unset, .unset, .unset, .unset, .unset, .unset, .unset, .unset, .unset, .unset, .unset, .unset, .unset, .unset] [(.ref al)])) _
    refine XS.iconst X12.here hx rfl (hb hby at_41) ?_
    show Steps p.tables e below (T12.setTop (mkF m 42 #[.val (.int pa), .val (.int pb), .val (.int pc), .val (.long pre0_), .second, .val (.int pf), .val (.int pq), .val (.int xo), .val (.int cn), .val (.ref al), .unset, .unset, .unset, .unset, .unset, .unset, .unset, .unset, .unset, .unset, .unset, .unset, .unset, .unset] [(.int (2 : Int32)), (.ref al)])) _
    refine XS.iloadN X12.here hx rfl (hb hby at_42) rfl ?_
    show Steps p.tables e below (T12.setTop (mkF m 43 #[.val (.int pa), .val (.int pb), .val (.int pc), .val (.long pre0_), .second, .val (.int pf), .val (.int pq), .val (.int xo), .val (.int cn), .val (.ref al), .unset, .unset, .unset, .unset, .unset, .unset, .unset, .unset, .unset, .unset, .unset, .unset, .unset, .unset] [(.int pc), (.int (2 : Int32)), (.ref al)])) _
    refine XS.i2c X12.here hx rfl (hb hby at_43) rfl ?_
    show Steps p.tables e below (T12.setTop (mkF m 44 #[.val (.int pa), .val (.int pb), .val (.int pc), .val (.long pre0_), .second, .val (.int pf), .val (.int pq), .val (.int xo), .val (.int cn), .val (.ref al), .unset, .unset, .unset, .unset, .unset, .unset, .unset, .unset, .unset, .unset, .unset, .unset, .unset, .unset] [(.int (pc.toUInt32.toUInt16.toUInt32.toInt32)), (.int (2 : Int32)), (.ref al)])) _
    refine st16 _ ?_
    show Steps p.tables e below (T16.setTop (mkF m 45 #[.val (.int pa), .val (.int pb), .val (.int pc), .val (.long pre0_), .second, .val (.int pf), .val (.int pq), .val (.int xo), .val (.int cn), .val (.ref al), .unset, .unset, .unset, .unset, .unset, .unset, .unset, .unset, .unset, .unset, .unset, .unset, .unset, .unset] [])) _
    refine XS.aload X16.here hx rfl (hb hby at_45) rfl rfl ?_
    show Steps p.tables e below (T16.setTop (mkF m 47 #[.val (.int pa), .val (.int pb), .val (.int pc), .val (.long pre0_), .second, .val (.int pf), .val (.int pq), .val (.int xo), .val (.int cn), .val (.ref al), .unset, .unset, .unset, .unset, .unset, .unset, .unset, .unset, .unset, .unset, .unset, .unset, .unset, .unset] [(.ref al)])) _
    refine XS.iconst X16.here hx rfl (hb hby at_47) ?_
    show Steps p.tables e below (T16.setTop (mkF m 48 #[.val (.int pa), .val (.int pb), .val (.int pc), .val (.long pre0_), .second, .val (.int pf), .val (.int pq), .val (.int xo), .val (.int cn), .val (.ref al), .unset, .unset, .unset, .unset, .unset, .unset, .unset, .unset, .unset, .unset, .unset, .unset, .unset, .unset] [(.int (0 : Int32)), (.ref al)])) _
    refine owLdC (k := 0) X16 hx hZ hE16 V16 (j := (0 : Int32)) rfl (by decide) (g := (mkF m 48 #[.val (.int pa), .val (.int pb), .val (.int pc), .val (.long pre0_), .second, .val (.int pf), .val (.int pq), .val (.int xo), .val (.int cn), .val (.ref al), .unset, .unset, .unset, .unset, .unset, .unset, .unset, .unset, .unset, .unset, .unset, .unset, .unset, .unset] [(.int (0 : Int32)), (.ref al)])) rfl rfl (hb hby at_48) _ ?_
    show Steps p.tables e below (T16.setTop (mkF m 49 #[.val (.int pa), .val (.int pb), .val (.int pc), .val (.long pre0_), .second, .val (.int pf), .val (.int pq), .val (.int xo), .val (.int cn), .val (.ref al), .unset, .unset, .unset, .unset, .unset, .unset, .unset, .unset, .unset, .unset, .unset, .unset, .unset, .unset] [(.int (fl 0))])) _
    refine XS.bipush X16.here hx rfl (hb hby at_49) ?_
    show Steps p.tables e below (T16.setTop (mkF m 51 #[.val (.int pa), .val (.int pb), .val (.int pc), .val (.long pre0_), .second, .val (.int pf), .val (.int pq), .val (.int xo), .val (.int cn), .val (.ref al), .unset, .unset, .unset, .unset, .unset, .unset, .unset, .unset, .unset, .unset, .unset, .unset, .unset, .unset] [(.int (64 : Int32)), (.int (fl 0))])) _
    refine XS.idiv X16.here hx rfl (hb hby at_51) rfl (by decide) ?_
    exact kt
  obtain ⟨wa, h_wa⟩ : ∃ z : Int32, z = ((fl 0) / (64 : Int32)) := ⟨_, rfl⟩
  have pre21 : ∀ t, Steps p.tables e below (T16.setTop (mkF m 52 #[.val (.int pa), .val (.int pb), .val (.int pc), .val (.long pre0_), .second, .val (.int pf), .val (.int pq), .val (.int xo), .val (.int cn), .val (.ref al), .unset, .unset, .unset, .unset, .unset, .unset, .unset, .unset, .unset, .unset, .unset, .unset, .unset, .unset] [(.int wa)])) t → Steps p.tables e below (s₁.setTop (entryFrame m #[(.int pa), (.int pb), (.int pc), (.long pre0_), (.int pf), (.int pq)] maxLocals)) t := by
    intro t kt
    rw [h_wa] at kt
    exact pre20 _ kt
  have pre22 : ∀ t, Steps p.tables e below (T16.setTop (mkF m 61 #[.val (.int pa), .val (.int pb), .val (.int pc), .val (.long pre0_), .second, .val (.int pf), .val (.int pq), .val (.int xo), .val (.int cn), .val (.ref al), .val (.int wa), .unset, .unset, .unset, .unset, .unset, .unset, .unset, .unset, .unset, .unset, .unset, .unset, .unset] [(.int ((fl 1) / (64 : Int32)))])) t → Steps p.tables e below (s₁.setTop (entryFrame m #[(.int pa), (.int pb), (.int pc), (.long pre0_), (.int pf), (.int pq)] maxLocals)) t := by
    intro t kt
    refine pre21 _ ?_
    show Steps p.tables e below (T16.setTop (mkF m 52 #[.val (.int pa), .val (.int pb), .val (.int pc), .val (.long pre0_), .second, .val (.int pf), .val (.int pq), .val (.int xo), .val (.int cn), .val (.ref al), .unset, .unset, .unset, .unset, .unset, .unset, .unset, .unset, .unset, .unset, .unset, .unset, .unset, .unset] [(.int wa)])) _
    refine XS.istore X16.here hx rfl (hb hby at_52) rfl (l' := #[.val (.int pa), .val (.int pb), .val (.int pc), .val (.long pre0_), .second, .val (.int pf), .val (.int pq), .val (.int xo), .val (.int cn), .val (.ref al), .val (.int wa), .unset, .unset, .unset, .unset, .unset, .unset, .unset, .unset, .unset, .unset, .unset, .unset, .unset]) rfl ?_
    show Steps p.tables e below (T16.setTop (mkF m 54 #[.val (.int pa), .val (.int pb), .val (.int pc), .val (.long pre0_), .second, .val (.int pf), .val (.int pq), .val (.int xo), .val (.int cn), .val (.ref al), .val (.int wa), .unset, .unset, .unset, .unset, .unset, .unset, .unset, .unset, .unset, .unset, .unset, .unset, .unset] [])) _
    refine XS.aload X16.here hx rfl (hb hby at_54) rfl rfl ?_
    show Steps p.tables e below (T16.setTop (mkF m 56 #[.val (.int pa), .val (.int pb), .val (.int pc), .val (.long pre0_), .second, .val (.int pf), .val (.int pq), .val (.int xo), .val (.int cn), .val (.ref al), .val (.int wa), .unset, .unset, .unset, .unset, .unset, .unset, .unset, .unset, .unset, .unset, .unset, .unset, .unset] [(.ref al)])) _
    refine XS.iconst X16.here hx rfl (hb hby at_56) ?_
    show Steps p.tables e below (T16.setTop (mkF m 57 #[.val (.int pa), .val (.int pb), .val (.int pc), .val (.long pre0_), .second, .val (.int pf), .val (.int pq), .val (.int xo), .val (.int cn), .val (.ref al), .val (.int wa), .unset, .unset, .unset, .unset, .unset, .unset, .unset, .unset, .unset, .unset, .unset, .unset, .unset] [(.int (1 : Int32)), (.ref al)])) _
    refine owLdC (k := 1) X16 hx hZ hE16 V16 (j := (1 : Int32)) rfl (by decide) (g := (mkF m 57 #[.val (.int pa), .val (.int pb), .val (.int pc), .val (.long pre0_), .second, .val (.int pf), .val (.int pq), .val (.int xo), .val (.int cn), .val (.ref al), .val (.int wa), .unset, .unset, .unset, .unset, .unset, .unset, .unset, .unset, .unset, .unset, .unset, .unset, .unset] [(.int (1 : Int32)), (.ref al)])) rfl rfl (hb hby at_57) _ ?_
    show Steps p.tables e below (T16.setTop (mkF m 58 #[.val (.int pa), .val (.int pb), .val (.int pc), .val (.long pre0_), .second, .val (.int pf), .val (.int pq), .val (.int xo), .val (.int cn), .val (.ref al), .val (.int wa), .unset, .unset, .unset, .unset, .unset, .unset, .unset, .unset, .unset, .unset, .unset, .unset, .unset] [(.int (fl 1))])) _
    refine XS.bipush X16.here hx rfl (hb hby at_58) ?_
    show Steps p.tables e below (T16.setTop (mkF m 60 #[.val (.int pa), .val (.int pb), .val (.int pc), .val (.long pre0_), .second, .val (.int pf), .val (.int pq), .val (.int xo), .val (.int cn), .val (.ref al), .val (.int wa), .unset, .unset, .unset, .unset, .unset, .unset, .unset, .unset, .unset, .unset, .unset, .unset, .unset] [(.int (64 : Int32)), (.int (fl 1))])) _
    refine XS.idiv X16.here hx rfl (hb hby at_60) rfl (by decide) ?_
    exact kt
  obtain ⟨wb, h_wb⟩ : ∃ z : Int32, z = ((fl 1) / (64 : Int32)) := ⟨_, rfl⟩
  have pre23 : ∀ t, Steps p.tables e below (T16.setTop (mkF m 61 #[.val (.int pa), .val (.int pb), .val (.int pc), .val (.long pre0_), .second, .val (.int pf), .val (.int pq), .val (.int xo), .val (.int cn), .val (.ref al), .val (.int wa), .unset, .unset, .unset, .unset, .unset, .unset, .unset, .unset, .unset, .unset, .unset, .unset, .unset] [(.int wb)])) t → Steps p.tables e below (s₁.setTop (entryFrame m #[(.int pa), (.int pb), (.int pc), (.long pre0_), (.int pf), (.int pq)] maxLocals)) t := by
    intro t kt
    rw [h_wb] at kt
    exact pre22 _ kt
  have pre24 : ∀ t, Steps p.tables e below (T16.setTop (mkF m 70 #[.val (.int pa), .val (.int pb), .val (.int pc), .val (.long pre0_), .second, .val (.int pf), .val (.int pq), .val (.int xo), .val (.int cn), .val (.ref al), .val (.int wa), .val (.int wb), .unset, .unset, .unset, .unset, .unset, .unset, .unset, .unset, .unset, .unset, .unset, .unset] [(.int ((fl 2) / (64 : Int32)))])) t → Steps p.tables e below (s₁.setTop (entryFrame m #[(.int pa), (.int pb), (.int pc), (.long pre0_), (.int pf), (.int pq)] maxLocals)) t := by
    intro t kt
    refine pre23 _ ?_
    show Steps p.tables e below (T16.setTop (mkF m 61 #[.val (.int pa), .val (.int pb), .val (.int pc), .val (.long pre0_), .second, .val (.int pf), .val (.int pq), .val (.int xo), .val (.int cn), .val (.ref al), .val (.int wa), .unset, .unset, .unset, .unset, .unset, .unset, .unset, .unset, .unset, .unset, .unset, .unset, .unset] [(.int wb)])) _
    refine XS.istore X16.here hx rfl (hb hby at_61) rfl (l' := #[.val (.int pa), .val (.int pb), .val (.int pc), .val (.long pre0_), .second, .val (.int pf), .val (.int pq), .val (.int xo), .val (.int cn), .val (.ref al), .val (.int wa), .val (.int wb), .unset, .unset, .unset, .unset, .unset, .unset, .unset, .unset, .unset, .unset, .unset, .unset]) rfl ?_
    show Steps p.tables e below (T16.setTop (mkF m 63 #[.val (.int pa), .val (.int pb), .val (.int pc), .val (.long pre0_), .second, .val (.int pf), .val (.int pq), .val (.int xo), .val (.int cn), .val (.ref al), .val (.int wa), .val (.int wb), .unset, .unset, .unset, .unset, .unset, .unset, .unset, .unset, .unset, .unset, .unset, .unset] [])) _
    refine XS.aload X16.here hx rfl (hb hby at_63) rfl rfl ?_
    show Steps p.tables e below (T16.setTop (mkF m 65 #[.val (.int pa), .val (.int pb), .val (.int pc), .val (.long pre0_), .second, .val (.int pf), .val (.int pq), .val (.int xo), .val (.int cn), .val (.ref al), .val (.int wa), .val (.int wb), .unset, .unset, .unset, .unset, .unset, .unset, .unset, .unset, .unset, .unset, .unset, .unset] [(.ref al)])) _
    refine XS.iconst X16.here hx rfl (hb hby at_65) ?_
    show Steps p.tables e below (T16.setTop (mkF m 66 #[.val (.int pa), .val (.int pb), .val (.int pc), .val (.long pre0_), .second, .val (.int pf), .val (.int pq), .val (.int xo), .val (.int cn), .val (.ref al), .val (.int wa), .val (.int wb), .unset, .unset, .unset, .unset, .unset, .unset, .unset, .unset, .unset, .unset, .unset, .unset] [(.int (2 : Int32)), (.ref al)])) _
    refine owLdC (k := 2) X16 hx hZ hE16 V16 (j := (2 : Int32)) rfl (by decide) (g := (mkF m 66 #[.val (.int pa), .val (.int pb), .val (.int pc), .val (.long pre0_), .second, .val (.int pf), .val (.int pq), .val (.int xo), .val (.int cn), .val (.ref al), .val (.int wa), .val (.int wb), .unset, .unset, .unset, .unset, .unset, .unset, .unset, .unset, .unset, .unset, .unset, .unset] [(.int (2 : Int32)), (.ref al)])) rfl rfl (hb hby at_66) _ ?_
    show Steps p.tables e below (T16.setTop (mkF m 67 #[.val (.int pa), .val (.int pb), .val (.int pc), .val (.long pre0_), .second, .val (.int pf), .val (.int pq), .val (.int xo), .val (.int cn), .val (.ref al), .val (.int wa), .val (.int wb), .unset, .unset, .unset, .unset, .unset, .unset, .unset, .unset, .unset, .unset, .unset, .unset] [(.int (fl 2))])) _
    refine XS.bipush X16.here hx rfl (hb hby at_67) ?_
    show Steps p.tables e below (T16.setTop (mkF m 69 #[.val (.int pa), .val (.int pb), .val (.int pc), .val (.long pre0_), .second, .val (.int pf), .val (.int pq), .val (.int xo), .val (.int cn), .val (.ref al), .val (.int wa), .val (.int wb), .unset, .unset, .unset, .unset, .unset, .unset, .unset, .unset, .unset, .unset, .unset, .unset] [(.int (64 : Int32)), (.int (fl 2))])) _
    refine XS.idiv X16.here hx rfl (hb hby at_69) rfl (by decide) ?_
    exact kt
  obtain ⟨wc, h_wc⟩ : ∃ z : Int32, z = ((fl 2) / (64 : Int32)) := ⟨_, rfl⟩
  have pre25 : ∀ t, Steps p.tables e below (T16.setTop (mkF m 70 #[.val (.int pa), .val (.int pb), .val (.int pc), .val (.long pre0_), .second, .val (.int pf), .val (.int pq), .val (.int xo), .val (.int cn), .val (.ref al), .val (.int wa), .val (.int wb), .unset, .unset, .unset, .unset, .unset, .unset, .unset, .unset, .unset, .unset, .unset, .unset] [(.int wc)])) t → Steps p.tables e below (s₁.setTop (entryFrame m #[(.int pa), (.int pb), (.int pc), (.long pre0_), (.int pf), (.int pq)] maxLocals)) t := by
    intro t kt
    rw [h_wc] at kt
    exact pre24 _ kt
  have pre26 : ∀ t, Steps p.tables e below (T16.setTop (mkF m 78 #[.val (.int pa), .val (.int pb), .val (.int pc), .val (.long pre0_), .second, .val (.int pf), .val (.int pq), .val (.int xo), .val (.int cn), .val (.ref al), .val (.int wa), .val (.int wb), .val (.int wc), .unset, .unset, .unset, .unset, .unset, .unset, .unset, .unset, .unset, .unset, .unset] [(.int (pq &&& (1023 : Int32)))])) t → Steps p.tables e below (s₁.setTop (entryFrame m #[(.int pa), (.int pb), (.int pc), (.long pre0_), (.int pf), (.int pq)] maxLocals)) t := by
    intro t kt
    refine pre25 _ ?_
    show Steps p.tables e below (T16.setTop (mkF m 70 #[.val (.int pa), .val (.int pb), .val (.int pc), .val (.long pre0_), .second, .val (.int pf), .val (.int pq), .val (.int xo), .val (.int cn), .val (.ref al), .val (.int wa), .val (.int wb), .unset, .unset, .unset, .unset, .unset, .unset, .unset, .unset, .unset, .unset, .unset, .unset] [(.int wc)])) _
    refine XS.istore X16.here hx rfl (hb hby at_70) rfl (l' := #[.val (.int pa), .val (.int pb), .val (.int pc), .val (.long pre0_), .second, .val (.int pf), .val (.int pq), .val (.int xo), .val (.int cn), .val (.ref al), .val (.int wa), .val (.int wb), .val (.int wc), .unset, .unset, .unset, .unset, .unset, .unset, .unset, .unset, .unset, .unset, .unset]) rfl ?_
    show Steps p.tables e below (T16.setTop (mkF m 72 #[.val (.int pa), .val (.int pb), .val (.int pc), .val (.long pre0_), .second, .val (.int pf), .val (.int pq), .val (.int xo), .val (.int cn), .val (.ref al), .val (.int wa), .val (.int wb), .val (.int wc), .unset, .unset, .unset, .unset, .unset, .unset, .unset, .unset, .unset, .unset, .unset] [])) _
    refine XS.iload X16.here hx rfl (hb hby at_72) rfl ?_
    show Steps p.tables e below (T16.setTop (mkF m 74 #[.val (.int pa), .val (.int pb), .val (.int pc), .val (.long pre0_), .second, .val (.int pf), .val (.int pq), .val (.int xo), .val (.int cn), .val (.ref al), .val (.int wa), .val (.int wb), .val (.int wc), .unset, .unset, .unset, .unset, .unset, .unset, .unset, .unset, .unset, .unset, .unset] [(.int pq)])) _
    refine XS.sipush X16.here hx rfl (hb hby at_74) ?_
    show Steps p.tables e below (T16.setTop (mkF m 77 #[.val (.int pa), .val (.int pb), .val (.int pc), .val (.long pre0_), .second, .val (.int pf), .val (.int pq), .val (.int xo), .val (.int cn), .val (.ref al), .val (.int wa), .val (.int wb), .val (.int wc), .unset, .unset, .unset, .unset, .unset, .unset, .unset, .unset, .unset, .unset, .unset] [(.int (1023 : Int32)), (.int pq)])) _
    refine XS.iand X16.here hx rfl (hb hby at_77) rfl ?_
    exact kt
  obtain ⟨wq, h_wq⟩ : ∃ z : Int32, z = (pq &&& (1023 : Int32)) := ⟨_, rfl⟩
  have pre27 : ∀ t, Steps p.tables e below (T16.setTop (mkF m 78 #[.val (.int pa), .val (.int pb), .val (.int pc), .val (.long pre0_), .second, .val (.int pf), .val (.int pq), .val (.int xo), .val (.int cn), .val (.ref al), .val (.int wa), .val (.int wb), .val (.int wc), .unset, .unset, .unset, .unset, .unset, .unset, .unset, .unset, .unset, .unset, .unset] [(.int wq)])) t → Steps p.tables e below (s₁.setTop (entryFrame m #[(.int pa), (.int pb), (.int pc), (.long pre0_), (.int pf), (.int pq)] maxLocals)) t := by
    intro t kt
    rw [h_wq] at kt
    exact pre26 _ kt
  obtain ⟨kq, h_kq, h_kq2⟩ := own_kq pq wq h_wq
  have hcn := own_cn pf cn h_cn
  obtain ⟨T28, gh28, k28, X28, hE28, E28, A28, st28⟩ := newP X16 hx hZ (hw _ (List.mem_of_getElem? (i := 1) rfl)) hE16 (g := (mkF m 83 #[.val (.int pa), .val (.int pb), .val (.int pc), .val (.long pre0_), .second, .val (.int pf), .val (.int pq), .val (.int xo), .val (.int cn), .val (.ref al), .val (.int wa), .val (.int wb), .val (.int wc), .val (.int wq), .unset, .unset, .unset, .unset, .unset, .unset, .unset, .unset, .unset, .unset] [(.int (1024 : Int32))])) rfl (hb hby at_83) rfl (by decide) (cap := 1024) (by decide) (by decide) (by decide) (by decide)
  obtain ⟨aw, g28⟩ : ∃ z, z = gh16.size := ⟨_, rfl⟩
  rw [← g28] at A28 st28
  have ne_al_aw : al ≠ aw := Nat.ne_of_lt (Nat.lt_of_lt_of_le V16.lt (Nat.le_of_eq g28.symm))
  have g_aw : n0 ≤ aw := Nat.le_trans Z18 (Nat.le_of_eq g28.symm)
  have f29 := V16.ext E28
  have Z30 := Nat.le_trans Z18 E28.1
  have V28 : owAJ Z gh28 aw .long 1024 (fun _ => 0) := owAJ.new A28 rfl rfl
  obtain ⟨T31, gh31, X31, hE31, W31, V31, st31⟩ := owStJ X28 hx hZ hE28 V28 (k := (own_kx (fl 0))) (j := wa) (own_kd (hfl 0 (by decide)) h_wa) (own_kx2 (hfl 0 (by decide))) (g := (mkF m 92 #[.val (.int pa), .val (.int pb), .val (.int pc), .val (.long pre0_), .second, .val (.int pf), .val (.int pq), .val (.int xo), .val (.int cn), .val (.ref al), .val (.int wa), .val (.int wb), .val (.int wc), .val (.int wq), .val (.ref aw), .unset, .unset, .unset, .unset, .unset, .unset, .unset, .unset, .unset] [(.long pre0_), (.int wa), (.ref aw)])) rfl rfl (hb hby at_92)
  have f32 := f29.other W31 ne_al_aw
  have Z34 := Nat.le_trans Z30 (Keep.of_wr W31).1
  have N35 := Fr.snoc X31 N19 g_aw
  obtain ⟨fz, h_fz⟩ : ∃ g : Nat → Int64, g = (owUp (fun _ => 0) (own_kx (fl 0)) pre0_) := ⟨_, rfl⟩
  rw [← h_fz] at V31
  obtain ⟨_, _, ⟨T36, L36, k36, n36⟩, -, X36, ⟨Lc36, hQ36, l36, y36, z36⟩, st36⟩ := Jvm.LawKit.callS X31 hx (y := (⟨"com/example/bitweight/bitweight/chunk/WordChunk", "of", "([J)Lcom/example/bitweight/bitweight/chunk/WordChunk;"⟩ : MethodName)) hown (mvT hZ (hw _ (List.mem_of_getElem? (i := 2) rfl))) (mvT hZ (hw _ (List.mem_of_getElem? (i := 3) rfl))) (mvT hZ (hw _ (List.mem_of_getElem? (i := 4) rfl))) (mvT hZ (hw _ (List.mem_of_getElem? (i := 5) rfl))) (by decide) (backOf (W := 0) (rm1 l Z a0 hw [] aw fz gh31 n0 Z34 V31) hZ (hw _ (List.mem_of_getElem? (i := 5) rfl)) (hw _ (List.mem_of_getElem? (i := 4) rfl)) (by decide) (by decide)) (g := (mkF m 95 #[.val (.int pa), .val (.int pb), .val (.int pc), .val (.long pre0_), .second, .val (.int pf), .val (.int pq), .val (.int xo), .val (.int cn), .val (.ref al), .val (.int wa), .val (.int wb), .val (.int wc), .val (.int wq), .val (.ref aw), .unset, .unset, .unset, .unset, .unset, .unset, .unset, .unset, .unset] [(.ref aw)])) rfl (by rw [hml]; rfl) (argsL := [(.ref aw)]) (rest := []) (lenOf pd_5 rfl) rfl (by show 2 * 0 + _ ≤ _; exact Nat.le_of_eq rfl) (hb hby at_95) (fun _ _ => ⟨rfl, hE31, (by decide : 2 + 1 ≤ _), (by decide : 1027 + 3 ≤ _)⟩)
  dsimp only [Pt.U, Pt.locs, Pt.cells, Pt.slots] at X36 l36 y36 z36 st36 hQ36
  subst l36 y36 z36
  obtain ⟨bo, rfl, N36q, K36, h_bo, p36_E, p36_w⟩ := hQ36
  have N36 := Fr.app N35 N36q
  have ne_al_bo : al ≠ bo := Nat.ne_of_lt (Nat.lt_of_lt_of_le f32.lt h_bo)
  have ne_aw_bo : aw ≠ bo := Nat.ne_of_lt (Nat.lt_of_lt_of_le V31.lt h_bo)
  have g_bo : n0 ≤ bo := Nat.le_trans Z34 h_bo
  have f37 := f32.keep K36 nin0
  have f38 := V31.keep K36 nin0
  have Z39 := Nat.le_trans Z34 K36.1
  obtain ⟨_, _, ⟨T40, L40, k40, n40⟩, -, X40, ⟨Lc40, hQ40, l40, y40, z40⟩, st40⟩ := Jvm.LawKit.callS X36 hx (y := (⟨"com/example/bitweight/bitweight/chunk/WordChunkTakeInPinLaw", "expect", "(IIJ[CIZ)J"⟩ : MethodName)) hown (mvT hZ (hw _ (List.mem_of_getElem? (i := 40) rfl))) (mvT hZ (hw _ (List.mem_of_getElem? (i := 41) rfl))) (mvT hZ (hw _ (List.mem_of_getElem? (i := 42) rfl))) (mvT hZ (hw _ (List.mem_of_getElem? (i := 43) rfl))) (by decide) (backOf (W := 0) (rm8 l Z a0 hw [] wa wa pre0_ al cn xo fl T36.heap n0 Z39 f37) hZ (hw _ (List.mem_of_getElem? (i := 43) rfl)) (hw _ (List.mem_of_getElem? (i := 42) rfl)) (by decide) (by decide)) (g := (mkF m 111 #[.val (.int pa), .val (.int pb), .val (.int pc), .val (.long pre0_), .second, .val (.int pf), .val (.int pq), .val (.int xo), .val (.int cn), .val (.ref al), .val (.int wa), .val (.int wb), .val (.int wc), .val (.int wq), .val (.ref aw), .val (.ref bo), .unset, .unset, .unset, .unset, .unset, .unset, .unset, .unset] [(.int xo), (.int cn), (.ref al), (.long pre0_), (.int wa), (.int wa)])) rfl (by rw [hml]; rfl) (argsL := [(.int wa), (.int wa), (.long pre0_), (.ref al), (.int cn), (.int xo)]) (rest := []) (lenOf pd_6 rfl) rfl (by show 2 * 0 + _ ≤ _; exact Nat.le_of_eq rfl) (hb hby at_111) (fun _ _ => ⟨rfl, rfl, (by decide : 3 + 0 ≤ _), (by decide : 1030 + 0 ≤ _)⟩)
  dsimp only [Pt.U, Pt.locs, Pt.cells, Pt.slots] at X40 l40 y40 z40 st40 hQ40
  subst l40 y40 z40
  obtain ⟨rfl, N40q, hE40⟩ := hQ40
  have N40 := Fr.app N36 N40q
  have pre41 : ∀ t, Steps p.tables e below (T40.setTop (mkF m 114 #[.val (.int pa), .val (.int pb), .val (.int pc), .val (.long pre0_), .second, .val (.int pf), .val (.int pq), .val (.int xo), .val (.int cn), .val (.ref al), .val (.int wa), .val (.int wb), .val (.int wc), .val (.int wq), .val (.ref aw), .val (.ref bo), .unset, .unset, .unset, .unset, .unset, .unset, .unset, .unset] [(.long (fn8 wa wa pre0_ al cn xo fl))])) t → Steps p.tables e below (s₁.setTop (entryFrame m #[(.int pa), (.int pb), (.int pc), (.long pre0_), (.int pf), (.int pq)] maxLocals)) t := by
    intro t kt
    refine pre27 _ ?_
    show Steps p.tables e below (T16.setTop (mkF m 78 #[.val (.int pa), .val (.int pb), .val (.int pc), .val (.long pre0_), .second, .val (.int pf), .val (.int pq), .val (.int xo), .val (.int cn), .val (.ref al), .val (.int wa), .val (.int wb), .val (.int wc), .unset, .unset, .unset, .unset, .unset, .unset, .unset, .unset, .unset, .unset, .unset] [(.int wq)])) _
    refine XS.istore X16.here hx rfl (hb hby at_78) rfl (l' := #[.val (.int pa), .val (.int pb), .val (.int pc), .val (.long pre0_), .second, .val (.int pf), .val (.int pq), .val (.int xo), .val (.int cn), .val (.ref al), .val (.int wa), .val (.int wb), .val (.int wc), .val (.int wq), .unset, .unset, .unset, .unset, .unset, .unset, .unset, .unset, .unset, .unset]) rfl ?_
    show Steps p.tables e below (T16.setTop (mkF m 80 #[.val (.int pa), .val (.int pb), .val (.int pc), .val (.long pre0_), .second, .val (.int pf), .val (.int pq), .val (.int xo), .val (.int cn), .val (.ref al), .val (.int wa), .val (.int wb), .val (.int wc), .val (.int wq), .unset, .unset, .unset, .unset, .unset, .unset, .unset, .unset, .unset, .unset] [])) _
    refine XS.sipush X16.here hx rfl (hb hby at_80) ?_
    show Steps p.tables e below (T16.setTop (mkF m 83 #[.val (.int pa), .val (.int pb), .val (.int pc), .val (.long pre0_), .second, .val (.int pf), .val (.int pq), .val (.int xo), .val (.int cn), .val (.ref al), .val (.int wa), .val (.int wb), .val (.int wc), .val (.int wq), .unset, .unset, .unset, .unset, .unset, .unset, .unset, .unset, .unset, .unset] [(.int (1024 : Int32))])) _
    refine st28 _ ?_
    show Steps p.tables e below (T28.setTop (mkF m 85 #[.val (.int pa), .val (.int pb), .val (.int pc), .val (.long pre0_), .second, .val (.int pf), .val (.int pq), .val (.int xo), .val (.int cn), .val (.ref al), .val (.int wa), .val (.int wb), .val (.int wc), .val (.int wq), .unset, .unset, .unset, .unset, .unset, .unset, .unset, .unset, .unset, .unset] [(.ref aw)])) _
    refine XS.astore X28.here hx rfl (hb hby at_85) rfl rfl (l' := #[.val (.int pa), .val (.int pb), .val (.int pc), .val (.long pre0_), .second, .val (.int pf), .val (.int pq), .val (.int xo), .val (.int cn), .val (.ref al), .val (.int wa), .val (.int wb), .val (.int wc), .val (.int wq), .val (.ref aw), .unset, .unset, .unset, .unset, .unset, .unset, .unset, .unset, .unset]) rfl ?_
    show Steps p.tables e below (T28.setTop (mkF m 87 #[.val (.int pa), .val (.int pb), .val (.int pc), .val (.long pre0_), .second, .val (.int pf), .val (.int pq), .val (.int xo), .val (.int cn), .val (.ref al), .val (.int wa), .val (.int wb), .val (.int wc), .val (.int wq), .val (.ref aw), .unset, .unset, .unset, .unset, .unset, .unset, .unset, .unset, .unset] [])) _
    refine XS.aload X28.here hx rfl (hb hby at_87) rfl rfl ?_
    show Steps p.tables e below (T28.setTop (mkF m 89 #[.val (.int pa), .val (.int pb), .val (.int pc), .val (.long pre0_), .second, .val (.int pf), .val (.int pq), .val (.int xo), .val (.int cn), .val (.ref al), .val (.int wa), .val (.int wb), .val (.int wc), .val (.int wq), .val (.ref aw), .unset, .unset, .unset, .unset, .unset, .unset, .unset, .unset, .unset] [(.ref aw)])) _
    refine XS.iload X28.here hx rfl (hb hby at_89) rfl ?_
    show Steps p.tables e below (T28.setTop (mkF m 91 #[.val (.int pa), .val (.int pb), .val (.int pc), .val (.long pre0_), .second, .val (.int pf), .val (.int pq), .val (.int xo), .val (.int cn), .val (.ref al), .val (.int wa), .val (.int wb), .val (.int wc), .val (.int wq), .val (.ref aw), .unset, .unset, .unset, .unset, .unset, .unset, .unset, .unset, .unset] [(.int wa), (.ref aw)])) _
    refine XS.lloadN X28.here hx rfl (hb hby at_91) rfl ?_
    show Steps p.tables e below (T28.setTop (mkF m 92 #[.val (.int pa), .val (.int pb), .val (.int pc), .val (.long pre0_), .second, .val (.int pf), .val (.int pq), .val (.int xo), .val (.int cn), .val (.ref al), .val (.int wa), .val (.int wb), .val (.int wc), .val (.int wq), .val (.ref aw), .unset, .unset, .unset, .unset, .unset, .unset, .unset, .unset, .unset] [(.long pre0_), (.int wa), (.ref aw)])) _
    refine st31 _ ?_
    show Steps p.tables e below (T31.setTop (mkF m 93 #[.val (.int pa), .val (.int pb), .val (.int pc), .val (.long pre0_), .second, .val (.int pf), .val (.int pq), .val (.int xo), .val (.int cn), .val (.ref al), .val (.int wa), .val (.int wb), .val (.int wc), .val (.int wq), .val (.ref aw), .unset, .unset, .unset, .unset, .unset, .unset, .unset, .unset, .unset] [])) _
    refine XS.aload X31.here hx rfl (hb hby at_93) rfl rfl ?_
    show Steps p.tables e below (T31.setTop (mkF m 95 #[.val (.int pa), .val (.int pb), .val (.int pc), .val (.long pre0_), .second, .val (.int pf), .val (.int pq), .val (.int xo), .val (.int cn), .val (.ref al), .val (.int wa), .val (.int wb), .val (.int wc), .val (.int wq), .val (.ref aw), .unset, .unset, .unset, .unset, .unset, .unset, .unset, .unset, .unset] [(.ref aw)])) _
    refine st36 _ ?_
    show Steps p.tables e below (T36.setTop (mkF m 98 #[.val (.int pa), .val (.int pb), .val (.int pc), .val (.long pre0_), .second, .val (.int pf), .val (.int pq), .val (.int xo), .val (.int cn), .val (.ref al), .val (.int wa), .val (.int wb), .val (.int wc), .val (.int wq), .val (.ref aw), .unset, .unset, .unset, .unset, .unset, .unset, .unset, .unset, .unset] [(.ref bo)])) _
    refine XS.astore X36.here hx rfl (hb hby at_98) rfl rfl (l' := #[.val (.int pa), .val (.int pb), .val (.int pc), .val (.long pre0_), .second, .val (.int pf), .val (.int pq), .val (.int xo), .val (.int cn), .val (.ref al), .val (.int wa), .val (.int wb), .val (.int wc), .val (.int wq), .val (.ref aw), .val (.ref bo), .unset, .unset, .unset, .unset, .unset, .unset, .unset, .unset]) rfl ?_
    show Steps p.tables e below (T36.setTop (mkF m 100 #[.val (.int pa), .val (.int pb), .val (.int pc), .val (.long pre0_), .second, .val (.int pf), .val (.int pq), .val (.int xo), .val (.int cn), .val (.ref al), .val (.int wa), .val (.int wb), .val (.int wc), .val (.int wq), .val (.ref aw), .val (.ref bo), .unset, .unset, .unset, .unset, .unset, .unset, .unset, .unset] [])) _
    refine XS.iload X36.here hx rfl (hb hby at_100) rfl ?_
    show Steps p.tables e below (T36.setTop (mkF m 102 #[.val (.int pa), .val (.int pb), .val (.int pc), .val (.long pre0_), .second, .val (.int pf), .val (.int pq), .val (.int xo), .val (.int cn), .val (.ref al), .val (.int wa), .val (.int wb), .val (.int wc), .val (.int wq), .val (.ref aw), .val (.ref bo), .unset, .unset, .unset, .unset, .unset, .unset, .unset, .unset] [(.int wa)])) _
    refine XS.iload X36.here hx rfl (hb hby at_102) rfl ?_
    show Steps p.tables e below (T36.setTop (mkF m 104 #[.val (.int pa), .val (.int pb), .val (.int pc), .val (.long pre0_), .second, .val (.int pf), .val (.int pq), .val (.int xo), .val (.int cn), .val (.ref al), .val (.int wa), .val (.int wb), .val (.int wc), .val (.int wq), .val (.ref aw), .val (.ref bo), .unset, .unset, .unset, .unset, .unset, .unset, .unset, .unset] [(.int wa), (.int wa)])) _
    refine XS.lloadN X36.here hx rfl (hb hby at_104) rfl ?_
    show Steps p.tables e below (T36.setTop (mkF m 105 #[.val (.int pa), .val (.int pb), .val (.int pc), .val (.long pre0_), .second, .val (.int pf), .val (.int pq), .val (.int xo), .val (.int cn), .val (.ref al), .val (.int wa), .val (.int wb), .val (.int wc), .val (.int wq), .val (.ref aw), .val (.ref bo), .unset, .unset, .unset, .unset, .unset, .unset, .unset, .unset] [(.long pre0_), (.int wa), (.int wa)])) _
    refine XS.aload X36.here hx rfl (hb hby at_105) rfl rfl ?_
    show Steps p.tables e below (T36.setTop (mkF m 107 #[.val (.int pa), .val (.int pb), .val (.int pc), .val (.long pre0_), .second, .val (.int pf), .val (.int pq), .val (.int xo), .val (.int cn), .val (.ref al), .val (.int wa), .val (.int wb), .val (.int wc), .val (.int wq), .val (.ref aw), .val (.ref bo), .unset, .unset, .unset, .unset, .unset, .unset, .unset, .unset] [(.ref al), (.long pre0_), (.int wa), (.int wa)])) _
    refine XS.iload X36.here hx rfl (hb hby at_107) rfl ?_
    show Steps p.tables e below (T36.setTop (mkF m 109 #[.val (.int pa), .val (.int pb), .val (.int pc), .val (.long pre0_), .second, .val (.int pf), .val (.int pq), .val (.int xo), .val (.int cn), .val (.ref al), .val (.int wa), .val (.int wb), .val (.int wc), .val (.int wq), .val (.ref aw), .val (.ref bo), .unset, .unset, .unset, .unset, .unset, .unset, .unset, .unset] [(.int cn), (.ref al), (.long pre0_), (.int wa), (.int wa)])) _
    refine XS.iload X36.here hx rfl (hb hby at_109) rfl ?_
    show Steps p.tables e below (T36.setTop (mkF m 111 #[.val (.int pa), .val (.int pb), .val (.int pc), .val (.long pre0_), .second, .val (.int pf), .val (.int pq), .val (.int xo), .val (.int cn), .val (.ref al), .val (.int wa), .val (.int wb), .val (.int wc), .val (.int wq), .val (.ref aw), .val (.ref bo), .unset, .unset, .unset, .unset, .unset, .unset, .unset, .unset] [(.int xo), (.int cn), (.ref al), (.long pre0_), (.int wa), (.int wa)])) _
    refine st40 _ ?_
    exact kt
  obtain ⟨ea, h_ea⟩ : ∃ z : Int64, z = (fn8 wa wa pre0_ al cn xo fl) := ⟨_, rfl⟩
  have pre42 : ∀ t, Steps p.tables e below (T40.setTop (mkF m 114 #[.val (.int pa), .val (.int pb), .val (.int pc), .val (.long pre0_), .second, .val (.int pf), .val (.int pq), .val (.int xo), .val (.int cn), .val (.ref al), .val (.int wa), .val (.int wb), .val (.int wc), .val (.int wq), .val (.ref aw), .val (.ref bo), .unset, .unset, .unset, .unset, .unset, .unset, .unset, .unset] [(.long ea)])) t → Steps p.tables e below (s₁.setTop (entryFrame m #[(.int pa), (.int pb), (.int pc), (.long pre0_), (.int pf), (.int pq)] maxLocals)) t := by
    intro t kt
    rw [h_ea] at kt
    exact pre41 _ kt
  obtain ⟨_, _, ⟨T43, L43, k43, n43⟩, -, X43, ⟨Lc43, hQ43, l43, y43, z43⟩, st43⟩ := Jvm.LawKit.callS X40 hx (y := (⟨"com/example/bitweight/bitweight/chunk/WordChunkTakeInPinLaw", "expect", "(IIJ[CIZ)J"⟩ : MethodName)) hown (mvT hZ (hw _ (List.mem_of_getElem? (i := 40) rfl))) (mvT hZ (hw _ (List.mem_of_getElem? (i := 41) rfl))) (mvT hZ (hw _ (List.mem_of_getElem? (i := 42) rfl))) (mvT hZ (hw _ (List.mem_of_getElem? (i := 43) rfl))) (by decide) (backOf (W := 0) (rm8 l Z a0 hw [] wb wa pre0_ al cn xo fl T36.heap n0 Z39 f37) hZ (hw _ (List.mem_of_getElem? (i := 43) rfl)) (hw _ (List.mem_of_getElem? (i := 42) rfl)) (by decide) (by decide)) (g := (mkF m 127 #[.val (.int pa), .val (.int pb), .val (.int pc), .val (.long pre0_), .second, .val (.int pf), .val (.int pq), .val (.int xo), .val (.int cn), .val (.ref al), .val (.int wa), .val (.int wb), .val (.int wc), .val (.int wq), .val (.ref aw), .val (.ref bo), .val (.long ea), .second, .unset, .unset, .unset, .unset, .unset, .unset] [(.int xo), (.int cn), (.ref al), (.long pre0_), (.int wa), (.int wb)])) rfl (by rw [hml]; rfl) (argsL := [(.int wb), (.int wa), (.long pre0_), (.ref al), (.int cn), (.int xo)]) (rest := []) (lenOf pd_6 rfl) rfl (by show 2 * 0 + _ ≤ _; exact Nat.le_of_eq rfl) (hb hby at_127) (fun _ _ => ⟨rfl, hE40, (by decide : 3 + 0 ≤ _), (by decide : 1030 + 0 ≤ _)⟩)
  dsimp only [Pt.U, Pt.locs, Pt.cells, Pt.slots] at X43 l43 y43 z43 st43 hQ43
  subst l43 y43 z43
  obtain ⟨rfl, N43q, hE43⟩ := hQ43
  have N43 := Fr.app N40 N43q
  have pre44 : ∀ t, Steps p.tables e below (T43.setTop (mkF m 130 #[.val (.int pa), .val (.int pb), .val (.int pc), .val (.long pre0_), .second, .val (.int pf), .val (.int pq), .val (.int xo), .val (.int cn), .val (.ref al), .val (.int wa), .val (.int wb), .val (.int wc), .val (.int wq), .val (.ref aw), .val (.ref bo), .val (.long ea), .second, .unset, .unset, .unset, .unset, .unset, .unset] [(.long (fn8 wb wa pre0_ al cn xo fl))])) t → Steps p.tables e below (s₁.setTop (entryFrame m #[(.int pa), (.int pb), (.int pc), (.long pre0_), (.int pf), (.int pq)] maxLocals)) t := by
    intro t kt
    refine pre42 _ ?_
    show Steps p.tables e below (T40.setTop (mkF m 114 #[.val (.int pa), .val (.int pb), .val (.int pc), .val (.long pre0_), .second, .val (.int pf), .val (.int pq), .val (.int xo), .val (.int cn), .val (.ref al), .val (.int wa), .val (.int wb), .val (.int wc), .val (.int wq), .val (.ref aw), .val (.ref bo), .unset, .unset, .unset, .unset, .unset, .unset, .unset, .unset] [(.long ea)])) _
    refine XS.lstore X40.here hx rfl (hb hby at_114) rfl (l' := #[.val (.int pa), .val (.int pb), .val (.int pc), .val (.long pre0_), .second, .val (.int pf), .val (.int pq), .val (.int xo), .val (.int cn), .val (.ref al), .val (.int wa), .val (.int wb), .val (.int wc), .val (.int wq), .val (.ref aw), .val (.ref bo), .val (.long ea), .second, .unset, .unset, .unset, .unset, .unset, .unset]) rfl ?_
    show Steps p.tables e below (T40.setTop (mkF m 116 #[.val (.int pa), .val (.int pb), .val (.int pc), .val (.long pre0_), .second, .val (.int pf), .val (.int pq), .val (.int xo), .val (.int cn), .val (.ref al), .val (.int wa), .val (.int wb), .val (.int wc), .val (.int wq), .val (.ref aw), .val (.ref bo), .val (.long ea), .second, .unset, .unset, .unset, .unset, .unset, .unset] [])) _
    refine XS.iload X40.here hx rfl (hb hby at_116) rfl ?_
    show Steps p.tables e below (T40.setTop (mkF m 118 #[.val (.int pa), .val (.int pb), .val (.int pc), .val (.long pre0_), .second, .val (.int pf), .val (.int pq), .val (.int xo), .val (.int cn), .val (.ref al), .val (.int wa), .val (.int wb), .val (.int wc), .val (.int wq), .val (.ref aw), .val (.ref bo), .val (.long ea), .second, .unset, .unset, .unset, .unset, .unset, .unset] [(.int wb)])) _
    refine XS.iload X40.here hx rfl (hb hby at_118) rfl ?_
    show Steps p.tables e below (T40.setTop (mkF m 120 #[.val (.int pa), .val (.int pb), .val (.int pc), .val (.long pre0_), .second, .val (.int pf), .val (.int pq), .val (.int xo), .val (.int cn), .val (.ref al), .val (.int wa), .val (.int wb), .val (.int wc), .val (.int wq), .val (.ref aw), .val (.ref bo), .val (.long ea), .second, .unset, .unset, .unset, .unset, .unset, .unset] [(.int wa), (.int wb)])) _
    refine XS.lloadN X40.here hx rfl (hb hby at_120) rfl ?_
    show Steps p.tables e below (T40.setTop (mkF m 121 #[.val (.int pa), .val (.int pb), .val (.int pc), .val (.long pre0_), .second, .val (.int pf), .val (.int pq), .val (.int xo), .val (.int cn), .val (.ref al), .val (.int wa), .val (.int wb), .val (.int wc), .val (.int wq), .val (.ref aw), .val (.ref bo), .val (.long ea), .second, .unset, .unset, .unset, .unset, .unset, .unset] [(.long pre0_), (.int wa), (.int wb)])) _
    refine XS.aload X40.here hx rfl (hb hby at_121) rfl rfl ?_
    show Steps p.tables e below (T40.setTop (mkF m 123 #[.val (.int pa), .val (.int pb), .val (.int pc), .val (.long pre0_), .second, .val (.int pf), .val (.int pq), .val (.int xo), .val (.int cn), .val (.ref al), .val (.int wa), .val (.int wb), .val (.int wc), .val (.int wq), .val (.ref aw), .val (.ref bo), .val (.long ea), .second, .unset, .unset, .unset, .unset, .unset, .unset] [(.ref al), (.long pre0_), (.int wa), (.int wb)])) _
    refine XS.iload X40.here hx rfl (hb hby at_123) rfl ?_
    show Steps p.tables e below (T40.setTop (mkF m 125 #[.val (.int pa), .val (.int pb), .val (.int pc), .val (.long pre0_), .second, .val (.int pf), .val (.int pq), .val (.int xo), .val (.int cn), .val (.ref al), .val (.int wa), .val (.int wb), .val (.int wc), .val (.int wq), .val (.ref aw), .val (.ref bo), .val (.long ea), .second, .unset, .unset, .unset, .unset, .unset, .unset] [(.int cn), (.ref al), (.long pre0_), (.int wa), (.int wb)])) _
    refine XS.iload X40.here hx rfl (hb hby at_125) rfl ?_
    show Steps p.tables e below (T40.setTop (mkF m 127 #[.val (.int pa), .val (.int pb), .val (.int pc), .val (.long pre0_), .second, .val (.int pf), .val (.int pq), .val (.int xo), .val (.int cn), .val (.ref al), .val (.int wa), .val (.int wb), .val (.int wc), .val (.int wq), .val (.ref aw), .val (.ref bo), .val (.long ea), .second, .unset, .unset, .unset, .unset, .unset, .unset] [(.int xo), (.int cn), (.ref al), (.long pre0_), (.int wa), (.int wb)])) _
    refine st43 _ ?_
    exact kt
  obtain ⟨eb, h_eb⟩ : ∃ z : Int64, z = (fn8 wb wa pre0_ al cn xo fl) := ⟨_, rfl⟩
  have pre45 : ∀ t, Steps p.tables e below (T43.setTop (mkF m 130 #[.val (.int pa), .val (.int pb), .val (.int pc), .val (.long pre0_), .second, .val (.int pf), .val (.int pq), .val (.int xo), .val (.int cn), .val (.ref al), .val (.int wa), .val (.int wb), .val (.int wc), .val (.int wq), .val (.ref aw), .val (.ref bo), .val (.long ea), .second, .unset, .unset, .unset, .unset, .unset, .unset] [(.long eb)])) t → Steps p.tables e below (s₁.setTop (entryFrame m #[(.int pa), (.int pb), (.int pc), (.long pre0_), (.int pf), (.int pq)] maxLocals)) t := by
    intro t kt
    rw [h_eb] at kt
    exact pre44 _ kt
  obtain ⟨_, _, ⟨T46, L46, k46, n46⟩, -, X46, ⟨Lc46, hQ46, l46, y46, z46⟩, st46⟩ := Jvm.LawKit.callS X43 hx (y := (⟨"com/example/bitweight/bitweight/chunk/WordChunkTakeInPinLaw", "expect", "(IIJ[CIZ)J"⟩ : MethodName)) hown (mvT hZ (hw _ (List.mem_of_getElem? (i := 40) rfl))) (mvT hZ (hw _ (List.mem_of_getElem? (i := 41) rfl))) (mvT hZ (hw _ (List.mem_of_getElem? (i := 42) rfl))) (mvT hZ (hw _ (List.mem_of_getElem? (i := 43) rfl))) (by decide) (backOf (W := 0) (rm8 l Z a0 hw [] wc wa pre0_ al cn xo fl T36.heap n0 Z39 f37) hZ (hw _ (List.mem_of_getElem? (i := 43) rfl)) (hw _ (List.mem_of_getElem? (i := 42) rfl)) (by decide) (by decide)) (g := (mkF m 143 #[.val (.int pa), .val (.int pb), .val (.int pc), .val (.long pre0_), .second, .val (.int pf), .val (.int pq), .val (.int xo), .val (.int cn), .val (.ref al), .val (.int wa), .val (.int wb), .val (.int wc), .val (.int wq), .val (.ref aw), .val (.ref bo), .val (.long ea), .second, .val (.long eb), .second, .unset, .unset, .unset, .unset] [(.int xo), (.int cn), (.ref al), (.long pre0_), (.int wa), (.int wc)])) rfl (by rw [hml]; rfl) (argsL := [(.int wc), (.int wa), (.long pre0_), (.ref al), (.int cn), (.int xo)]) (rest := []) (lenOf pd_6 rfl) rfl (by show 2 * 0 + _ ≤ _; exact Nat.le_of_eq rfl) (hb hby at_143) (fun _ _ => ⟨rfl, hE43, (by decide : 3 + 0 ≤ _), (by decide : 1030 + 0 ≤ _)⟩)
  dsimp only [Pt.U, Pt.locs, Pt.cells, Pt.slots] at X46 l46 y46 z46 st46 hQ46
  subst l46 y46 z46
  obtain ⟨rfl, N46q, hE46⟩ := hQ46
  have N46 := Fr.app N43 N46q
  have pre47 : ∀ t, Steps p.tables e below (T46.setTop (mkF m 146 #[.val (.int pa), .val (.int pb), .val (.int pc), .val (.long pre0_), .second, .val (.int pf), .val (.int pq), .val (.int xo), .val (.int cn), .val (.ref al), .val (.int wa), .val (.int wb), .val (.int wc), .val (.int wq), .val (.ref aw), .val (.ref bo), .val (.long ea), .second, .val (.long eb), .second, .unset, .unset, .unset, .unset] [(.long (fn8 wc wa pre0_ al cn xo fl))])) t → Steps p.tables e below (s₁.setTop (entryFrame m #[(.int pa), (.int pb), (.int pc), (.long pre0_), (.int pf), (.int pq)] maxLocals)) t := by
    intro t kt
    refine pre45 _ ?_
    show Steps p.tables e below (T43.setTop (mkF m 130 #[.val (.int pa), .val (.int pb), .val (.int pc), .val (.long pre0_), .second, .val (.int pf), .val (.int pq), .val (.int xo), .val (.int cn), .val (.ref al), .val (.int wa), .val (.int wb), .val (.int wc), .val (.int wq), .val (.ref aw), .val (.ref bo), .val (.long ea), .second, .unset, .unset, .unset, .unset, .unset, .unset] [(.long eb)])) _
    refine XS.lstore X43.here hx rfl (hb hby at_130) rfl (l' := #[.val (.int pa), .val (.int pb), .val (.int pc), .val (.long pre0_), .second, .val (.int pf), .val (.int pq), .val (.int xo), .val (.int cn), .val (.ref al), .val (.int wa), .val (.int wb), .val (.int wc), .val (.int wq), .val (.ref aw), .val (.ref bo), .val (.long ea), .second, .val (.long eb), .second, .unset, .unset, .unset, .unset]) rfl ?_
    show Steps p.tables e below (T43.setTop (mkF m 132 #[.val (.int pa), .val (.int pb), .val (.int pc), .val (.long pre0_), .second, .val (.int pf), .val (.int pq), .val (.int xo), .val (.int cn), .val (.ref al), .val (.int wa), .val (.int wb), .val (.int wc), .val (.int wq), .val (.ref aw), .val (.ref bo), .val (.long ea), .second, .val (.long eb), .second, .unset, .unset, .unset, .unset] [])) _
    refine XS.iload X43.here hx rfl (hb hby at_132) rfl ?_
    show Steps p.tables e below (T43.setTop (mkF m 134 #[.val (.int pa), .val (.int pb), .val (.int pc), .val (.long pre0_), .second, .val (.int pf), .val (.int pq), .val (.int xo), .val (.int cn), .val (.ref al), .val (.int wa), .val (.int wb), .val (.int wc), .val (.int wq), .val (.ref aw), .val (.ref bo), .val (.long ea), .second, .val (.long eb), .second, .unset, .unset, .unset, .unset] [(.int wc)])) _
    refine XS.iload X43.here hx rfl (hb hby at_134) rfl ?_
    show Steps p.tables e below (T43.setTop (mkF m 136 #[.val (.int pa), .val (.int pb), .val (.int pc), .val (.long pre0_), .second, .val (.int pf), .val (.int pq), .val (.int xo), .val (.int cn), .val (.ref al), .val (.int wa), .val (.int wb), .val (.int wc), .val (.int wq), .val (.ref aw), .val (.ref bo), .val (.long ea), .second, .val (.long eb), .second, .unset, .unset, .unset, .unset] [(.int wa), (.int wc)])) _
    refine XS.lloadN X43.here hx rfl (hb hby at_136) rfl ?_
    show Steps p.tables e below (T43.setTop (mkF m 137 #[.val (.int pa), .val (.int pb), .val (.int pc), .val (.long pre0_), .second, .val (.int pf), .val (.int pq), .val (.int xo), .val (.int cn), .val (.ref al), .val (.int wa), .val (.int wb), .val (.int wc), .val (.int wq), .val (.ref aw), .val (.ref bo), .val (.long ea), .second, .val (.long eb), .second, .unset, .unset, .unset, .unset] [(.long pre0_), (.int wa), (.int wc)])) _
    refine XS.aload X43.here hx rfl (hb hby at_137) rfl rfl ?_
    show Steps p.tables e below (T43.setTop (mkF m 139 #[.val (.int pa), .val (.int pb), .val (.int pc), .val (.long pre0_), .second, .val (.int pf), .val (.int pq), .val (.int xo), .val (.int cn), .val (.ref al), .val (.int wa), .val (.int wb), .val (.int wc), .val (.int wq), .val (.ref aw), .val (.ref bo), .val (.long ea), .second, .val (.long eb), .second, .unset, .unset, .unset, .unset] [(.ref al), (.long pre0_), (.int wa), (.int wc)])) _
    refine XS.iload X43.here hx rfl (hb hby at_139) rfl ?_
    show Steps p.tables e below (T43.setTop (mkF m 141 #[.val (.int pa), .val (.int pb), .val (.int pc), .val (.long pre0_), .second, .val (.int pf), .val (.int pq), .val (.int xo), .val (.int cn), .val (.ref al), .val (.int wa), .val (.int wb), .val (.int wc), .val (.int wq), .val (.ref aw), .val (.ref bo), .val (.long ea), .second, .val (.long eb), .second, .unset, .unset, .unset, .unset] [(.int cn), (.ref al), (.long pre0_), (.int wa), (.int wc)])) _
    refine XS.iload X43.here hx rfl (hb hby at_141) rfl ?_
    show Steps p.tables e below (T43.setTop (mkF m 143 #[.val (.int pa), .val (.int pb), .val (.int pc), .val (.long pre0_), .second, .val (.int pf), .val (.int pq), .val (.int xo), .val (.int cn), .val (.ref al), .val (.int wa), .val (.int wb), .val (.int wc), .val (.int wq), .val (.ref aw), .val (.ref bo), .val (.long ea), .second, .val (.long eb), .second, .unset, .unset, .unset, .unset] [(.int xo), (.int cn), (.ref al), (.long pre0_), (.int wa), (.int wc)])) _
    refine st46 _ ?_
    exact kt
  obtain ⟨ec, h_ec⟩ : ∃ z : Int64, z = (fn8 wc wa pre0_ al cn xo fl) := ⟨_, rfl⟩
  have pre48 : ∀ t, Steps p.tables e below (T46.setTop (mkF m 146 #[.val (.int pa), .val (.int pb), .val (.int pc), .val (.long pre0_), .second, .val (.int pf), .val (.int pq), .val (.int xo), .val (.int cn), .val (.ref al), .val (.int wa), .val (.int wb), .val (.int wc), .val (.int wq), .val (.ref aw), .val (.ref bo), .val (.long ea), .second, .val (.long eb), .second, .unset, .unset, .unset, .unset] [(.long ec)])) t → Steps p.tables e below (s₁.setTop (entryFrame m #[(.int pa), (.int pb), (.int pc), (.long pre0_), (.int pf), (.int pq)] maxLocals)) t := by
    intro t kt
    rw [h_ec] at kt
    exact pre47 _ kt
  obtain ⟨_, _, ⟨T49, L49, k49, n49⟩, -, X49, ⟨Lc49, hQ49, l49, y49, z49⟩, st49⟩ := Jvm.LawKit.callS X46 hx (y := (⟨"com/example/bitweight/bitweight/chunk/WordChunkTakeInPinLaw", "expect", "(IIJ[CIZ)J"⟩ : MethodName)) hown (mvT hZ (hw _ (List.mem_of_getElem? (i := 40) rfl))) (mvT hZ (hw _ (List.mem_of_getElem? (i := 41) rfl))) (mvT hZ (hw _ (List.mem_of_getElem? (i := 42) rfl))) (mvT hZ (hw _ (List.mem_of_getElem? (i := 43) rfl))) (by decide) (backOf (W := 0) (rm8 l Z a0 hw [] wq wa pre0_ al cn xo fl T36.heap n0 Z39 f37) hZ (hw _ (List.mem_of_getElem? (i := 43) rfl)) (hw _ (List.mem_of_getElem? (i := 42) rfl)) (by decide) (by decide)) (g := (mkF m 159 #[.val (.int pa), .val (.int pb), .val (.int pc), .val (.long pre0_), .second, .val (.int pf), .val (.int pq), .val (.int xo), .val (.int cn), .val (.ref al), .val (.int wa), .val (.int wb), .val (.int wc), .val (.int wq), .val (.ref aw), .val (.ref bo), .val (.long ea), .second, .val (.long eb), .second, .val (.long ec), .second, .unset, .unset] [(.int xo), (.int cn), (.ref al), (.long pre0_), (.int wa), (.int wq)])) rfl (by rw [hml]; rfl) (argsL := [(.int wq), (.int wa), (.long pre0_), (.ref al), (.int cn), (.int xo)]) (rest := []) (lenOf pd_6 rfl) rfl (by show 2 * 0 + _ ≤ _; exact Nat.le_of_eq rfl) (hb hby at_159) (fun _ _ => ⟨rfl, hE46, (by decide : 3 + 0 ≤ _), (by decide : 1030 + 0 ≤ _)⟩)
  dsimp only [Pt.U, Pt.locs, Pt.cells, Pt.slots] at X49 l49 y49 z49 st49 hQ49
  subst l49 y49 z49
  obtain ⟨rfl, N49q, hE49⟩ := hQ49
  have N49 := Fr.app N46 N49q
  have pre50 : ∀ t, Steps p.tables e below (T49.setTop (mkF m 162 #[.val (.int pa), .val (.int pb), .val (.int pc), .val (.long pre0_), .second, .val (.int pf), .val (.int pq), .val (.int xo), .val (.int cn), .val (.ref al), .val (.int wa), .val (.int wb), .val (.int wc), .val (.int wq), .val (.ref aw), .val (.ref bo), .val (.long ea), .second, .val (.long eb), .second, .val (.long ec), .second, .unset, .unset] [(.long (fn8 wq wa pre0_ al cn xo fl))])) t → Steps p.tables e below (s₁.setTop (entryFrame m #[(.int pa), (.int pb), (.int pc), (.long pre0_), (.int pf), (.int pq)] maxLocals)) t := by
    intro t kt
    refine pre48 _ ?_
    show Steps p.tables e below (T46.setTop (mkF m 146 #[.val (.int pa), .val (.int pb), .val (.int pc), .val (.long pre0_), .second, .val (.int pf), .val (.int pq), .val (.int xo), .val (.int cn), .val (.ref al), .val (.int wa), .val (.int wb), .val (.int wc), .val (.int wq), .val (.ref aw), .val (.ref bo), .val (.long ea), .second, .val (.long eb), .second, .unset, .unset, .unset, .unset] [(.long ec)])) _
    refine XS.lstore X46.here hx rfl (hb hby at_146) rfl (l' := #[.val (.int pa), .val (.int pb), .val (.int pc), .val (.long pre0_), .second, .val (.int pf), .val (.int pq), .val (.int xo), .val (.int cn), .val (.ref al), .val (.int wa), .val (.int wb), .val (.int wc), .val (.int wq), .val (.ref aw), .val (.ref bo), .val (.long ea), .second, .val (.long eb), .second, .val (.long ec), .second, .unset, .unset]) rfl ?_
    show Steps p.tables e below (T46.setTop (mkF m 148 #[.val (.int pa), .val (.int pb), .val (.int pc), .val (.long pre0_), .second, .val (.int pf), .val (.int pq), .val (.int xo), .val (.int cn), .val (.ref al), .val (.int wa), .val (.int wb), .val (.int wc), .val (.int wq), .val (.ref aw), .val (.ref bo), .val (.long ea), .second, .val (.long eb), .second, .val (.long ec), .second, .unset, .unset] [])) _
    refine XS.iload X46.here hx rfl (hb hby at_148) rfl ?_
    show Steps p.tables e below (T46.setTop (mkF m 150 #[.val (.int pa), .val (.int pb), .val (.int pc), .val (.long pre0_), .second, .val (.int pf), .val (.int pq), .val (.int xo), .val (.int cn), .val (.ref al), .val (.int wa), .val (.int wb), .val (.int wc), .val (.int wq), .val (.ref aw), .val (.ref bo), .val (.long ea), .second, .val (.long eb), .second, .val (.long ec), .second, .unset, .unset] [(.int wq)])) _
    refine XS.iload X46.here hx rfl (hb hby at_150) rfl ?_
    show Steps p.tables e below (T46.setTop (mkF m 152 #[.val (.int pa), .val (.int pb), .val (.int pc), .val (.long pre0_), .second, .val (.int pf), .val (.int pq), .val (.int xo), .val (.int cn), .val (.ref al), .val (.int wa), .val (.int wb), .val (.int wc), .val (.int wq), .val (.ref aw), .val (.ref bo), .val (.long ea), .second, .val (.long eb), .second, .val (.long ec), .second, .unset, .unset] [(.int wa), (.int wq)])) _
    refine XS.lloadN X46.here hx rfl (hb hby at_152) rfl ?_
    show Steps p.tables e below (T46.setTop (mkF m 153 #[.val (.int pa), .val (.int pb), .val (.int pc), .val (.long pre0_), .second, .val (.int pf), .val (.int pq), .val (.int xo), .val (.int cn), .val (.ref al), .val (.int wa), .val (.int wb), .val (.int wc), .val (.int wq), .val (.ref aw), .val (.ref bo), .val (.long ea), .second, .val (.long eb), .second, .val (.long ec), .second, .unset, .unset] [(.long pre0_), (.int wa), (.int wq)])) _
    refine XS.aload X46.here hx rfl (hb hby at_153) rfl rfl ?_
    show Steps p.tables e below (T46.setTop (mkF m 155 #[.val (.int pa), .val (.int pb), .val (.int pc), .val (.long pre0_), .second, .val (.int pf), .val (.int pq), .val (.int xo), .val (.int cn), .val (.ref al), .val (.int wa), .val (.int wb), .val (.int wc), .val (.int wq), .val (.ref aw), .val (.ref bo), .val (.long ea), .second, .val (.long eb), .second, .val (.long ec), .second, .unset, .unset] [(.ref al), (.long pre0_), (.int wa), (.int wq)])) _
    refine XS.iload X46.here hx rfl (hb hby at_155) rfl ?_
    show Steps p.tables e below (T46.setTop (mkF m 157 #[.val (.int pa), .val (.int pb), .val (.int pc), .val (.long pre0_), .second, .val (.int pf), .val (.int pq), .val (.int xo), .val (.int cn), .val (.ref al), .val (.int wa), .val (.int wb), .val (.int wc), .val (.int wq), .val (.ref aw), .val (.ref bo), .val (.long ea), .second, .val (.long eb), .second, .val (.long ec), .second, .unset, .unset] [(.int cn), (.ref al), (.long pre0_), (.int wa), (.int wq)])) _
    refine XS.iload X46.here hx rfl (hb hby at_157) rfl ?_
    show Steps p.tables e below (T46.setTop (mkF m 159 #[.val (.int pa), .val (.int pb), .val (.int pc), .val (.long pre0_), .second, .val (.int pf), .val (.int pq), .val (.int xo), .val (.int cn), .val (.ref al), .val (.int wa), .val (.int wb), .val (.int wc), .val (.int wq), .val (.ref aw), .val (.ref bo), .val (.long ea), .second, .val (.long eb), .second, .val (.long ec), .second, .unset, .unset] [(.int xo), (.int cn), (.ref al), (.long pre0_), (.int wa), (.int wq)])) _
    refine st49 _ ?_
    exact kt
  obtain ⟨eq, h_eq⟩ : ∃ z : Int64, z = (fn8 wq wa pre0_ al cn xo fl) := ⟨_, rfl⟩
  have pre51 : ∀ t, Steps p.tables e below (T49.setTop (mkF m 162 #[.val (.int pa), .val (.int pb), .val (.int pc), .val (.long pre0_), .second, .val (.int pf), .val (.int pq), .val (.int xo), .val (.int cn), .val (.ref al), .val (.int wa), .val (.int wb), .val (.int wc), .val (.int wq), .val (.ref aw), .val (.ref bo), .val (.long ea), .second, .val (.long eb), .second, .val (.long ec), .second, .unset, .unset] [(.long eq)])) t → Steps p.tables e below (s₁.setTop (entryFrame m #[(.int pa), (.int pb), (.int pc), (.long pre0_), (.int pf), (.int pq)] maxLocals)) t := by
    intro t kt
    rw [h_eq] at kt
    exact pre50 _ kt
  obtain ⟨cq52, kq52, q52a, q52b, q52c⟩ := isOf hZ hE49 p36_E
  obtain ⟨_, _, ⟨T52, L52, k52, n52⟩, -, X52, ⟨Lc52, hQ52, l52, y52, z52⟩, st52⟩ := X49.virtualBack hx (y := (⟨"com/example/bitweight/bitweight/chunk/WordChunk", "takeIn", "([CIZ)V"⟩ : MethodName)) (z := (⟨"com/example/bitweight/bitweight/chunk/WordChunk", "takeIn", "([CIZ)V"⟩ : MethodName)) hown (mvT hZ (hw _ (List.mem_of_getElem? (i := 47) rfl))) (mvT hZ (hw _ (List.mem_of_getElem? (i := 48) rfl))) (notFace_of_selects (args := #[]) (mvT hZ (hw _ (List.mem_of_getElem? (i := 50) rfl)))) (mvT hZ (hw _ (List.mem_of_getElem? (i := 50) rfl))) (mvT hZ (hw _ (List.mem_of_getElem? (i := 49) rfl))) (by decide) (backOf (W := 0) (rm10 l Z a0 hw [] bo al cn xo aw fl fz T36.heap n0 Z39 p36_E p36_w f38 f37 g_aw (Ne.symm ne_aw_bo) ne_al_aw hfl hcn) hZ (hw _ (List.mem_of_getElem? (i := 51) rfl)) (hw _ (List.mem_of_getElem? (i := 4) rfl)) (by decide) (by decide)) q52a q52c (g := (mkF m 172 #[.val (.int pa), .val (.int pb), .val (.int pc), .val (.long pre0_), .second, .val (.int pf), .val (.int pq), .val (.int xo), .val (.int cn), .val (.ref al), .val (.int wa), .val (.int wb), .val (.int wc), .val (.int wq), .val (.ref aw), .val (.ref bo), .val (.long ea), .second, .val (.long eb), .second, .val (.long ec), .second, .val (.long eq), .second] [(.int xo), (.int cn), (.ref al), (.ref bo)])) rfl (by rw [hml]; rfl) (Steps.refl _) (argsL := [(.ref al), (.int cn), (.int xo)]) (rest := []) (lenOf pd_7 rfl) rfl (by show 2 * 0 + _ ≤ _; exact Nat.le_of_eq rfl) (hb hby at_172) (fun _ _ => ⟨rfl, hE49, (by decide : 3 + 0 ≤ _), (by decide : 1030 + 0 ≤ _)⟩)
  dsimp only [Pt.U, Pt.locs, Pt.cells, Pt.slots] at X52 l52 y52 z52 st52 hQ52
  subst l52 y52 z52
  obtain ⟨rfl, N52q, K52, p52_0, p52_1, p52_2⟩ := hQ52
  have N52 := Fr.app N49 N52q
  have f53 := f37.keep K52 (ninS ne_al_aw nin0)
  have f55 := p36_E.keep K52
  have f56 := p36_w.keep K52 (ninS (Ne.symm ne_aw_bo) nin0)
  have Z57 := Nat.le_trans Z39 K52.1
  obtain ⟨ft, h_ft⟩ : ∃ g : Nat → Int64, g = (tkf cn xo fl fz) := ⟨_, rfl⟩
  rw [← h_ft] at p52_2
  obtain ⟨cq58, kq58, q58a, q58b, q58c⟩ := isOf hZ rfl p52_0
  obtain ⟨_, _, ⟨T58, L58, k58, n58⟩, -, X58, ⟨Lc58, hQ58, l58, y58, z58⟩, st58⟩ := X52.virtualBack hx (y := (⟨"com/example/bitweight/bitweight/chunk/WordChunk", "word", "(I)J"⟩ : MethodName)) (z := (⟨"com/example/bitweight/bitweight/chunk/WordChunk", "word", "(I)J"⟩ : MethodName)) hown (mvT hZ (hw _ (List.mem_of_getElem? (i := 52) rfl))) (mvT hZ (hw _ (List.mem_of_getElem? (i := 53) rfl))) (notFace_of_selects (args := #[]) (mvT hZ (hw _ (List.mem_of_getElem? (i := 55) rfl)))) (mvT hZ (hw _ (List.mem_of_getElem? (i := 55) rfl))) (mvT hZ (hw _ (List.mem_of_getElem? (i := 54) rfl))) (by decide) (backOf (W := 0) (rm11 l Z a0 hw [] bo wa aw ft (own_kx (fl 0)) T52.heap n0 Z57 p52_1 p52_2 (own_kd (hfl 0 (by decide)) h_wa) (own_kx2 (hfl 0 (by decide)))) hZ (hw _ (List.mem_of_getElem? (i := 56) rfl)) (hw _ (List.mem_of_getElem? (i := 4) rfl)) (by decide) (by decide)) q58a q58c (g := (mkF m 179 #[.val (.int pa), .val (.int pb), .val (.int pc), .val (.long pre0_), .second, .val (.int pf), .val (.int pq), .val (.int xo), .val (.int cn), .val (.ref al), .val (.int wa), .val (.int wb), .val (.int wc), .val (.int wq), .val (.ref aw), .val (.ref bo), .val (.long ea), .second, .val (.long eb), .second, .val (.long ec), .second, .val (.long eq), .second] [(.int wa), (.ref bo)])) rfl (by rw [hml]; rfl) (Steps.refl _) (argsL := [(.int wa)]) (rest := []) (lenOf pd_8 rfl) rfl (by show 2 * 0 + _ ≤ _; exact Nat.le_of_eq rfl) (hb hby at_179) (fun _ _ => ⟨rfl, rfl, (by decide : 3 + 0 ≤ _), (by decide : 1030 + 0 ≤ _)⟩)
  dsimp only [Pt.U, Pt.locs, Pt.cells, Pt.slots] at X58 l58 y58 z58 st58 hQ58
  subst l58 y58 z58
  obtain ⟨rfl, N58q, hE58⟩ := hQ58
  have N58 := Fr.app N52 N58q
  have pre59 : ∀ t, Steps p.tables e below (T58.setTop (mkF m 185 #[.val (.int pa), .val (.int pb), .val (.int pc), .val (.long pre0_), .second, .val (.int pf), .val (.int pq), .val (.int xo), .val (.int cn), .val (.ref al), .val (.int wa), .val (.int wb), .val (.int wc), .val (.int wq), .val (.ref aw), .val (.ref bo), .val (.long ea), .second, .val (.long eb), .second, .val (.long ec), .second, .val (.long eq), .second] [(.int (XT.cmpL (ft (own_kx (fl 0))) ea))])) t → Steps p.tables e below (s₁.setTop (entryFrame m #[(.int pa), (.int pb), (.int pc), (.long pre0_), (.int pf), (.int pq)] maxLocals)) t := by
    intro t kt
    refine pre51 _ ?_
    show Steps p.tables e below (T49.setTop (mkF m 162 #[.val (.int pa), .val (.int pb), .val (.int pc), .val (.long pre0_), .second, .val (.int pf), .val (.int pq), .val (.int xo), .val (.int cn), .val (.ref al), .val (.int wa), .val (.int wb), .val (.int wc), .val (.int wq), .val (.ref aw), .val (.ref bo), .val (.long ea), .second, .val (.long eb), .second, .val (.long ec), .second, .unset, .unset] [(.long eq)])) _
    refine XS.lstore X49.here hx rfl (hb hby at_162) rfl (l' := #[.val (.int pa), .val (.int pb), .val (.int pc), .val (.long pre0_), .second, .val (.int pf), .val (.int pq), .val (.int xo), .val (.int cn), .val (.ref al), .val (.int wa), .val (.int wb), .val (.int wc), .val (.int wq), .val (.ref aw), .val (.ref bo), .val (.long ea), .second, .val (.long eb), .second, .val (.long ec), .second, .val (.long eq), .second]) rfl ?_
    show Steps p.tables e below (T49.setTop (mkF m 164 #[.val (.int pa), .val (.int pb), .val (.int pc), .val (.long pre0_), .second, .val (.int pf), .val (.int pq), .val (.int xo), .val (.int cn), .val (.ref al), .val (.int wa), .val (.int wb), .val (.int wc), .val (.int wq), .val (.ref aw), .val (.ref bo), .val (.long ea), .second, .val (.long eb), .second, .val (.long ec), .second, .val (.long eq), .second] [])) _
    refine XS.aload X49.here hx rfl (hb hby at_164) rfl rfl ?_
    show Steps p.tables e below (T49.setTop (mkF m 166 #[.val (.int pa), .val (.int pb), .val (.int pc), .val (.long pre0_), .second, .val (.int pf), .val (.int pq), .val (.int xo), .val (.int cn), .val (.ref al), .val (.int wa), .val (.int wb), .val (.int wc), .val (.int wq), .val (.ref aw), .val (.ref bo), .val (.long ea), .second, .val (.long eb), .second, .val (.long ec), .second, .val (.long eq), .second] [(.ref bo)])) _
    refine XS.aload X49.here hx rfl (hb hby at_166) rfl rfl ?_
    show Steps p.tables e below (T49.setTop (mkF m 168 #[.val (.int pa), .val (.int pb), .val (.int pc), .val (.long pre0_), .second, .val (.int pf), .val (.int pq), .val (.int xo), .val (.int cn), .val (.ref al), .val (.int wa), .val (.int wb), .val (.int wc), .val (.int wq), .val (.ref aw), .val (.ref bo), .val (.long ea), .second, .val (.long eb), .second, .val (.long ec), .second, .val (.long eq), .second] [(.ref al), (.ref bo)])) _
    refine XS.iload X49.here hx rfl (hb hby at_168) rfl ?_
    show Steps p.tables e below (T49.setTop (mkF m 170 #[.val (.int pa), .val (.int pb), .val (.int pc), .val (.long pre0_), .second, .val (.int pf), .val (.int pq), .val (.int xo), .val (.int cn), .val (.ref al), .val (.int wa), .val (.int wb), .val (.int wc), .val (.int wq), .val (.ref aw), .val (.ref bo), .val (.long ea), .second, .val (.long eb), .second, .val (.long ec), .second, .val (.long eq), .second] [(.int cn), (.ref al), (.ref bo)])) _
    refine XS.iload X49.here hx rfl (hb hby at_170) rfl ?_
    show Steps p.tables e below (T49.setTop (mkF m 172 #[.val (.int pa), .val (.int pb), .val (.int pc), .val (.long pre0_), .second, .val (.int pf), .val (.int pq), .val (.int xo), .val (.int cn), .val (.ref al), .val (.int wa), .val (.int wb), .val (.int wc), .val (.int wq), .val (.ref aw), .val (.ref bo), .val (.long ea), .second, .val (.long eb), .second, .val (.long ec), .second, .val (.long eq), .second] [(.int xo), (.int cn), (.ref al), (.ref bo)])) _
    refine st52.trans ?_
    show Steps p.tables e below (T52.setTop (mkF m 175 #[.val (.int pa), .val (.int pb), .val (.int pc), .val (.long pre0_), .second, .val (.int pf), .val (.int pq), .val (.int xo), .val (.int cn), .val (.ref al), .val (.int wa), .val (.int wb), .val (.int wc), .val (.int wq), .val (.ref aw), .val (.ref bo), .val (.long ea), .second, .val (.long eb), .second, .val (.long ec), .second, .val (.long eq), .second] [])) _
    refine XS.aload X52.here hx rfl (hb hby at_175) rfl rfl ?_
    show Steps p.tables e below (T52.setTop (mkF m 177 #[.val (.int pa), .val (.int pb), .val (.int pc), .val (.long pre0_), .second, .val (.int pf), .val (.int pq), .val (.int xo), .val (.int cn), .val (.ref al), .val (.int wa), .val (.int wb), .val (.int wc), .val (.int wq), .val (.ref aw), .val (.ref bo), .val (.long ea), .second, .val (.long eb), .second, .val (.long ec), .second, .val (.long eq), .second] [(.ref bo)])) _
    refine XS.iload X52.here hx rfl (hb hby at_177) rfl ?_
    show Steps p.tables e below (T52.setTop (mkF m 179 #[.val (.int pa), .val (.int pb), .val (.int pc), .val (.long pre0_), .second, .val (.int pf), .val (.int pq), .val (.int xo), .val (.int cn), .val (.ref al), .val (.int wa), .val (.int wb), .val (.int wc), .val (.int wq), .val (.ref aw), .val (.ref bo), .val (.long ea), .second, .val (.long eb), .second, .val (.long ec), .second, .val (.long eq), .second] [(.int wa), (.ref bo)])) _
    refine st58.trans ?_
    show Steps p.tables e below (T58.setTop (mkF m 182 #[.val (.int pa), .val (.int pb), .val (.int pc), .val (.long pre0_), .second, .val (.int pf), .val (.int pq), .val (.int xo), .val (.int cn), .val (.ref al), .val (.int wa), .val (.int wb), .val (.int wc), .val (.int wq), .val (.ref aw), .val (.ref bo), .val (.long ea), .second, .val (.long eb), .second, .val (.long ec), .second, .val (.long eq), .second] [(.long (ft (own_kx (fl 0))))])) _
    refine XS.lload X58.here hx rfl (hb hby at_182) rfl ?_
    show Steps p.tables e below (T58.setTop (mkF m 184 #[.val (.int pa), .val (.int pb), .val (.int pc), .val (.long pre0_), .second, .val (.int pf), .val (.int pq), .val (.int xo), .val (.int cn), .val (.ref al), .val (.int wa), .val (.int wb), .val (.int wc), .val (.int wq), .val (.ref aw), .val (.ref bo), .val (.long ea), .second, .val (.long eb), .second, .val (.long ec), .second, .val (.long eq), .second] [(.long ea), (.long (ft (own_kx (fl 0))))])) _
    refine XT.lcmp X58.here hx rfl (hb hby at_184) rfl ?_
    exact kt
  by_cases hc185_60 : (ft (own_kx (fl 0))) = ea
  · skip
    obtain ⟨cq61, kq61, q61a, q61b, q61c⟩ := isOf hZ hE58 p52_0
    obtain ⟨_, _, ⟨T61, L61, k61, n61⟩, -, X61, ⟨Lc61, hQ61, l61, y61, z61⟩, st61⟩ := X58.virtualBack hx (y := (⟨"com/example/bitweight/bitweight/chunk/WordChunk", "word", "(I)J"⟩ : MethodName)) (z := (⟨"com/example/bitweight/bitweight/chunk/WordChunk", "word", "(I)J"⟩ : MethodName)) hown (mvT hZ (hw _ (List.mem_of_getElem? (i := 52) rfl))) (mvT hZ (hw _ (List.mem_of_getElem? (i := 53) rfl))) (notFace_of_selects (args := #[]) (mvT hZ (hw _ (List.mem_of_getElem? (i := 55) rfl)))) (mvT hZ (hw _ (List.mem_of_getElem? (i := 55) rfl))) (mvT hZ (hw _ (List.mem_of_getElem? (i := 54) rfl))) (by decide) (backOf (W := 0) (rm11 l Z a0 hw [] bo wb aw ft (own_kx (fl 1)) T52.heap n0 Z57 p52_1 p52_2 (own_kd (hfl 1 (by decide)) h_wb) (own_kx2 (hfl 1 (by decide)))) hZ (hw _ (List.mem_of_getElem? (i := 56) rfl)) (hw _ (List.mem_of_getElem? (i := 4) rfl)) (by decide) (by decide)) q61a q61c (g := (mkF m 192 #[.val (.int pa), .val (.int pb), .val (.int pc), .val (.long pre0_), .second, .val (.int pf), .val (.int pq), .val (.int xo), .val (.int cn), .val (.ref al), .val (.int wa), .val (.int wb), .val (.int wc), .val (.int wq), .val (.ref aw), .val (.ref bo), .val (.long ea), .second, .val (.long eb), .second, .val (.long ec), .second, .val (.long eq), .second] [(.int wb), (.ref bo)])) rfl (by rw [hml]; rfl) (Steps.refl _) (argsL := [(.int wb)]) (rest := []) (lenOf pd_8 rfl) rfl (by show 2 * 0 + _ ≤ _; exact Nat.le_of_eq rfl) (hb hby at_192) (fun _ _ => ⟨rfl, hE58, (by decide : 3 + 0 ≤ _), (by decide : 1030 + 0 ≤ _)⟩)
    dsimp only [Pt.U, Pt.locs, Pt.cells, Pt.slots] at X61 l61 y61 z61 st61 hQ61
    subst l61 y61 z61
    obtain ⟨rfl, N61q, hE61⟩ := hQ61
    have N61 := Fr.app N58 N61q
    have pre62 : ∀ t, Steps p.tables e below (T61.setTop (mkF m 198 #[.val (.int pa), .val (.int pb), .val (.int pc), .val (.long pre0_), .second, .val (.int pf), .val (.int pq), .val (.int xo), .val (.int cn), .val (.ref al), .val (.int wa), .val (.int wb), .val (.int wc), .val (.int wq), .val (.ref aw), .val (.ref bo), .val (.long ea), .second, .val (.long eb), .second, .val (.long ec), .second, .val (.long eq), .second] [(.int (XT.cmpL (ft (own_kx (fl 1))) eb))])) t → Steps p.tables e below (s₁.setTop (entryFrame m #[(.int pa), (.int pb), (.int pc), (.long pre0_), (.int pf), (.int pq)] maxLocals)) t := by
      intro t kt
      refine pre59 _ ?_
      show Steps p.tables e below (T58.setTop (mkF m 185 #[.val (.int pa), .val (.int pb), .val (.int pc), .val (.long pre0_), .second, .val (.int pf), .val (.int pq), .val (.int xo), .val (.int cn), .val (.ref al), .val (.int wa), .val (.int wb), .val (.int wc), .val (.int wq), .val (.ref aw), .val (.ref bo), .val (.long ea), .second, .val (.long eb), .second, .val (.long ec), .second, .val (.long eq), .second] [(.int (XT.cmpL (ft (own_kx (fl 0))) ea))])) _
      refine XS.ifNo X58.here hx rfl (hb hby at_185) rfl (XT.ll_ne_f hc185_60) ?_
      show Steps p.tables e below (T58.setTop (mkF m 188 #[.val (.int pa), .val (.int pb), .val (.int pc), .val (.long pre0_), .second, .val (.int pf), .val (.int pq), .val (.int xo), .val (.int cn), .val (.ref al), .val (.int wa), .val (.int wb), .val (.int wc), .val (.int wq), .val (.ref aw), .val (.ref bo), .val (.long ea), .second, .val (.long eb), .second, .val (.long ec), .second, .val (.long eq), .second] [])) _
      refine XS.aload X58.here hx rfl (hb hby at_188) rfl rfl ?_
      show Steps p.tables e below (T58.setTop (mkF m 190 #[.val (.int pa), .val (.int pb), .val (.int pc), .val (.long pre0_), .second, .val (.int pf), .val (.int pq), .val (.int xo), .val (.int cn), .val (.ref al), .val (.int wa), .val (.int wb), .val (.int wc), .val (.int wq), .val (.ref aw), .val (.ref bo), .val (.long ea), .second, .val (.long eb), .second, .val (.long ec), .second, .val (.long eq), .second] [(.ref bo)])) _
      refine XS.iload X58.here hx rfl (hb hby at_190) rfl ?_
      show Steps p.tables e below (T58.setTop (mkF m 192 #[.val (.int pa), .val (.int pb), .val (.int pc), .val (.long pre0_), .second, .val (.int pf), .val (.int pq), .val (.int xo), .val (.int cn), .val (.ref al), .val (.int wa), .val (.int wb), .val (.int wc), .val (.int wq), .val (.ref aw), .val (.ref bo), .val (.long ea), .second, .val (.long eb), .second, .val (.long ec), .second, .val (.long eq), .second] [(.int wb), (.ref bo)])) _
      refine st61.trans ?_
      show Steps p.tables e below (T61.setTop (mkF m 195 #[.val (.int pa), .val (.int pb), .val (.int pc), .val (.long pre0_), .second, .val (.int pf), .val (.int pq), .val (.int xo), .val (.int cn), .val (.ref al), .val (.int wa), .val (.int wb), .val (.int wc), .val (.int wq), .val (.ref aw), .val (.ref bo), .val (.long ea), .second, .val (.long eb), .second, .val (.long ec), .second, .val (.long eq), .second] [(.long (ft (own_kx (fl 1))))])) _
      refine XS.lload X61.here hx rfl (hb hby at_195) rfl ?_
      show Steps p.tables e below (T61.setTop (mkF m 197 #[.val (.int pa), .val (.int pb), .val (.int pc), .val (.long pre0_), .second, .val (.int pf), .val (.int pq), .val (.int xo), .val (.int cn), .val (.ref al), .val (.int wa), .val (.int wb), .val (.int wc), .val (.int wq), .val (.ref aw), .val (.ref bo), .val (.long ea), .second, .val (.long eb), .second, .val (.long ec), .second, .val (.long eq), .second] [(.long eb), (.long (ft (own_kx (fl 1))))])) _
      refine XT.lcmp X61.here hx rfl (hb hby at_197) rfl ?_
      exact kt
    by_cases hc198_63 : (ft (own_kx (fl 1))) = eb
    · skip
      obtain ⟨cq64, kq64, q64a, q64b, q64c⟩ := isOf hZ hE61 p52_0
      obtain ⟨_, _, ⟨T64, L64, k64, n64⟩, -, X64, ⟨Lc64, hQ64, l64, y64, z64⟩, st64⟩ := X61.virtualBack hx (y := (⟨"com/example/bitweight/bitweight/chunk/WordChunk", "word", "(I)J"⟩ : MethodName)) (z := (⟨"com/example/bitweight/bitweight/chunk/WordChunk", "word", "(I)J"⟩ : MethodName)) hown (mvT hZ (hw _ (List.mem_of_getElem? (i := 52) rfl))) (mvT hZ (hw _ (List.mem_of_getElem? (i := 53) rfl))) (notFace_of_selects (args := #[]) (mvT hZ (hw _ (List.mem_of_getElem? (i := 55) rfl)))) (mvT hZ (hw _ (List.mem_of_getElem? (i := 55) rfl))) (mvT hZ (hw _ (List.mem_of_getElem? (i := 54) rfl))) (by decide) (backOf (W := 0) (rm11 l Z a0 hw [] bo wc aw ft (own_kx (fl 2)) T52.heap n0 Z57 p52_1 p52_2 (own_kd (hfl 2 (by decide)) h_wc) (own_kx2 (hfl 2 (by decide)))) hZ (hw _ (List.mem_of_getElem? (i := 56) rfl)) (hw _ (List.mem_of_getElem? (i := 4) rfl)) (by decide) (by decide)) q64a q64c (g := (mkF m 205 #[.val (.int pa), .val (.int pb), .val (.int pc), .val (.long pre0_), .second, .val (.int pf), .val (.int pq), .val (.int xo), .val (.int cn), .val (.ref al), .val (.int wa), .val (.int wb), .val (.int wc), .val (.int wq), .val (.ref aw), .val (.ref bo), .val (.long ea), .second, .val (.long eb), .second, .val (.long ec), .second, .val (.long eq), .second] [(.int wc), (.ref bo)])) rfl (by rw [hml]; rfl) (Steps.refl _) (argsL := [(.int wc)]) (rest := []) (lenOf pd_8 rfl) rfl (by show 2 * 0 + _ ≤ _; exact Nat.le_of_eq rfl) (hb hby at_205) (fun _ _ => ⟨rfl, hE61, (by decide : 3 + 0 ≤ _), (by decide : 1030 + 0 ≤ _)⟩)
      dsimp only [Pt.U, Pt.locs, Pt.cells, Pt.slots] at X64 l64 y64 z64 st64 hQ64
      subst l64 y64 z64
      obtain ⟨rfl, N64q, hE64⟩ := hQ64
      have N64 := Fr.app N61 N64q
      have pre65 : ∀ t, Steps p.tables e below (T64.setTop (mkF m 211 #[.val (.int pa), .val (.int pb), .val (.int pc), .val (.long pre0_), .second, .val (.int pf), .val (.int pq), .val (.int xo), .val (.int cn), .val (.ref al), .val (.int wa), .val (.int wb), .val (.int wc), .val (.int wq), .val (.ref aw), .val (.ref bo), .val (.long ea), .second, .val (.long eb), .second, .val (.long ec), .second, .val (.long eq), .second] [(.int (XT.cmpL (ft (own_kx (fl 2))) ec))])) t → Steps p.tables e below (s₁.setTop (entryFrame m #[(.int pa), (.int pb), (.int pc), (.long pre0_), (.int pf), (.int pq)] maxLocals)) t := by
        intro t kt
        refine pre62 _ ?_
        show Steps p.tables e below (T61.setTop (mkF m 198 #[.val (.int pa), .val (.int pb), .val (.int pc), .val (.long pre0_), .second, .val (.int pf), .val (.int pq), .val (.int xo), .val (.int cn), .val (.ref al), .val (.int wa), .val (.int wb), .val (.int wc), .val (.int wq), .val (.ref aw), .val (.ref bo), .val (.long ea), .second, .val (.long eb), .second, .val (.long ec), .second, .val (.long eq), .second] [(.int (XT.cmpL (ft (own_kx (fl 1))) eb))])) _
        refine XS.ifNo X61.here hx rfl (hb hby at_198) rfl (XT.ll_ne_f hc198_63) ?_
        show Steps p.tables e below (T61.setTop (mkF m 201 #[.val (.int pa), .val (.int pb), .val (.int pc), .val (.long pre0_), .second, .val (.int pf), .val (.int pq), .val (.int xo), .val (.int cn), .val (.ref al), .val (.int wa), .val (.int wb), .val (.int wc), .val (.int wq), .val (.ref aw), .val (.ref bo), .val (.long ea), .second, .val (.long eb), .second, .val (.long ec), .second, .val (.long eq), .second] [])) _
        refine XS.aload X61.here hx rfl (hb hby at_201) rfl rfl ?_
        show Steps p.tables e below (T61.setTop (mkF m 203 #[.val (.int pa), .val (.int pb), .val (.int pc), .val (.long pre0_), .second, .val (.int pf), .val (.int pq), .val (.int xo), .val (.int cn), .val (.ref al), .val (.int wa), .val (.int wb), .val (.int wc), .val (.int wq), .val (.ref aw), .val (.ref bo), .val (.long ea), .second, .val (.long eb), .second, .val (.long ec), .second, .val (.long eq), .second] [(.ref bo)])) _
        refine XS.iload X61.here hx rfl (hb hby at_203) rfl ?_
        show Steps p.tables e below (T61.setTop (mkF m 205 #[.val (.int pa), .val (.int pb), .val (.int pc), .val (.long pre0_), .second, .val (.int pf), .val (.int pq), .val (.int xo), .val (.int cn), .val (.ref al), .val (.int wa), .val (.int wb), .val (.int wc), .val (.int wq), .val (.ref aw), .val (.ref bo), .val (.long ea), .second, .val (.long eb), .second, .val (.long ec), .second, .val (.long eq), .second] [(.int wc), (.ref bo)])) _
        refine st64.trans ?_
        show Steps p.tables e below (T64.setTop (mkF m 208 #[.val (.int pa), .val (.int pb), .val (.int pc), .val (.long pre0_), .second, .val (.int pf), .val (.int pq), .val (.int xo), .val (.int cn), .val (.ref al), .val (.int wa), .val (.int wb), .val (.int wc), .val (.int wq), .val (.ref aw), .val (.ref bo), .val (.long ea), .second, .val (.long eb), .second, .val (.long ec), .second, .val (.long eq), .second] [(.long (ft (own_kx (fl 2))))])) _
        refine XS.lload X64.here hx rfl (hb hby at_208) rfl ?_
        show Steps p.tables e below (T64.setTop (mkF m 210 #[.val (.int pa), .val (.int pb), .val (.int pc), .val (.long pre0_), .second, .val (.int pf), .val (.int pq), .val (.int xo), .val (.int cn), .val (.ref al), .val (.int wa), .val (.int wb), .val (.int wc), .val (.int wq), .val (.ref aw), .val (.ref bo), .val (.long ea), .second, .val (.long eb), .second, .val (.long ec), .second, .val (.long eq), .second] [(.long ec), (.long (ft (own_kx (fl 2))))])) _
        refine XT.lcmp X64.here hx rfl (hb hby at_210) rfl ?_
        exact kt
      by_cases hc211_66 : (ft (own_kx (fl 2))) = ec
      · skip
        obtain ⟨cq67, kq67, q67a, q67b, q67c⟩ := isOf hZ hE64 p52_0
        obtain ⟨_, _, ⟨T67, L67, k67, n67⟩, -, X67, ⟨Lc67, hQ67, l67, y67, z67⟩, st67⟩ := X64.virtualBack hx (y := (⟨"com/example/bitweight/bitweight/chunk/WordChunk", "word", "(I)J"⟩ : MethodName)) (z := (⟨"com/example/bitweight/bitweight/chunk/WordChunk", "word", "(I)J"⟩ : MethodName)) hown (mvT hZ (hw _ (List.mem_of_getElem? (i := 52) rfl))) (mvT hZ (hw _ (List.mem_of_getElem? (i := 53) rfl))) (notFace_of_selects (args := #[]) (mvT hZ (hw _ (List.mem_of_getElem? (i := 55) rfl)))) (mvT hZ (hw _ (List.mem_of_getElem? (i := 55) rfl))) (mvT hZ (hw _ (List.mem_of_getElem? (i := 54) rfl))) (by decide) (backOf (W := 0) (rm11 l Z a0 hw [] bo wq aw ft kq T52.heap n0 Z57 p52_1 p52_2 h_kq h_kq2) hZ (hw _ (List.mem_of_getElem? (i := 56) rfl)) (hw _ (List.mem_of_getElem? (i := 4) rfl)) (by decide) (by decide)) q67a q67c (g := (mkF m 218 #[.val (.int pa), .val (.int pb), .val (.int pc), .val (.long pre0_), .second, .val (.int pf), .val (.int pq), .val (.int xo), .val (.int cn), .val (.ref al), .val (.int wa), .val (.int wb), .val (.int wc), .val (.int wq), .val (.ref aw), .val (.ref bo), .val (.long ea), .second, .val (.long eb), .second, .val (.long ec), .second, .val (.long eq), .second] [(.int wq), (.ref bo)])) rfl (by rw [hml]; rfl) (Steps.refl _) (argsL := [(.int wq)]) (rest := []) (lenOf pd_8 rfl) rfl (by show 2 * 0 + _ ≤ _; exact Nat.le_of_eq rfl) (hb hby at_218) (fun _ _ => ⟨rfl, hE64, (by decide : 3 + 0 ≤ _), (by decide : 1030 + 0 ≤ _)⟩)
        dsimp only [Pt.U, Pt.locs, Pt.cells, Pt.slots] at X67 l67 y67 z67 st67 hQ67
        subst l67 y67 z67
        obtain ⟨rfl, N67q, hE67⟩ := hQ67
        have N67 := Fr.app N64 N67q
        have pre68 : ∀ t, Steps p.tables e below (T67.setTop (mkF m 224 #[.val (.int pa), .val (.int pb), .val (.int pc), .val (.long pre0_), .second, .val (.int pf), .val (.int pq), .val (.int xo), .val (.int cn), .val (.ref al), .val (.int wa), .val (.int wb), .val (.int wc), .val (.int wq), .val (.ref aw), .val (.ref bo), .val (.long ea), .second, .val (.long eb), .second, .val (.long ec), .second, .val (.long eq), .second] [(.int (XT.cmpL (ft kq) eq))])) t → Steps p.tables e below (s₁.setTop (entryFrame m #[(.int pa), (.int pb), (.int pc), (.long pre0_), (.int pf), (.int pq)] maxLocals)) t := by
          intro t kt
          refine pre65 _ ?_
          show Steps p.tables e below (T64.setTop (mkF m 211 #[.val (.int pa), .val (.int pb), .val (.int pc), .val (.long pre0_), .second, .val (.int pf), .val (.int pq), .val (.int xo), .val (.int cn), .val (.ref al), .val (.int wa), .val (.int wb), .val (.int wc), .val (.int wq), .val (.ref aw), .val (.ref bo), .val (.long ea), .second, .val (.long eb), .second, .val (.long ec), .second, .val (.long eq), .second] [(.int (XT.cmpL (ft (own_kx (fl 2))) ec))])) _
          refine XS.ifNo X64.here hx rfl (hb hby at_211) rfl (XT.ll_ne_f hc211_66) ?_
          show Steps p.tables e below (T64.setTop (mkF m 214 #[.val (.int pa), .val (.int pb), .val (.int pc), .val (.long pre0_), .second, .val (.int pf), .val (.int pq), .val (.int xo), .val (.int cn), .val (.ref al), .val (.int wa), .val (.int wb), .val (.int wc), .val (.int wq), .val (.ref aw), .val (.ref bo), .val (.long ea), .second, .val (.long eb), .second, .val (.long ec), .second, .val (.long eq), .second] [])) _
          refine XS.aload X64.here hx rfl (hb hby at_214) rfl rfl ?_
          show Steps p.tables e below (T64.setTop (mkF m 216 #[.val (.int pa), .val (.int pb), .val (.int pc), .val (.long pre0_), .second, .val (.int pf), .val (.int pq), .val (.int xo), .val (.int cn), .val (.ref al), .val (.int wa), .val (.int wb), .val (.int wc), .val (.int wq), .val (.ref aw), .val (.ref bo), .val (.long ea), .second, .val (.long eb), .second, .val (.long ec), .second, .val (.long eq), .second] [(.ref bo)])) _
          refine XS.iload X64.here hx rfl (hb hby at_216) rfl ?_
          show Steps p.tables e below (T64.setTop (mkF m 218 #[.val (.int pa), .val (.int pb), .val (.int pc), .val (.long pre0_), .second, .val (.int pf), .val (.int pq), .val (.int xo), .val (.int cn), .val (.ref al), .val (.int wa), .val (.int wb), .val (.int wc), .val (.int wq), .val (.ref aw), .val (.ref bo), .val (.long ea), .second, .val (.long eb), .second, .val (.long ec), .second, .val (.long eq), .second] [(.int wq), (.ref bo)])) _
          refine st67.trans ?_
          show Steps p.tables e below (T67.setTop (mkF m 221 #[.val (.int pa), .val (.int pb), .val (.int pc), .val (.long pre0_), .second, .val (.int pf), .val (.int pq), .val (.int xo), .val (.int cn), .val (.ref al), .val (.int wa), .val (.int wb), .val (.int wc), .val (.int wq), .val (.ref aw), .val (.ref bo), .val (.long ea), .second, .val (.long eb), .second, .val (.long ec), .second, .val (.long eq), .second] [(.long (ft kq))])) _
          refine XS.lload X67.here hx rfl (hb hby at_221) rfl ?_
          show Steps p.tables e below (T67.setTop (mkF m 223 #[.val (.int pa), .val (.int pb), .val (.int pc), .val (.long pre0_), .second, .val (.int pf), .val (.int pq), .val (.int xo), .val (.int cn), .val (.ref al), .val (.int wa), .val (.int wb), .val (.int wc), .val (.int wq), .val (.ref aw), .val (.ref bo), .val (.long ea), .second, .val (.long eb), .second, .val (.long ec), .second, .val (.long eq), .second] [(.long eq), (.long (ft kq))])) _
          refine XT.lcmp X67.here hx rfl (hb hby at_223) rfl ?_
          exact kt
        by_cases hc224_69 : (ft kq) = eq
        · skip
          have pre70 : ∀ t, Steps p.tables e below (T67.setTop (mkF m 232 #[.val (.int pa), .val (.int pb), .val (.int pc), .val (.long pre0_), .second, .val (.int pf), .val (.int pq), .val (.int xo), .val (.int cn), .val (.ref al), .val (.int wa), .val (.int wb), .val (.int wc), .val (.int wq), .val (.ref aw), .val (.ref bo), .val (.long ea), .second, .val (.long eb), .second, .val (.long ec), .second, .val (.long eq), .second] [(.int (1 : Int32))])) t → Steps p.tables e below (s₁.setTop (entryFrame m #[(.int pa), (.int pb), (.int pc), (.long pre0_), (.int pf), (.int pq)] maxLocals)) t := by
            intro t kt
            refine pre68 _ ?_
            show Steps p.tables e below (T67.setTop (mkF m 224 #[.val (.int pa), .val (.int pb), .val (.int pc), .val (.long pre0_), .second, .val (.int pf), .val (.int pq), .val (.int xo), .val (.int cn), .val (.ref al), .val (.int wa), .val (.int wb), .val (.int wc), .val (.int wq), .val (.ref aw), .val (.ref bo), .val (.long ea), .second, .val (.long eb), .second, .val (.long ec), .second, .val (.long eq), .second] [(.int (XT.cmpL (ft kq) eq))])) _
            refine XS.ifNo X67.here hx rfl (hb hby at_224) rfl (XT.ll_ne_f hc224_69) ?_
            show Steps p.tables e below (T67.setTop (mkF m 227 #[.val (.int pa), .val (.int pb), .val (.int pc), .val (.long pre0_), .second, .val (.int pf), .val (.int pq), .val (.int xo), .val (.int cn), .val (.ref al), .val (.int wa), .val (.int wb), .val (.int wc), .val (.int wq), .val (.ref aw), .val (.ref bo), .val (.long ea), .second, .val (.long eb), .second, .val (.long ec), .second, .val (.long eq), .second] [])) _
            refine XS.iconst X67.here hx rfl (hb hby at_227) ?_
            show Steps p.tables e below (T67.setTop (mkF m 228 #[.val (.int pa), .val (.int pb), .val (.int pc), .val (.long pre0_), .second, .val (.int pf), .val (.int pq), .val (.int xo), .val (.int cn), .val (.ref al), .val (.int wa), .val (.int wb), .val (.int wc), .val (.int wq), .val (.ref aw), .val (.ref bo), .val (.long ea), .second, .val (.long eb), .second, .val (.long ec), .second, .val (.long eq), .second] [(.int (1 : Int32))])) _
            refine XS.goto X67.here hx rfl (pc0 := 228) (pc' := 232) rfl (hb hby at_228) (by decide) (by decide) ?_
            exact kt
          obtain ⟨fs, hr, hrun, hended, hW, hsame⟩ := X67.leave (v := some (.int (1 : Int32))) (fun h => by rw [Bd.returns] at h; cases h)
          refine ⟨_, _, pre70 _ ?_, hrun, hended, _, _, rfl, ?_, ⟨_, rfl⟩, hW, hsame.mono (by decide) (by decide)⟩
          · show Steps p.tables e below (T67.setTop (mkF m 232 #[.val (.int pa), .val (.int pb), .val (.int pc), .val (.long pre0_), .second, .val (.int pf), .val (.int pq), .val (.int xo), .val (.int cn), .val (.ref al), .val (.int wa), .val (.int wb), .val (.int wc), .val (.int wq), .val (.ref aw), .val (.ref bo), .val (.long ea), .second, .val (.long eb), .second, .val (.long ec), .second, .val (.long eq), .second] [(.int (1 : Int32))])) _
            exact retN X67 hx (t := .boolean) Bd.returns (by simp) (hb hby at_232) hr
          · show Q0 Z pa pb pc pre0_ pf pq h0 n0 _ T67.heap _
            rw [hE67]
            exact ⟨rfl, N67⟩
        · skip
          exact absurd (own_law al wq kq fl fz ft pre0_ wa cn xo eq h_eq h_fz h_ft h_wa hfl h_kq h_kq2) hc224_69
      · skip
        exact absurd (own_law al wc (own_kx (fl 2)) fl fz ft pre0_ wa cn xo ec h_ec h_fz h_ft h_wa hfl (own_kd (hfl 2 (by decide)) h_wc) (own_kx2 (hfl 2 (by decide)))) hc211_66
    · skip
      exact absurd (own_law al wb (own_kx (fl 1)) fl fz ft pre0_ wa cn xo eb h_eb h_fz h_ft h_wa hfl (own_kd (hfl 1 (by decide)) h_wb) (own_kx2 (hfl 1 (by decide)))) hc198_63
  · skip
    exact absurd (own_law al wa (own_kx (fl 0)) fl fz ft pre0_ wa cn xo ea h_ea h_fz h_ft h_wa hfl (own_kd (hfl 0 (by decide)) h_wa) (own_kx2 (hfl 0 (by decide)))) hc185_60
set_option maxRecDepth 65536 in
set_option maxHeartbeats 40000000 in
theorem comes_1 {Post : Tables → Env → Array Value → State → Outcome → State → Prop} (hpost : ∀ tb e args s v u, (limb_1_1.after args s (.returned v) u = true ∧ limb_1_2.after args s (.returned v) u = true ∧ True) → FrameEnd s (.returned v) u (Jvm.fieldLocs frame_1_writes args s ++ Jvm.arrayLocs frame_1_arrays args s ++ Jvm.staticLocs frame_1_statics s) 16 2176 → Post tb e args s (.returned v) u) :
    ArmFor flags0 classFile x code maxLocals ret World_1 tables_1 room_1 Calls_1 rest_1 Pre_1 Post := by
  intro l hfl _ _ p e ha hc hk s m args below hf hA hF happ hP
  obtain ⟨hcalls, hrest, hpre⟩ := hP
  obtain ⟨-, -, -, hnamed, -, -, -, hat⟩ := (Spec.applies_iff hf).mp happ
  obtain ⟨hg, hn⟩ := and_e (Cond.before_iff.mp (show (Jvm.Cond.and given_1 narrow_1).before args s = true from hpre))
  obtain ⟨g1, g2⟩ := and_e hg
  obtain ⟨g3, g4⟩ := and_e g2
  obtain ⟨g5, g6⟩ := and_e g4
  obtain ⟨g7, g8⟩ := and_e g6
  obtain ⟨g9, g10⟩ := and_e g8
  obtain ⟨g11, g12⟩ := and_e g10
  obtain ⟨w0, w1, w2, w3, w4, w5, rfl⟩ : ∃ w0 w1 w2 w3 w4 w5 : Value, args = #[w0, w1, w2, w3, w4, w5] := by
    have hs : args.size = 6 := by simpa [Cond.value, given_1] using g1
    obtain ⟨L⟩ := args
    match L, hs with
    | [w0, w1, w2, w3, w4, w5], _ => exact ⟨w0, w1, w2, w3, w4, w5, rfl⟩
  have hw := fun d (hd : d ∈ tables_1) => atoms_spec (ws := Jvm.Cond.code x code maxLocals ret :: tables_1) hat d (List.mem_cons_of_mem _ hd)
  have hfit : Fit s := fun {y c} hc i hi => by
    obtain ⟨ha, rfl⟩ := Array.getElem?_eq_some_iff.mp hc
    have q := List.all_eq_true.mp ((Array.all_eq_true_iff_forall_mem.mp hF) _ (Array.getElem_mem ha)) i (List.mem_range.mpr hi)
    simpa [Array.getElem?_eq_getElem hi] using q
  obtain ⟨i0, ei0⟩ := is_v g3
  obtain rfl : w0 = (.int i0) := Option.some.inj ei0
  obtain ⟨i1, ei1⟩ := is_v g5
  obtain rfl : w1 = (.int i1) := Option.some.inj ei1
  obtain ⟨i2, ei2⟩ := is_v g7
  obtain rfl : w2 = (.int i2) := Option.some.inj ei2
  obtain ⟨i3, ei3⟩ := isL_v g9
  obtain rfl : w3 = (.long i3) := Option.some.inj ei3
  obtain ⟨i4, ei4⟩ := is_v g11
  obtain rfl : w4 = (.int i4) := Option.some.inj ei4
  obtain ⟨i5, ei5⟩ := is_v g12
  obtain rfl : w5 = (.int i5) := Option.some.inj ei5
  obtain ⟨n, o, h1, h2, h3, _, L, rfl, ⟨rfl, N⟩, hq⟩ := rm0 l s _ hw tables_1 i0 i1 i2 i3 i4 i5 s.heap s.heap.size (Nat.le_refl _) p e ha hc hk s m _ below hf ((Spec.applies_iff_loose hf).mp happ).1 ⟨rfl, State.Warmed39.refl s, rfl⟩ trivial
  refine ⟨n, _, h1, h2, h3, hpost _ _ _ _ _ _ ⟨Cond.after_iff.mpr rfl, Cond.after_iff.mpr (eq_i res_at (Term.int_eval (1)) rfl), trivial⟩ ⟨hq.1, hq.2.1, (hq.2.2.sift fun y hy => Or.inr (N y hy)).mono (by decide) (by decide)⟩⟩
theorem main_1_1 : Claimed_1_1 := comes_1 fun _ _ _ _ _ _ h hF => ⟨h.1, hF⟩
theorem main_1_2 : Claimed_1_2 := comes_1 fun _ _ _ _ _ _ h hF => ⟨h.2.1, hF⟩
end Jvm.Pilot.@@N@@
namespace Jvm.Pilot.@@N@@
open Jvm Jvm.ClassFile Sem Op Lib Jvm.Free Jvm.Stand Jvm.Pilot.@@N@@.Jvm.D
/-! MADE BY PROGRAM (witnessworld.py) out of the Statement's table words and the real class files: 20 classes; the members and pool entries that the words name. The judged class is class 1, her method 1. -/
namespace start1
open Jvm.ClassFile
def u (s : String) : CpInfo := .utf8 (stringToUtf16 s)
/-- a pool by its gaps: so many unusable entries, then the entry; so many at the end -/
def gap : Nat → List CpInfo → List CpInfo
  | 0, r => r
  | n + 1, r => .unusable :: gap n r
def poolList (es : List (Nat × CpInfo)) (last : Nat) : List CpInfo := es.foldr (fun e r => gap e.1 (e.2 :: r)) (gap last [])
def pool (es : List (Nat × CpInfo)) (last : Nat) : Array CpInfo := ⟨poolList es last⟩
def fileOf (pool : Array CpInfo) (this : Nat) (attrs : Array Attribute := #[]) (ms : Array MethodInfo := #[]) (fl : Nat := 33) (sup : Nat := 0) (ifs : Array Nat := #[]) (fds : Array FieldInfo := #[]) : ClassFile where
  minorVersion := 0
  majorVersion := 65
  constantPool := pool
  accessFlags := fl
  thisClass := this
  superClass := sup
  interfaces := ifs
  fields := fds
  methods := ms
  attributes := attrs
def plain (name : String) (sup : Option ClassId) : Class where
  name := name
  kind := .ordinary
  loader := none
  accessFlags := 33
  super := sup
  interfaces := #[]
  cf := none
  fields := #[]
  methods := #[]
  instanceTypes := #[]
  staticTypes := #[]
  resolved := #[]
  callSites := []
  init := .initialized
  statics := none
  mirror := none

def pool0 : Array CpInfo := pool [(5, u "<init>"), (0, u "()V"), (1, .class_ 10), (1, u "java/lang/Object")] 113

def k0c0 : Code := { maxStack := 0, maxLocals := 1, code := object_method_1_code, exceptionTable := #[], attributes := #[] }
def k0m0 : Method := { name := "<init>", desc := "()V", sig := { parameters := [], returnType := none }, accessFlags := 1, code := some k0c0 }
/-- java/lang/Object -/
def k0 : Class := { plain "java/lang/Object" none with
  accessFlags := 33
  interfaces := #[]
  cf := some (fileOf pool0 8 #[] #[{ accessFlags := 1, nameIndex := 5, descriptorIndex := 6, attributes := #[] }] 33 0 #[] #[])
  fields := #[]
  methods := #[k0m0]
  instanceTypes := #[]
  staticTypes := #[]
  resolved := Array.replicate 124 none
  statics := none }

def pool1 : Array CpInfo := pool [(2, .class_ 4), (1, u "java/lang/Object"), (0, u "<init>"), (0, u "()V"), (0, .methodref 8 9), (0, .class_ 10), (0, .nameAndType 11 12), (0, u "com/example/bitweight/bitweight/chunk/WordChunk"), (0, u "of"), (0, u "([J)Lcom/example/bitweight/bitweight/chunk/WordChunk;"), (0, .methodref 14 15), (0, .class_ 16), (0, .nameAndType 17 18), (0, u "com/example/bitweight/bitweight/chunk/WordChunkTakeInPinLaw"), (0, u "expect"), (0, u "(IIJ[CIZ)J"), (0, .methodref 8 20), (0, .nameAndType 21 22), (0, u "takeIn"), (0, u "([CIZ)V"), (0, .methodref 8 24), (0, .nameAndType 25 26), (0, u "word"), (0, u "(I)J"), (0, .methodref 14 28), (0, .nameAndType 29 30), (0, u "step"), (0, u "(JICZZ)J"), (2, u "law"), (0, u "(IIIJII)Z")] 7

def k1m0 : Method := { name := "<init>", desc := "()V", sig := { parameters := [], returnType := none }, accessFlags := 2, code := none }
def k1c1 : Code := { maxStack := 7, maxLocals := 24, code := code, exceptionTable := #[], attributes := #[] }
def k1m1 : Method := { name := "law", desc := "(IIIJII)Z", sig := { parameters := [.int, .int, .int, .long, .int, .int], returnType := some .boolean }, accessFlags := 9, code := some k1c1 }
def k1c2 : Code := { maxStack := 6, maxLocals := 9, code := method_3_code, exceptionTable := #[], attributes := #[] }
def k1m2 : Method := { name := "expect", desc := "(IIJ[CIZ)J", sig := { parameters := [.int, .int, .long, (.array .char), .int, .boolean], returnType := some .long }, accessFlags := 10, code := some k1c2 }
def k1c3 : Code := { maxStack := 4, maxLocals := 8, code := method_4_code, exceptionTable := #[], attributes := #[] }
def k1m3 : Method := { name := "step", desc := "(JICZZ)J", sig := { parameters := [.long, .int, .char, .boolean, .boolean], returnType := some .long }, accessFlags := 10, code := some k1c3 }
/-- com/example/bitweight/bitweight/chunk/WordChunkTakeInPinLaw -/
def k1 : Class := { plain "com/example/bitweight/bitweight/chunk/WordChunkTakeInPinLaw" (some 0) with
  accessFlags := 49
  interfaces := #[]
  cf := some (fileOf pool1 14 #[] #[{ accessFlags := 2, nameIndex := 5, descriptorIndex := 6, attributes := #[] }, { accessFlags := 9, nameIndex := 33, descriptorIndex := 34, attributes := #[] }, { accessFlags := 10, nameIndex := 17, descriptorIndex := 18, attributes := #[] }, { accessFlags := 10, nameIndex := 29, descriptorIndex := 30, attributes := #[] }] 49 2 #[] #[])
  fields := #[]
  methods := #[k1m0, k1m1, k1m2, k1m3]
  instanceTypes := #[]
  staticTypes := #[]
  resolved := Array.replicate 42 none
  statics := none }

def pool2 : Array CpInfo := pool [(5, .methodref 6 7), (0, .class_ 8), (0, .nameAndType 9 10), (0, u "java/lang/Object"), (0, u "<init>"), (0, u "()V"), (18, .class_ 31), (1, u "com/example/bitweight/bitweight/chunk/Chunk"), (3, .class_ 37), (1, u "com/example/bitweight/bitweight/chunk/Chunk$Form"), (235, u "VALUES"), (0, u "I"), (1, u "NO_RUN"), (0, u "J"), (0, u "SLACK"), (1, u "MANY_RUNS"), (1, u "INTO_WORDS_FROM"), (1, u "BYTES_A_VALUE_ADDED"), (1, u "VALUES_ADDED_AT_LEAST"), (0, u "AND"), (0, u "OR"), (1, u "XOR"), (1, u "AND_NOT"), (1, u "ONLY_THEIRS"), (62, .class_ 358), (0, u "com/example/bitweight/bitweight/chunk/Chunk$HeldConsumer")] 23

def k2c0 : Code := { maxStack := 1, maxLocals := 1, code := prog_23_method_3_code, exceptionTable := #[], attributes := #[] }
def k2m0 : Method := { name := "<init>", desc := "()V", sig := { parameters := [], returnType := none }, accessFlags := 0, code := some k2c0 }
/-- com/example/bitweight/bitweight/chunk/Chunk -/
def k2 : Class := { plain "com/example/bitweight/bitweight/chunk/Chunk" (some 0) with
  accessFlags := 1057
  interfaces := #[]
  cf := some (fileOf pool2 29 #[.nestMembers #[35, 357]] #[{ accessFlags := 0, nameIndex := 9, descriptorIndex := 10, attributes := #[] }] 1057 6 #[] #[{ accessFlags := 25, nameIndex := 273, descriptorIndex := 274, attributes := #[] }, { accessFlags := 25, nameIndex := 276, descriptorIndex := 277, attributes := #[] }, { accessFlags := 26, nameIndex := 278, descriptorIndex := 274, attributes := #[] }, { accessFlags := 24, nameIndex := 280, descriptorIndex := 274, attributes := #[] }, { accessFlags := 24, nameIndex := 282, descriptorIndex := 274, attributes := #[] }, { accessFlags := 26, nameIndex := 284, descriptorIndex := 274, attributes := #[] }, { accessFlags := 26, nameIndex := 286, descriptorIndex := 274, attributes := #[] }, { accessFlags := 24, nameIndex := 287, descriptorIndex := 274, attributes := #[] }, { accessFlags := 24, nameIndex := 288, descriptorIndex := 274, attributes := #[] }, { accessFlags := 24, nameIndex := 290, descriptorIndex := 274, attributes := #[] }, { accessFlags := 24, nameIndex := 292, descriptorIndex := 274, attributes := #[] }, { accessFlags := 24, nameIndex := 294, descriptorIndex := 274, attributes := #[] }])
  fields := #[{ name := "VALUES", type := .int, accessFlags := 25, slot := 0, constantValue := 0 }, { name := "NO_RUN", type := .long, accessFlags := 25, slot := 1, constantValue := 0 }, { name := "SLACK", type := .int, accessFlags := 26, slot := 2, constantValue := 0 }, { name := "MANY_RUNS", type := .int, accessFlags := 24, slot := 3, constantValue := 0 }, { name := "INTO_WORDS_FROM", type := .int, accessFlags := 24, slot := 4, constantValue := 0 }, { name := "BYTES_A_VALUE_ADDED", type := .int, accessFlags := 26, slot := 5, constantValue := 0 }, { name := "VALUES_ADDED_AT_LEAST", type := .int, accessFlags := 26, slot := 6, constantValue := 0 }, { name := "AND", type := .int, accessFlags := 24, slot := 7, constantValue := 0 }, { name := "OR", type := .int, accessFlags := 24, slot := 8, constantValue := 0 }, { name := "XOR", type := .int, accessFlags := 24, slot := 9, constantValue := 0 }, { name := "AND_NOT", type := .int, accessFlags := 24, slot := 10, constantValue := 0 }, { name := "ONLY_THEIRS", type := .int, accessFlags := 24, slot := 11, constantValue := 0 }]
  methods := #[k2m0]
  instanceTypes := #[]
  staticTypes := #[.int, .long, .int, .int, .int, .int, .int, .int, .int, .int, .int, .int]
  resolved := Array.replicate 382 none
  statics := none }

def pool3 : Array CpInfo := pool [(1, .class_ 2), (0, u "com/example/bitweight/bitweight/chunk/WordEntries"), (0, .class_ 4), (0, u "java/lang/Object")] 11

/-- com/example/bitweight/bitweight/chunk/WordEntries -/
def k3 : Class := { plain "com/example/bitweight/bitweight/chunk/WordEntries" (some 0) with
  accessFlags := 1536
  interfaces := #[]
  cf := some (fileOf pool3 1 #[] #[] 1536 3 #[] #[])
  fields := #[]
  methods := #[]
  instanceTypes := #[]
  staticTypes := #[]
  resolved := Array.replicate 16 none
  statics := none }

def pool4 : Array CpInfo := pool [(1, .class_ 2), (0, u "com/example/bitweight/bitweight/chunk/Chunk"), (2, .class_ 6), (0, u "java/lang/Long"), (2, .class_ 10), (0, u "com/example/bitweight/bitweight/chunk/WordChunk"), (0, .methodref 9 12), (0, .nameAndType 13 14), (0, u "<init>"), (0, u "([JII)V"), (0, .methodref 1 16), (0, .nameAndType 13 17), (0, u "()V"), (0, .fieldref 9 19), (0, .nameAndType 20 21), (0, u "words"), (0, u "[J"), (0, .fieldref 9 23), (0, .nameAndType 24 25), (0, u "cardinality"), (0, u "I"), (0, .fieldref 9 27), (0, .nameAndType 28 25), (0, u "runs"), (9, .methodref 9 39), (0, .nameAndType 40 17), (0, u "recount"), (10, .methodref 5 52), (0, .nameAndType 53 54), (0, u "bitCount"), (0, u "(J)I"), (2, .long 18446744073709551615), (21, .methodref 9 80), (0, .nameAndType 81 82), (0, u "runStarts"), (0, u "(JJ)I"), (5, .class_ 90), (1, u "com/example/bitweight/bitweight/chunk/WordEntries"), (0, u "word"), (0, u "(I)J"), (32, u "WORDS"), (72, u "LISTS"), (0, u "Ljava/lang/ThreadLocal;"), (19, u "of"), (81, u "BYTES"), (3, u "UNCOUNTED"), (1, u "STRETCH"), (1, u "UNROLLED"), (1, u "PACE"), (0, u "LIKELY_LISTED"), (1, u "LISTED_STRETCH"), (1, u "LISTED"), (5, u "([J)Lcom/example/bitweight/bitweight/chunk/WordChunk;"), (21, u "takeIn"), (1, u "([CIZ)V")] 57

def k4m0 : Method := { name := "<init>", desc := "()V", sig := { parameters := [], returnType := none }, accessFlags := 0, code := none }
def k4c1 : Code := { maxStack := 2, maxLocals := 4, code := prog_39_method_2_code, exceptionTable := #[], attributes := #[] }
def k4m1 : Method := { name := "<init>", desc := "([JII)V", sig := { parameters := [(.array .long), .int, .int], returnType := none }, accessFlags := 2, code := some k4c1 }
def k4c2 : Code := { maxStack := 5, maxLocals := 2, code := prog_39_method_4_code, exceptionTable := #[], attributes := #[] }
def k4m2 : Method := { name := "of", desc := "([J)Lcom/example/bitweight/bitweight/chunk/WordChunk;", sig := { parameters := [(.array .long)], returnType := some (.object "com/example/bitweight/bitweight/chunk/WordChunk") }, accessFlags := 8, code := some k4c2 }
def k4c3 : Code := { maxStack := 6, maxLocals := 4, code := prog_39_method_17_code, exceptionTable := #[], attributes := #[] }
def k4m3 : Method := { name := "runStarts", desc := "(JJ)I", sig := { parameters := [.long, .long], returnType := some .int }, accessFlags := 10, code := some k4c3 }
def k4c4 : Code := { maxStack := 2, maxLocals := 2, code := prog_39_method_19_code, exceptionTable := #[], attributes := #[] }
def k4m4 : Method := { name := "word", desc := "(I)J", sig := { parameters := [.int], returnType := some .long }, accessFlags := 1, code := some k4c4 }
def k4c5 : Code := { maxStack := 6, maxLocals := 7, code := prog_39_method_42_code, exceptionTable := #[], attributes := #[] }
def k4m5 : Method := { name := "takeIn", desc := "([CIZ)V", sig := { parameters := [(.array .char), .int, .boolean], returnType := none }, accessFlags := 0, code := some k4c5 }
def k4c6 : Code := { maxStack := 5, maxLocals := 10, code := prog_39_method_50_code, exceptionTable := #[], attributes := #[] }
def k4m6 : Method := { name := "recount", desc := "()V", sig := { parameters := [], returnType := none }, accessFlags := 2, code := some k4c6 }
/-- com/example/bitweight/bitweight/chunk/WordChunk -/
def k4 : Class := { plain "com/example/bitweight/bitweight/chunk/WordChunk" (some 2) with
  accessFlags := 48
  interfaces := #[3]
  cf := some (fileOf pool4 9 #[] #[{ accessFlags := 0, nameIndex := 13, descriptorIndex := 17, attributes := #[] }, { accessFlags := 2, nameIndex := 13, descriptorIndex := 14, attributes := #[] }, { accessFlags := 8, nameIndex := 219, descriptorIndex := 322, attributes := #[] }, { accessFlags := 10, nameIndex := 81, descriptorIndex := 82, attributes := #[] }, { accessFlags := 1, nameIndex := 91, descriptorIndex := 92, attributes := #[] }, { accessFlags := 0, nameIndex := 344, descriptorIndex := 346, attributes := #[] }, { accessFlags := 2, nameIndex := 40, descriptorIndex := 17, attributes := #[] }] 48 1 #[88] #[{ accessFlags := 24, nameIndex := 301, descriptorIndex := 25, attributes := #[] }, { accessFlags := 24, nameIndex := 125, descriptorIndex := 25, attributes := #[] }, { accessFlags := 26, nameIndex := 305, descriptorIndex := 25, attributes := #[] }, { accessFlags := 26, nameIndex := 307, descriptorIndex := 25, attributes := #[] }, { accessFlags := 26, nameIndex := 309, descriptorIndex := 25, attributes := #[] }, { accessFlags := 26, nameIndex := 311, descriptorIndex := 25, attributes := #[] }, { accessFlags := 26, nameIndex := 312, descriptorIndex := 25, attributes := #[] }, { accessFlags := 26, nameIndex := 314, descriptorIndex := 25, attributes := #[] }, { accessFlags := 26, nameIndex := 316, descriptorIndex := 25, attributes := #[] }, { accessFlags := 26, nameIndex := 198, descriptorIndex := 199, attributes := #[] }, { accessFlags := 18, nameIndex := 20, descriptorIndex := 21, attributes := #[] }, { accessFlags := 2, nameIndex := 24, descriptorIndex := 25, attributes := #[] }, { accessFlags := 2, nameIndex := 28, descriptorIndex := 25, attributes := #[] }])
  fields := #[{ name := "BYTES", type := .int, accessFlags := 24, slot := 0, constantValue := 0 }, { name := "WORDS", type := .int, accessFlags := 24, slot := 1, constantValue := 0 }, { name := "UNCOUNTED", type := .int, accessFlags := 26, slot := 2, constantValue := 0 }, { name := "STRETCH", type := .int, accessFlags := 26, slot := 3, constantValue := 0 }, { name := "UNROLLED", type := .int, accessFlags := 26, slot := 4, constantValue := 0 }, { name := "PACE", type := .int, accessFlags := 26, slot := 5, constantValue := 0 }, { name := "LIKELY_LISTED", type := .int, accessFlags := 26, slot := 6, constantValue := 0 }, { name := "LISTED_STRETCH", type := .int, accessFlags := 26, slot := 7, constantValue := 0 }, { name := "LISTED", type := .int, accessFlags := 26, slot := 8, constantValue := 0 }, { name := "LISTS", type := (.object "java/lang/ThreadLocal"), accessFlags := 26, slot := 9, constantValue := 0 }, { name := "words", type := (.array .long), accessFlags := 18, slot := 0, constantValue := 0 }, { name := "cardinality", type := .int, accessFlags := 2, slot := 1, constantValue := 0 }, { name := "runs", type := .int, accessFlags := 2, slot := 2, constantValue := 0 }]
  methods := #[k4m0, k4m1, k4m2, k4m3, k4m4, k4m5, k4m6]
  instanceTypes := #[(.array .long), .int, .int]
  staticTypes := #[.int, .int, .int, .int, .int, .int, .int, .int, .int, (.object "java/lang/ThreadLocal")]
  resolved := Array.replicate 404 none
  statics := none }

def pool5 : Array CpInfo := pool [(1, .class_ 2), (0, u "java/io/Serializable"), (0, .class_ 4), (0, u "java/lang/Object")] 2

/-- java/io/Serializable -/
def k5 : Class := { plain "java/io/Serializable" (some 0) with
  accessFlags := 1537
  interfaces := #[]
  cf := some (fileOf pool5 1 #[] #[] 1537 3 #[] #[])
  fields := #[]
  methods := #[]
  instanceTypes := #[]
  staticTypes := #[]
  resolved := Array.replicate 7 none
  statics := none }

def pool6 : Array CpInfo := pool [(2, .class_ 4), (1, u "java/lang/Object"), (0, u "<init>"), (0, u "()V"), (1, .class_ 10), (1, u "java/lang/Number"), (2, .class_ 14), (0, u "java/io/Serializable"), (0, u "serialVersionUID"), (0, u "J")] 20

def k6m0 : Method := { name := "<init>", desc := "()V", sig := { parameters := [], returnType := none }, accessFlags := 1, code := none }
/-- java/lang/Number -/
def k6 : Class := { plain "java/lang/Number" (some 0) with
  accessFlags := 1057
  interfaces := #[5]
  cf := some (fileOf pool6 8 #[] #[{ accessFlags := 1, nameIndex := 5, descriptorIndex := 6, attributes := #[] }] 1057 2 #[13] #[{ accessFlags := 26, nameIndex := 15, descriptorIndex := 16, attributes := #[] }])
  fields := #[{ name := "serialVersionUID", type := .long, accessFlags := 26, slot := 0, constantValue := 0 }]
  methods := #[k6m0]
  instanceTypes := #[]
  staticTypes := #[.long]
  resolved := Array.replicate 37 none
  statics := none }

def pool7 : Array CpInfo := pool [(1, .class_ 2), (0, u "java/lang/Comparable"), (0, .class_ 4), (0, u "java/lang/Object")] 7

/-- java/lang/Comparable -/
def k7 : Class := { plain "java/lang/Comparable" (some 0) with
  accessFlags := 1537
  interfaces := #[]
  cf := some (fileOf pool7 1 #[] #[] 1537 3 #[] #[])
  fields := #[]
  methods := #[]
  instanceTypes := #[]
  staticTypes := #[]
  resolved := Array.replicate 12 none
  statics := none }

def pool8 : Array CpInfo := pool [(1, .class_ 2), (0, u "java/lang/constant/Constable"), (0, .class_ 4), (0, u "java/lang/Object")] 6

/-- java/lang/constant/Constable -/
def k8 : Class := { plain "java/lang/constant/Constable" (some 0) with
  accessFlags := 1537
  interfaces := #[]
  cf := some (fileOf pool8 1 #[] #[] 1537 3 #[] #[])
  fields := #[]
  methods := #[]
  instanceTypes := #[]
  staticTypes := #[]
  resolved := Array.replicate 11 none
  statics := none }

def pool9 : Array CpInfo := pool [(1, .class_ 2), (0, u "java/lang/constant/ConstantDesc"), (0, .class_ 4), (0, u "java/lang/Object")] 32

/-- java/lang/constant/ConstantDesc -/
def k9 : Class := { plain "java/lang/constant/ConstantDesc" (some 0) with
  accessFlags := 1537
  interfaces := #[]
  cf := some (fileOf pool9 1 #[] #[] 1537 3 #[] #[])
  fields := #[]
  methods := #[]
  instanceTypes := #[]
  staticTypes := #[]
  resolved := Array.replicate 37 none
  statics := none }

def pool10 : Array CpInfo := pool [(1, .class_ 2), (0, u "java/lang/Long"), (98, u "(J)I"), (133, .class_ 237), (1, u "java/lang/Long$LongCache"), (33, .class_ 272), (0, u "java/lang/Number"), (2, u "value"), (0, u "J"), (37, .long 6148914691236517205), (1, .long 3689348814741910323), (1, .long 1085102592571150095), (42, u "TYPE"), (0, u "Ljava/lang/Class;"), (0, .class_ 364), (0, u "java/lang/Comparable"), (0, .class_ 366), (0, u "java/lang/constant/Constable"), (0, .class_ 368), (0, u "java/lang/constant/ConstantDesc"), (0, u "MIN_VALUE"), (1, u "MAX_VALUE"), (4, u "SIZE"), (0, u "I"), (1, u "BYTES"), (1, u "serialVersionUID"), (94, u "bitCount")] 47

def k10c0 : Code := { maxStack := 6, maxLocals := 2, code := jdk_35_method_50_code, exceptionTable := #[], attributes := #[] }
def k10m0 : Method := { name := "bitCount", desc := "(J)I", sig := { parameters := [.long], returnType := some .int }, accessFlags := 9, code := some k10c0 }
/-- java/lang/Long -/
def k10 : Class := { plain "java/lang/Long" (some 6) with
  accessFlags := 49
  interfaces := #[7, 8, 9]
  cf := some (fileOf pool10 1 #[.nestMembers #[235]] #[{ accessFlags := 9, nameIndex := 476, descriptorIndex := 101, attributes := #[] }] 49 271 #[363, 365, 367] #[{ accessFlags := 25, nameIndex := 369, descriptorIndex := 276, attributes := #[] }, { accessFlags := 25, nameIndex := 371, descriptorIndex := 276, attributes := #[] }, { accessFlags := 25, nameIndex := 361, descriptorIndex := 362, attributes := #[] }, { accessFlags := 18, nameIndex := 275, descriptorIndex := 276, attributes := #[] }, { accessFlags := 25, nameIndex := 376, descriptorIndex := 377, attributes := #[] }, { accessFlags := 25, nameIndex := 379, descriptorIndex := 377, attributes := #[] }, { accessFlags := 26, nameIndex := 381, descriptorIndex := 276, attributes := #[] }])
  fields := #[{ name := "MIN_VALUE", type := .long, accessFlags := 25, slot := 0, constantValue := 0 }, { name := "MAX_VALUE", type := .long, accessFlags := 25, slot := 1, constantValue := 0 }, { name := "TYPE", type := (.object "java/lang/Class"), accessFlags := 25, slot := 2, constantValue := 0 }, { name := "value", type := .long, accessFlags := 18, slot := 0, constantValue := 0 }, { name := "SIZE", type := .int, accessFlags := 25, slot := 3, constantValue := 0 }, { name := "BYTES", type := .int, accessFlags := 25, slot := 4, constantValue := 0 }, { name := "serialVersionUID", type := .long, accessFlags := 26, slot := 5, constantValue := 0 }]
  methods := #[k10m0]
  instanceTypes := #[.long]
  staticTypes := #[.long, .long, (.object "java/lang/Class"), .int, .int, .long]
  resolved := Array.replicate 524 none
  statics := none }

def pool11 : Array CpInfo := pool [(1, u "java/lang/Cloneable"), (0, .class_ 1), (0, u "java/lang/Object"), (0, .class_ 3)] 3

/-- java/lang/Cloneable -/
def k11 : Class := { plain "java/lang/Cloneable" (some 0) with
  accessFlags := 1537
  interfaces := #[]
  cf := some (fileOf pool11 2 #[] #[] 1537 4 #[] #[])
  fields := #[]
  methods := #[]
  instanceTypes := #[]
  staticTypes := #[]
  resolved := Array.replicate 8 none
  statics := none }

/-- the primitive byte -/
def k12 : Class := { plain "byte" none with kind := .primitive 'B', accessFlags := 0x411 }
/-- [B -/
def k13 : Class := { plain "[B" (some 0) with kind := .array 12 .byte, interfaces := #[11, 5], accessFlags := 1041 }

/-- the primitive char -/
def k14 : Class := { plain "char" none with kind := .primitive 'C', accessFlags := 0x411 }
/-- [C -/
def k15 : Class := { plain "[C" (some 0) with kind := .array 14 .char, interfaces := #[11, 5], accessFlags := 1041 }

/-- the primitive int -/
def k16 : Class := { plain "int" none with kind := .primitive 'I', accessFlags := 0x411 }
/-- [I -/
def k17 : Class := { plain "[I" (some 0) with kind := .array 16 .int, interfaces := #[11, 5], accessFlags := 1041 }

/-- the primitive long -/
def k18 : Class := { plain "long" none with kind := .primitive 'J', accessFlags := 0x411 }
/-- [J -/
def k19 : Class := { plain "[J" (some 0) with kind := .array 18 .long, interfaces := #[11, 5], accessFlags := 1041 }

def heap : Heap := #[]
def classes : Array Class := #[k0, k1, k2, k3, k4, k5, k6, k7, k8, k9, k10, k11, k12, k13, k14, k15, k16, k17, k18, k19]
def interned : List (Array UInt16 × Addr) := []
def slotsUsed : Nat := 0
def theMethod : MethodId := ⟨1, 1⟩
def args0 : Array Value := #[.int 5, .int 6, .int 7, .long 8, .int 5, .int 6]
def aboutOver (below : List Frame) : State where
  vm := { classes := classes, interned := interned.toArray }
  heap := heap
  slotsUsed := slotsUsed
  threads := #[{ frames := .invoking theMethod args0 :: below }]
def below0 : List Frame := [.native { method := ⟨0, 0⟩, args := #[] }]
def about1 : State := aboutOver below0
def p0 : Program := .bare "" "" ""
def e0 : Env := launch0.env 0 0 0
theorem w_frames : about1.frames = Frame.invoking theMethod args0 :: below0 := rfl
set_option maxRecDepth 65536 in
theorem w_args : argsFit about1.vm theMethod args0 = true := by decide +kernel
set_option maxRecDepth 65536 in
theorem w_heap : heapFits about1 = true := by decide +kernel
set_option maxRecDepth 65536 in
theorem w_runnable : about1.curStatus? = some .runnable := by decide +kernel
set_option maxRecDepth 65536 in
theorem w_alone : about1.alone = true := by decide +kernel
set_option maxRecDepth 65536 in
theorem w_named : about1.methodNamed? x = some theMethod := by decide +kernel
set_option maxRecDepth 65536 in
theorem w_hears : about1.hears theMethod below0 = true := by decide +kernel
set_option maxRecDepth 65536 in
theorem w_ripe : about1.ripe theMethod args0 below0 = true := by decide +kernel
theorem w_running : about1.status = .running := rfl
set_option maxRecDepth 65536 in
theorem w_room : about1.hasRoom e0.platform room_1 = true :=
  launch0.hasRoom_least _ room_1 (by decide +kernel) (by decide +kernel) (by decide +kernel) (by decide +kernel) (by decide +kernel) (by decide +kernel)
theorem allAtoms_all (ts : List Jvm.Cond) (a : Array Jvm.Value) (st : Jvm.State) : (allAtoms ts).before a st = ts.all (fun c => c.before a st) := by
  induction ts with
  | nil => rfl
  | cons c t ih =>
    show (Jvm.Cond.and c (allAtoms t)).before a st = _
    rw [Jvm.Cond.before_and, ih, List.all_cons]
def words1 : List Jvm.Cond := Jvm.Cond.code x code maxLocals ret :: tables_1
/-- a 'code' word, met by the world's own term for the bytes: nothing is compared byte by byte -/
theorem code_word {y : MethodName} {bytes : ByteArray} {mx : Nat} {rt : Option FieldType} {a : Array Value} {s : State} {m : MethodId} {meth : Method} {c : Code} (h1 : s.methodNamed? y = some m) (h2 : s.vm.method? m = some meth) (h3 : meth.code = some c) (h4 : c.code = bytes)
    (h5 : (c.maxLocals == mx && c.exceptionTable.isEmpty && decide (c.maxStack ≤ mostOperands) && decide (meth.sig.returnType = rt) && !meth.locks && decide (parseMethodDescriptor y.desc = some meth.sig)) = true) : (Jvm.Cond.code y bytes mx rt).before a s = true := by
  simp only [Bool.and_eq_true, beq_iff_eq, Bool.not_eq_true', decide_eq_true_eq] at h5
  obtain ⟨⟨⟨⟨⟨g1, g2⟩, g3⟩, g4⟩, g5⟩, g6⟩ := h5
  simp [Cond.before, Cond.holds, Cond.value, h1, h2, h3, h4, g1, g2, g3, g4, g5, g6]
def isCode : Jvm.Cond → Bool
  | .code _ _ _ _ => true
  | _ => false
theorem all_split {L : List Jvm.Cond} {P : Jvm.Cond → Bool} (h1 : L.all (fun c => isCode c || P c) = true) (h2 : ∀ c ∈ L.filter isCode, P c = true) : L.all P = true := by
  refine List.all_eq_true.mpr fun c hc => ?_
  have h := List.all_eq_true.mp h1 c hc
  rcases Bool.eq_false_or_eq_true (isCode c) with hi | hi
  · exact h2 c (List.mem_filter.mpr ⟨hc, hi⟩)
  · simpa [hi] using h
set_option maxRecDepth 65536 in
theorem w_c0 : (Jvm.Cond.code x code maxLocals ret).before args0 about1 = true := code_word (m := ⟨1, 1⟩) (meth := k1m1) (c := k1c1) (by decide +kernel) rfl rfl rfl (by decide +kernel)
set_option maxRecDepth 65536 in
theorem w_c1 : (Jvm.Cond.code ({ cls := "com/example/bitweight/bitweight/chunk/WordChunk", name := "of", desc := "([J)Lcom/example/bitweight/bitweight/chunk/WordChunk;" } : Jvm.MethodName) prog_39_method_4_code (2 : Nat) (Option.some (Jvm.ClassFile.FieldType.object "com/example/bitweight/bitweight/chunk/WordChunk"))).before args0 about1 = true := code_word (m := ⟨4, 2⟩) (meth := k4m2) (c := k4c2) (by decide +kernel) rfl rfl rfl (by decide +kernel)
set_option maxRecDepth 65536 in
theorem w_c2 : (Jvm.Cond.code ({ cls := "com/example/bitweight/bitweight/chunk/WordChunk", name := "<init>", desc := "([JII)V" } : Jvm.MethodName) prog_39_method_2_code (4 : Nat) (Option.none : Option Jvm.ClassFile.FieldType)).before args0 about1 = true := code_word (m := ⟨4, 1⟩) (meth := k4m1) (c := k4c1) (by decide +kernel) rfl rfl rfl (by decide +kernel)
set_option maxRecDepth 65536 in
theorem w_c3 : (Jvm.Cond.code ({ cls := "com/example/bitweight/bitweight/chunk/Chunk", name := "<init>", desc := "()V" } : Jvm.MethodName) prog_23_method_3_code (1 : Nat) (Option.none : Option Jvm.ClassFile.FieldType)).before args0 about1 = true := code_word (m := ⟨2, 0⟩) (meth := k2m0) (c := k2c0) (by decide +kernel) rfl rfl rfl (by decide +kernel)
set_option maxRecDepth 65536 in
theorem w_c4 : (Jvm.Cond.code ({ cls := "java/lang/Object", name := "<init>", desc := "()V" } : Jvm.MethodName) object_method_1_code (1 : Nat) (Option.none : Option Jvm.ClassFile.FieldType)).before args0 about1 = true := code_word (m := ⟨0, 0⟩) (meth := k0m0) (c := k0c0) (by decide +kernel) rfl rfl rfl (by decide +kernel)
set_option maxRecDepth 65536 in
theorem w_c5 : (Jvm.Cond.code ({ cls := "com/example/bitweight/bitweight/chunk/WordChunk", name := "recount", desc := "()V" } : Jvm.MethodName) prog_39_method_50_code (10 : Nat) (Option.none : Option Jvm.ClassFile.FieldType)).before args0 about1 = true := code_word (m := ⟨4, 6⟩) (meth := k4m6) (c := k4c6) (by decide +kernel) rfl rfl rfl (by decide +kernel)
set_option maxRecDepth 65536 in
theorem w_c6 : (Jvm.Cond.code ({ cls := "java/lang/Long", name := "bitCount", desc := "(J)I" } : Jvm.MethodName) jdk_35_method_50_code (2 : Nat) (Option.some Jvm.ClassFile.FieldType.int)).before args0 about1 = true := code_word (m := ⟨10, 0⟩) (meth := k10m0) (c := k10c0) (by decide +kernel) rfl rfl rfl (by decide +kernel)
set_option maxRecDepth 65536 in
theorem w_c7 : (Jvm.Cond.code ({ cls := "com/example/bitweight/bitweight/chunk/WordChunk", name := "runStarts", desc := "(JJ)I" } : Jvm.MethodName) prog_39_method_17_code (4 : Nat) (Option.some Jvm.ClassFile.FieldType.int)).before args0 about1 = true := code_word (m := ⟨4, 3⟩) (meth := k4m3) (c := k4c3) (by decide +kernel) rfl rfl rfl (by decide +kernel)
set_option maxRecDepth 65536 in
theorem w_c8 : (Jvm.Cond.code ({ cls := "com/example/bitweight/bitweight/chunk/WordChunkTakeInPinLaw", name := "expect", desc := "(IIJ[CIZ)J" } : Jvm.MethodName) method_3_code (9 : Nat) (Option.some Jvm.ClassFile.FieldType.long)).before args0 about1 = true := code_word (m := ⟨1, 2⟩) (meth := k1m2) (c := k1c2) (by decide +kernel) rfl rfl rfl (by decide +kernel)
set_option maxRecDepth 65536 in
theorem w_c9 : (Jvm.Cond.code ({ cls := "com/example/bitweight/bitweight/chunk/WordChunkTakeInPinLaw", name := "step", desc := "(JICZZ)J" } : Jvm.MethodName) method_4_code (8 : Nat) (Option.some Jvm.ClassFile.FieldType.long)).before args0 about1 = true := code_word (m := ⟨1, 3⟩) (meth := k1m3) (c := k1c3) (by decide +kernel) rfl rfl rfl (by decide +kernel)
set_option maxRecDepth 65536 in
theorem w_c10 : (Jvm.Cond.code ({ cls := "com/example/bitweight/bitweight/chunk/WordChunk", name := "takeIn", desc := "([CIZ)V" } : Jvm.MethodName) prog_39_method_42_code (7 : Nat) (Option.none : Option Jvm.ClassFile.FieldType)).before args0 about1 = true := code_word (m := ⟨4, 5⟩) (meth := k4m5) (c := k4c5) (by decide +kernel) rfl rfl rfl (by decide +kernel)
set_option maxRecDepth 65536 in
theorem w_c11 : (Jvm.Cond.code ({ cls := "com/example/bitweight/bitweight/chunk/WordChunk", name := "word", desc := "(I)J" } : Jvm.MethodName) prog_39_method_19_code (2 : Nat) (Option.some Jvm.ClassFile.FieldType.long)).before args0 about1 = true := code_word (m := ⟨4, 4⟩) (meth := k4m4) (c := k4c4) (by decide +kernel) rfl rfl rfl (by decide +kernel)
def codes1 : List Jvm.Cond := [Jvm.Cond.code x code maxLocals ret, Jvm.Cond.code ({ cls := "com/example/bitweight/bitweight/chunk/WordChunk", name := "of", desc := "([J)Lcom/example/bitweight/bitweight/chunk/WordChunk;" } : Jvm.MethodName) prog_39_method_4_code (2 : Nat) (Option.some (Jvm.ClassFile.FieldType.object "com/example/bitweight/bitweight/chunk/WordChunk")), Jvm.Cond.code ({ cls := "com/example/bitweight/bitweight/chunk/WordChunk", name := "<init>", desc := "([JII)V" } : Jvm.MethodName) prog_39_method_2_code (4 : Nat) (Option.none : Option Jvm.ClassFile.FieldType), Jvm.Cond.code ({ cls := "com/example/bitweight/bitweight/chunk/Chunk", name := "<init>", desc := "()V" } : Jvm.MethodName) prog_23_method_3_code (1 : Nat) (Option.none : Option Jvm.ClassFile.FieldType), Jvm.Cond.code ({ cls := "java/lang/Object", name := "<init>", desc := "()V" } : Jvm.MethodName) object_method_1_code (1 : Nat) (Option.none : Option Jvm.ClassFile.FieldType), Jvm.Cond.code ({ cls := "com/example/bitweight/bitweight/chunk/WordChunk", name := "recount", desc := "()V" } : Jvm.MethodName) prog_39_method_50_code (10 : Nat) (Option.none : Option Jvm.ClassFile.FieldType), Jvm.Cond.code ({ cls := "java/lang/Long", name := "bitCount", desc := "(J)I" } : Jvm.MethodName) jdk_35_method_50_code (2 : Nat) (Option.some Jvm.ClassFile.FieldType.int), Jvm.Cond.code ({ cls := "com/example/bitweight/bitweight/chunk/WordChunk", name := "runStarts", desc := "(JJ)I" } : Jvm.MethodName) prog_39_method_17_code (4 : Nat) (Option.some Jvm.ClassFile.FieldType.int), Jvm.Cond.code ({ cls := "com/example/bitweight/bitweight/chunk/WordChunkTakeInPinLaw", name := "expect", desc := "(IIJ[CIZ)J" } : Jvm.MethodName) method_3_code (9 : Nat) (Option.some Jvm.ClassFile.FieldType.long), Jvm.Cond.code ({ cls := "com/example/bitweight/bitweight/chunk/WordChunkTakeInPinLaw", name := "step", desc := "(JICZZ)J" } : Jvm.MethodName) method_4_code (8 : Nat) (Option.some Jvm.ClassFile.FieldType.long), Jvm.Cond.code ({ cls := "com/example/bitweight/bitweight/chunk/WordChunk", name := "takeIn", desc := "([CIZ)V" } : Jvm.MethodName) prog_39_method_42_code (7 : Nat) (Option.none : Option Jvm.ClassFile.FieldType), Jvm.Cond.code ({ cls := "com/example/bitweight/bitweight/chunk/WordChunk", name := "word", desc := "(I)J" } : Jvm.MethodName) prog_39_method_19_code (2 : Nat) (Option.some Jvm.ClassFile.FieldType.long)]
set_option maxRecDepth 65536 in
theorem codes_eq : words1.filter isCode = codes1 := rfl
theorem w_codes : ∀ c ∈ words1.filter isCode, c.before args0 about1 = true := by
  rw [codes_eq]
  intro c hc
  simp only [codes1, List.mem_cons, List.not_mem_nil, or_false] at hc
  rcases hc with rfl | rfl | rfl | rfl | rfl | rfl | rfl | rfl | rfl | rfl | rfl | rfl
  · exact w_c0
  · exact w_c1
  · exact w_c2
  · exact w_c3
  · exact w_c4
  · exact w_c5
  · exact w_c6
  · exact w_c7
  · exact w_c8
  · exact w_c9
  · exact w_c10
  · exact w_c11
set_option maxRecDepth 65536 in
theorem w_t1 : (words1.take 24).all (fun c => isCode c || c.before args0 about1) = true := by decide +kernel
set_option maxRecDepth 65536 in
theorem w_t2 : ((words1.drop 24).take 24).all (fun c => isCode c || c.before args0 about1) = true := by decide +kernel
set_option maxRecDepth 65536 in
theorem w_t3 : ((words1.drop 24).drop 24).all (fun c => isCode c || c.before args0 about1) = true := by decide +kernel
theorem w_tables : (allAtoms (Jvm.Cond.code x code maxLocals ret :: tables_1)).before args0 about1 = true := by
  rw [allAtoms_all]
  show words1.all (fun c => c.before args0 about1) = true
  refine all_split ?_ w_codes
  rw [← List.take_append_drop 24 words1, List.all_append, w_t1, ← List.take_append_drop 24 (words1.drop 24), List.all_append, w_t2, w_t3]
  rfl
set_option maxRecDepth 65536 in
theorem w_case : (Jvm.Cond.and given_1 narrow_1).before args0 about1 = true := by decide +kernel
theorem w_applies : (headSpec (Jvm.Cond.code x code maxLocals ret :: tables_1) room_1).applies x e0.platform about1 = true :=
  (Spec.applies_iff w_frames).mpr ⟨w_running, w_runnable, w_alone, w_named, w_hears, w_ripe, w_room, w_tables⟩
theorem atStart : AtStart classFile x code maxLocals ret World_1 tables_1 room_1 Calls_1 rest_1 Pre_1 launch0 p0 e0 about1 theMethod args0 below0 :=
  ⟨lists_1, trivial, launch0.admits_env _ _ _, launch0.least_env, fairChoices_fair.cas, fairChoices_fair.clock, w_frames, w_args, w_heap, w_applies, trivial, trivial, w_case⟩
end start1
theorem witness_1 : WitnessClaimed_1 := ⟨start1.p0, start1.e0, start1.about1, start1.theMethod, start1.args0, start1.below0, start1.atStart⟩
end Jvm.Pilot.@@N@@
