import JvmDerived
import JvmDerived.Pilot.@@N@@Statement
import JvmDerived.Pilot.@@N@@Code
set_option linter.unusedVariables false
set_option linter.unusedSimpArgs false
namespace Jvm.Pilot.@@N@@
open Jvm Jvm.ClassFile Sem Op Lib Jvm.Free Jvm.Stand Jvm.LawKit Jvm.RoadKit Bundle Jvm.Pilot.@@N@@.Jvm.D
section Own
variable {p : Program} {l : Launch} {e : Env} {R : Room} {s : State} {m : MethodId} {args : Array Value} {below : List Frame} {meth : Method} {c : Code} {T : State} {locs : List Loc} {cells slots : Nat} {Z : State} {h h' : Heap} {a b : Addr} {n k : Nat}
/-- a function with one place turned -/
def owUp {α : Type} (f : Nat → α) (k : Nat) (v : α) : Nat → α := fun i => if i = k then v else f i
theorem owUp_at {α : Type} {f : Nat → α} {k : Nat} {v : α} : owUp f k v k = v := if_pos rfl
theorem owUp_ne {α : Type} {f : Nat → α} {k i : Nat} {v : α} (q : i ≠ k) : owUp f k v i = f i := if_neg q
theorem owUpP {α : Type} {P : α → Prop} {f : Nat → α} {k : Nat} {v : α} (hf : ∀ i, P (f i)) (hv : P v) : ∀ i, P (owUp f k v i) := fun i => by
  by_cases q : i = k
  · rw [q, owUp_at]; exact hv
  · rw [owUp_ne q]; exact hf i
theorem owIdx {j : Int32} {k : Nat} (hj : j.toInt = (k : Int)) : j.toNatClampNeg = k := by
  have q : j.toNatClampNeg = j.toInt.toNat := rfl
  rw [q, hj]; rfl
theorem owIn {j : Int32} {k n sz : Nat} (hj : j.toInt = (k : Int)) (hk : k < n) (hs : sz = n) : ¬ (j < 0 ∨ sz ≤ j.toNatClampNeg) := by
  rw [owIdx hj, Int32.lt_iff_toInt_lt, hj, hs]
  have q : (0 : Int32).toInt = 0 := rfl
  omega
theorem owSlot {cl : Cell} {k i : Nat} {v : Value} (hk : k < cl.slots.size) : (cl.setSlot k v).slots[i]? = if i = k then some v else cl.slots[i]? := by
  by_cases q : i = k
  · subst q; rw [if_pos rfl]; simp [Cell.setSlot, hk]
  · rw [if_neg q]; exact Array.getElem?_setIfInBounds_ne (Ne.symm q)
/-- an array of ints (bytes, chars ..) whose components a function tells -/
def owAI (Z : State) (h : Heap) (a : Addr) (ty : FieldType) (n : Nat) (f : Nat → Int32) : Prop := ∃ c : Cell, Arr Z h a c ty ∧ c.slots.size = n ∧ ∀ i, i < n → c.slots[i]? = some (.int (f i))
/-- an array of longs -/
def owAJ (Z : State) (h : Heap) (a : Addr) (ty : FieldType) (n : Nat) (f : Nat → Int64) : Prop := ∃ c : Cell, Arr Z h a c ty ∧ c.slots.size = n ∧ ∀ i, i < n → c.slots[i]? = some (.long (f i))
theorem owAI.lt {ty : FieldType} {f : Nat → Int32} (F : owAI Z h a ty n f) : a < h.size := by obtain ⟨c, A, -⟩ := F; exact A.lt
theorem owAI.ext {ty : FieldType} {f : Nat → Int32} (F : owAI Z h a ty n f) (E : Ext h h') : owAI Z h' a ty n f := by obtain ⟨c, A, r⟩ := F; exact ⟨c, A.ext E, r⟩
theorem owAI.other {ty : FieldType} {f : Nat → Int32} {sl : Nat} {v : Value} (F : owAI Z h b ty n f) (W : Wr h h' a sl v) (q : b ≠ a) : owAI Z h' b ty n f := by obtain ⟨c, A, r⟩ := F; exact ⟨c, A.other W q, r⟩
theorem owAI.keep {ty : FieldType} {f : Nat → Int32} {ws : List Addr} (F : owAI Z h a ty n f) (K : Keep h h' ws) (q : a ∉ ws) : owAI Z h' a ty n f := by obtain ⟨c, A, r⟩ := F; exact ⟨c, ⟨K.2.1 a c A.1 q, A.2⟩, r⟩
theorem owAJ.lt {ty : FieldType} {f : Nat → Int64} (F : owAJ Z h a ty n f) : a < h.size := by obtain ⟨c, A, -⟩ := F; exact A.lt
theorem owAJ.ext {ty : FieldType} {f : Nat → Int64} (F : owAJ Z h a ty n f) (E : Ext h h') : owAJ Z h' a ty n f := by obtain ⟨c, A, r⟩ := F; exact ⟨c, A.ext E, r⟩
theorem owAJ.other {ty : FieldType} {f : Nat → Int64} {sl : Nat} {v : Value} (F : owAJ Z h b ty n f) (W : Wr h h' a sl v) (q : b ≠ a) : owAJ Z h' b ty n f := by obtain ⟨c, A, r⟩ := F; exact ⟨c, A.other W q, r⟩
theorem owAJ.keep {ty : FieldType} {f : Nat → Int64} {ws : List Addr} (F : owAJ Z h a ty n f) (K : Keep h h' ws) (q : a ∉ ws) : owAJ Z h' a ty n f := by obtain ⟨c, A, r⟩ := F; exact ⟨c, ⟨K.2.1 a c A.1 q, A.2⟩, r⟩
theorem owAI.new {ty : FieldType} {k : ClassId} {z : Int32} (A : Arr Z h a (newA k ty z) ty) (hz : z.toInt = (n : Int)) (hd : defaultValue ty = .int 0) : owAI Z h a ty n (fun _ => 0) :=
  ⟨_, A, by rw [sz_new]; exact owIdx hz, fun i hi => by rw [← hd]; simp [newA, owIdx hz, hi]⟩
theorem owAJ.new {ty : FieldType} {k : ClassId} {z : Int32} (A : Arr Z h a (newA k ty z) ty) (hz : z.toInt = (n : Int)) (hd : defaultValue ty = .long 0) : owAJ Z h a ty n (fun _ => 0) :=
  ⟨_, A, by rw [sz_new]; exact owIdx hz, fun i hi => by rw [← hd]; simp [newA, owIdx hz, hi]⟩
theorem owAI.to {ty : FieldType} {f g : Nat → Int32} (F : owAI Z h a ty n f) (q : ∀ i, i < n → f i = g i) : owAI Z h a ty n g := by
  obtain ⟨c, A, S, H⟩ := F; exact ⟨c, A, S, fun i hi => by rw [H i hi, q i hi]⟩
theorem owAJ.to {ty : FieldType} {f g : Nat → Int64} (F : owAJ Z h a ty n f) (q : ∀ i, i < n → f i = g i) : owAJ Z h a ty n g := by
  obtain ⟨c, A, S, H⟩ := F; exact ⟨c, A, S, fun i hi => by rw [H i hi, q i hi]⟩
theorem owLdB (X : Stand p l e R s m args below meth c T locs cells slots) (hx : p.tables.exec = Jvm.exec) (hZ : Z.Warmed39 s.vm) (eT : T.heap = h) {f : Nat → Int32} (A : owAI Z h a .byte n f) {j : Int32} (hj : j.toInt = (k : Int)) (hk : k < n) {g : JFrame} (hg : g.method = m) {rest : List Value} (hs : g.stack = .int j :: .ref a :: rest) (hd : decode c.code g.pc = .ok (.baload, 1)) (target : State) (kt : Steps p.tables e below (T.setTop { g with pc := g.pc + 1, stack := .int (f k) :: rest }) target) : Steps p.tables e below (T.setTop g) target := by
  obtain ⟨cl, Ar, S, H⟩ := A
  exact X.baloadBytes hx (by rw [eT]; exact Ar.1) (State.isArrayOf_alike hZ.alike Ar.2.1) Ar.2.2 (owIn hj hk S) (by rw [owIdx hj]; exact H k hk) hg hs hd target kt
theorem owLdC (X : Stand p l e R s m args below meth c T locs cells slots) (hx : p.tables.exec = Jvm.exec) (hZ : Z.Warmed39 s.vm) (eT : T.heap = h) {f : Nat → Int32} (A : owAI Z h a .char n f) {j : Int32} (hj : j.toInt = (k : Int)) (hk : k < n) {g : JFrame} (hg : g.method = m) {rest : List Value} (hs : g.stack = .int j :: .ref a :: rest) (hd : decode c.code g.pc = .ok (.caload, 1)) (target : State) (kt : Steps p.tables e below (T.setTop { g with pc := g.pc + 1, stack := .int (f k) :: rest }) target) : Steps p.tables e below (T.setTop g) target := by
  obtain ⟨cl, Ar, S, H⟩ := A
  exact X.caload hx (by rw [eT]; exact Ar.1) (State.isArrayOf_alike hZ.alike Ar.2.1) Ar.2.2 (owIn hj hk S) (by rw [owIdx hj]; exact H k hk) hg hs hd target kt
theorem owLdI (X : Stand p l e R s m args below meth c T locs cells slots) (hx : p.tables.exec = Jvm.exec) (hZ : Z.Warmed39 s.vm) (eT : T.heap = h) {f : Nat → Int32} (A : owAI Z h a .int n f) {j : Int32} (hj : j.toInt = (k : Int)) (hk : k < n) {g : JFrame} (hg : g.method = m) {rest : List Value} (hs : g.stack = .int j :: .ref a :: rest) (hd : decode c.code g.pc = .ok (.iaload, 1)) (target : State) (kt : Steps p.tables e below (T.setTop { g with pc := g.pc + 1, stack := .int (f k) :: rest }) target) : Steps p.tables e below (T.setTop g) target := by
  obtain ⟨cl, Ar, S, H⟩ := A
  exact X.iaload hx (by rw [eT]; exact Ar.1) (State.isArrayOf_alike hZ.alike Ar.2.1) Ar.2.2 (owIn hj hk S) (by rw [owIdx hj]; exact H k hk) hg hs hd target kt
theorem owLdJ (X : Stand p l e R s m args below meth c T locs cells slots) (hx : p.tables.exec = Jvm.exec) (hZ : Z.Warmed39 s.vm) (eT : T.heap = h) {f : Nat → Int64} (A : owAJ Z h a .long n f) {j : Int32} (hj : j.toInt = (k : Int)) (hk : k < n) {g : JFrame} (hg : g.method = m) {rest : List Value} (hs : g.stack = .int j :: .ref a :: rest) (hd : decode c.code g.pc = .ok (.laload, 1)) (target : State) (kt : Steps p.tables e below (T.setTop { g with pc := g.pc + 1, stack := .long (f k) :: rest }) target) : Steps p.tables e below (T.setTop g) target := by
  obtain ⟨cl, Ar, S, H⟩ := A
  exact X.laload hx (by rw [eT]; exact Ar.1) (State.isArrayOf_alike hZ.alike Ar.2.1) Ar.2.2 (owIn hj hk S) (by rw [owIdx hj]; exact H k hk) hg hs hd target kt
/-- an array of objects -/
def owAR (Z : State) (h : Heap) (a : Addr) (ty : FieldType) (n : Nat) (f : Nat → Addr) : Prop := ∃ c : Cell, Arr Z h a c ty ∧ c.slots.size = n ∧ ∀ i, i < n → c.slots[i]? = some (.ref (f i))
theorem owAR.lt {ty : FieldType} {f : Nat → Addr} (F : owAR Z h a ty n f) : a < h.size := by obtain ⟨c, A, -⟩ := F; exact A.lt
theorem owAR.ext {ty : FieldType} {f : Nat → Addr} (F : owAR Z h a ty n f) (E : Ext h h') : owAR Z h' a ty n f := by obtain ⟨c, A, r⟩ := F; exact ⟨c, A.ext E, r⟩
theorem owAR.other {ty : FieldType} {f : Nat → Addr} {sl : Nat} {v : Value} (F : owAR Z h b ty n f) (W : Wr h h' a sl v) (q : b ≠ a) : owAR Z h' b ty n f := by obtain ⟨c, A, r⟩ := F; exact ⟨c, A.other W q, r⟩
theorem owAR.keep {ty : FieldType} {f : Nat → Addr} {ws : List Addr} (F : owAR Z h a ty n f) (K : Keep h h' ws) (q : a ∉ ws) : owAR Z h' a ty n f := by obtain ⟨c, A, r⟩ := F; exact ⟨c, ⟨K.2.1 a c A.1 q, A.2⟩, r⟩
theorem owLdR (X : Stand p l e R s m args below meth c T locs cells slots) (hx : p.tables.exec = Jvm.exec) (hZ : Z.Warmed39 s.vm) (eT : T.heap = h) {ty : FieldType} {f : Nat → Addr} (A : owAR Z h a ty n f) (hty : ty.isReference = true) {j : Int32} (hj : j.toInt = (k : Int)) (hk : k < n) {g : JFrame} (hg : g.method = m) {rest : List Value} (hs : g.stack = .int j :: .ref a :: rest) (hd : decode c.code g.pc = .ok (.aaload, 1)) (target : State) (kt : Steps p.tables e below (T.setTop { g with pc := g.pc + 1, stack := .ref (f k) :: rest }) target) : Steps p.tables e below (T.setTop g) target := by
  obtain ⟨cl, Ar, S, H⟩ := A
  exact X.aaload hx (by rw [eT]; exact Ar.1) (State.isArrayOf_alike hZ.alike Ar.2.1) hty Ar.2.2 (owIn hj hk S) (by rw [owIdx hj]; exact H k hk) hg hs hd target kt
theorem owLenI (X : Stand p l e R s m args below meth c T locs cells slots) (hx : p.tables.exec = Jvm.exec) (hZ : Z.Warmed39 s.vm) (eT : T.heap = h) {ty : FieldType} {f : Nat → Int32} (A : owAI Z h a ty n f) {z : Int32} (hz : n.toInt32 = z) {g : JFrame} (hg : g.method = m) {rest : List Value} (hs : g.stack = .ref a :: rest) (hd : decode c.code g.pc = .ok (.arraylength, 1)) (target : State) (kt : Steps p.tables e below (T.setTop { g with pc := g.pc + 1, stack := .int z :: rest }) target) : Steps p.tables e below (T.setTop g) target := by
  obtain ⟨cl, Ar, S, H⟩ := A
  exact X.arraylength hx (by rw [eT]; exact Ar.1) (State.isArrayOf_alike hZ.alike Ar.2.1) hg hs hd target (by rw [S, hz]; exact kt)
theorem owLenJ (X : Stand p l e R s m args below meth c T locs cells slots) (hx : p.tables.exec = Jvm.exec) (hZ : Z.Warmed39 s.vm) (eT : T.heap = h) {ty : FieldType} {f : Nat → Int64} (A : owAJ Z h a ty n f) {z : Int32} (hz : n.toInt32 = z) {g : JFrame} (hg : g.method = m) {rest : List Value} (hs : g.stack = .ref a :: rest) (hd : decode c.code g.pc = .ok (.arraylength, 1)) (target : State) (kt : Steps p.tables e below (T.setTop { g with pc := g.pc + 1, stack := .int z :: rest }) target) : Steps p.tables e below (T.setTop g) target := by
  obtain ⟨cl, Ar, S, H⟩ := A
  exact X.arraylength hx (by rw [eT]; exact Ar.1) (State.isArrayOf_alike hZ.alike Ar.2.1) hg hs hd target (by rw [S, hz]; exact kt)
theorem owSetI {ty : FieldType} {f : Nat → Int32} {cl : Cell} {x : Int32} (Ar : Arr Z h a cl ty) (S : cl.slots.size = n) (H : ∀ i, i < n → cl.slots[i]? = some (.int (f i))) (hk : k < n) (W : Wr h h' a k (.int x)) : owAI Z h' a ty n (owUp f k x) :=
  ⟨cl.setSlot k (.int x), Ar.same W, by rw [sz_set]; exact S, fun i hi => by
    rw [owSlot (by omega)]
    by_cases q : i = k
    · rw [if_pos q, q, owUp_at]
    · rw [if_neg q, owUp_ne q]; exact H i hi⟩
theorem owSetJ {ty : FieldType} {f : Nat → Int64} {cl : Cell} {x : Int64} (Ar : Arr Z h a cl ty) (S : cl.slots.size = n) (H : ∀ i, i < n → cl.slots[i]? = some (.long (f i))) (hk : k < n) (W : Wr h h' a k (.long x)) : owAJ Z h' a ty n (owUp f k x) :=
  ⟨cl.setSlot k (.long x), Ar.same W, by rw [sz_set]; exact S, fun i hi => by
    rw [owSlot (by omega)]
    by_cases q : i = k
    · rw [if_pos q, q, owUp_at]
    · rw [if_neg q, owUp_ne q]; exact H i hi⟩
theorem owStB (X : Stand p l e R s m args below meth c T locs cells slots) (hx : p.tables.exec = Jvm.exec) (hZ : Z.Warmed39 s.vm) (eT : T.heap = h) {f : Nat → Int32} (A : owAI Z h a .byte n f) {j x : Int32} (hj : j.toInt = (k : Int)) (hk : k < n) {g : JFrame} (hg : g.method = m) {rest : List Value} (hs : g.stack = .int x :: .int j :: .ref a :: rest) (hd : decode c.code g.pc = .ok (.bastore, 1)) :
    ∃ T' h', Stand p l e R s m args below meth c T' (locs ++ [⟨a, k⟩]) cells slots ∧ T'.heap = h' ∧ Wr h h' a k (.int x.toInt8.toInt32) ∧ owAI Z h' a .byte n (owUp f k x.toInt8.toInt32) ∧ ∀ target, Steps p.tables e below (T'.setTop { g with pc := g.pc + 1, stack := rest }) target → Steps p.tables e below (T.setTop g) target := by
  obtain ⟨cl, Ar, S, H⟩ := A
  have st := stB X hx hZ eT Ar (j := j) (owIn hj hk S) hg hs hd
  rw [owIdx hj] at st
  obtain ⟨T', h', X', e', W, st⟩ := st
  exact ⟨T', h', X', e', W, owSetI Ar S H hk W, st⟩
theorem owStC (X : Stand p l e R s m args below meth c T locs cells slots) (hx : p.tables.exec = Jvm.exec) (hZ : Z.Warmed39 s.vm) (eT : T.heap = h) {f : Nat → Int32} (A : owAI Z h a .char n f) {j x : Int32} (hj : j.toInt = (k : Int)) (hk : k < n) {g : JFrame} (hg : g.method = m) {rest : List Value} (hs : g.stack = .int x :: .int j :: .ref a :: rest) (hd : decode c.code g.pc = .ok (.castore, 1)) :
    ∃ T' h', Stand p l e R s m args below meth c T' (locs ++ [⟨a, k⟩]) cells slots ∧ T'.heap = h' ∧ Wr h h' a k (.int x.toUInt32.toUInt16.toUInt32.toInt32) ∧ owAI Z h' a .char n (owUp f k x.toUInt32.toUInt16.toUInt32.toInt32) ∧ ∀ target, Steps p.tables e below (T'.setTop { g with pc := g.pc + 1, stack := rest }) target → Steps p.tables e below (T.setTop g) target := by
  obtain ⟨cl, Ar, S, H⟩ := A
  have st := stC X hx hZ eT Ar (j := j) (owIn hj hk S) hg hs hd
  rw [owIdx hj] at st
  obtain ⟨T', h', X', e', W, st⟩ := st
  exact ⟨T', h', X', e', W, owSetI Ar S H hk W, st⟩
theorem owStI (X : Stand p l e R s m args below meth c T locs cells slots) (hx : p.tables.exec = Jvm.exec) (hZ : Z.Warmed39 s.vm) (eT : T.heap = h) {f : Nat → Int32} (A : owAI Z h a .int n f) {j x : Int32} (hj : j.toInt = (k : Int)) (hk : k < n) {g : JFrame} (hg : g.method = m) {rest : List Value} (hs : g.stack = .int x :: .int j :: .ref a :: rest) (hd : decode c.code g.pc = .ok (.iastore, 1)) :
    ∃ T' h', Stand p l e R s m args below meth c T' (locs ++ [⟨a, k⟩]) cells slots ∧ T'.heap = h' ∧ Wr h h' a k (.int x) ∧ owAI Z h' a .int n (owUp f k x) ∧ ∀ target, Steps p.tables e below (T'.setTop { g with pc := g.pc + 1, stack := rest }) target → Steps p.tables e below (T.setTop g) target := by
  obtain ⟨cl, Ar, S, H⟩ := A
  have st := stI X hx hZ eT Ar (j := j) (owIn hj hk S) hg hs hd
  rw [owIdx hj] at st
  obtain ⟨T', h', X', e', W, st⟩ := st
  exact ⟨T', h', X', e', W, owSetI Ar S H hk W, st⟩
theorem owStJ (X : Stand p l e R s m args below meth c T locs cells slots) (hx : p.tables.exec = Jvm.exec) (hZ : Z.Warmed39 s.vm) (eT : T.heap = h) {f : Nat → Int64} (A : owAJ Z h a .long n f) {j : Int32} {x : Int64} (hj : j.toInt = (k : Int)) (hk : k < n) {g : JFrame} (hg : g.method = m) {rest : List Value} (hs : g.stack = .long x :: .int j :: .ref a :: rest) (hd : decode c.code g.pc = .ok (.lastore, 1)) :
    ∃ T' h', Stand p l e R s m args below meth c T' (locs ++ [⟨a, k⟩]) cells slots ∧ T'.heap = h' ∧ Wr h h' a k (.long x) ∧ owAJ Z h' a .long n (owUp f k x) ∧ ∀ target, Steps p.tables e below (T'.setTop { g with pc := g.pc + 1, stack := rest }) target → Steps p.tables e below (T.setTop g) target := by
  obtain ⟨cl, Ar, S, H⟩ := A
  have st := stJ X hx hZ eT Ar (j := j) (owIn hj hk S) hg hs hd
  rw [owIdx hj] at st
  obtain ⟨T', h', X', e', W, st⟩ := st
  exact ⟨T', h', X', e', W, owSetJ Ar S H hk W, st⟩
theorem owSel {s : State} {args : Array Value} {y : MethodName} {n : Nat} (hi : (Cond.instantiable y.cls n).before args s = true) (hpriv : s.PrivateAt y) (hinst : (Cond.instanceMethod y).before args s = true) (hy : y.cls ≠ "java/lang/invoke/MethodHandle" ∧ y.cls ≠ "java/lang/invoke/VarHandle") : (Cond.selects y.cls y y).before args s = true := by
  obtain ⟨c, k, h1, h2, -, h4, -⟩ := Cond.instantiable_spec hi
  have h5 : k.isInterface = false := by cases hq : k.isInterface <;> simp_all
  exact selects_self_of_private h1 h2 h5 hpriv hinst hy
theorem owRetI (X : Stand p l e R s m args below meth c T locs cells slots) (hx : p.tables.exec = Jvm.exec) {pc : Nat} {Ls : Array Slot} {z : Int32} (hret : meth.sig.returnType = some .int) (hd : decode c.code pc = .ok (.ireturn, 1)) {fs : List Frame}
    (hl : ∀ (f : JFrame) (acts : List Action), f.method = m → f.locked = none → f.entered = [] → (doReturn e (T.setTop f) acts (some (.int z))).1 = T.setFrames fs) : Steps p.tables e below (T.setTop (mkF m pc Ls [.int z])) (T.setFrames fs) :=
  X.ireturnOut hx hret rfl (Or.inl rfl) hd hl
end Own

theorem d1_0 : decode jdk_29_method_66_code 0 = .ok (.lload_n 0, 1) := by decide +kernel
theorem d1_1 : decode jdk_29_method_66_code 1 = .ok (.lload_n 2, 1) := by decide +kernel
theorem d1_2 : decode jdk_29_method_66_code 2 = .ok (.lcmp, 1) := by decide +kernel
theorem d1_3 : decode jdk_29_method_66_code 3 = .ok (.ifCond .lt 7, 3) := by decide +kernel
theorem d1_6 : decode jdk_29_method_66_code 6 = .ok (.lload_n 0, 1) := by decide +kernel
theorem d1_7 : decode jdk_29_method_66_code 7 = .ok (.goto 4, 3) := by decide +kernel
theorem d1_10 : decode jdk_29_method_66_code 10 = .ok (.lload_n 2, 1) := by decide +kernel
theorem d1_11 : decode jdk_29_method_66_code 11 = .ok (.lreturn, 1) := by decide +kernel
theorem ef_1 (m : MethodId) (x0 : Int64) (x1 : Int64) : entryFrame m #[(.long x0), (.long x1)] 4 = mkF m 0 #[.val (.long x0), .second, .val (.long x1), .second] [] := by first | (simp [entryFrame, mkF, argsToLocals, Value.category]; done) | rfl
def fn1 (q1 : Int64) (q2 : Int64) : Int64 := (if q1 < q2 then q2 else q1)
def Q1 (Z : State) (q1 : Int64) (q2 : Int64) (h0 : Heap) (n0 : Nat) (v : Option Value) (h : Heap) (L : List Loc) : Prop := v = some (.long (fn1 q1 q2)) ∧ Fr n0 L ∧ h = h0
set_option maxRecDepth 65536 in
set_option maxHeartbeats 40000000 in
theorem rm1 (l : Launch) (Z : State) (a0 : Array Value) (hw : ∀ d ∈ tables_1, d.before a0 Z = true) (ws : List Jvm.Cond) (q1 : Int64) (q2 : Int64) (h0 : Heap) (n0 : Nat) (Z0 : n0 ≤ h0.size) :
    MetFree l (⟨"java/lang/Math", "max", "(JJ)J"⟩ : MethodName) (head1 (Jvm.Cond.code (⟨"java/lang/Math", "max", "(JJ)J"⟩ : MethodName) jdk_29_method_66_code 4 (some .long) :: ws) ({ frames := 0, cells := 0, slots := 0, locals := 0 } : Room)) (fun a U => a = #[(.long q1), (.long q2)] ∧ Z.Warmed39 U.vm ∧ U.heap = h0) (fun _ _ _ _ _ => True) (fun _ U o U' => ∃ v L, o = .returned v ∧ Q1 Z q1 q2 h0 n0 v U'.heap L ∧ FrameEnd U o U' L ({ frames := 0, cells := 0, slots := 0, locals := 0 } : Room).cells ({ frames := 0, cells := 0, slots := 0, locals := 0 } : Room).slots) := by
  refine MetFree.of_bodySF (Jvm.Free.JP.mathPlain rfl (by decide +kernel)) hisR ?_
  intro p e s m args below meth c s₁ Bd hml0 hP hK
  obtain ⟨rfl, hZ, hh⟩ := hP
  have hx := Bd.exec
  have hby := Bd.bytes
  have hml : c.maxLocals = 4 := hml0
  have hown : s.vm.findClass "java/lang/Math" = some m.cls := findClass_of_methodNamed Bd.named
  have hnm := (name_of_methodNamed Bd.named Bd.method).1
  have X0 : Stand p l e ({ frames := 0, cells := 0, slots := 0, locals := 0 } : Room) s m #[(.long q1), (.long q2)] below meth c s₁ [] 0 0 := Stand.of_body Bd
  have e0 : s₁.heap = h0 := by rw [← hh, Bd.state]; rfl
  have N0 := Fr.nil n0
  have pre0 : ∀ t, Steps p.tables e below (s₁.setTop (mkF m 0 #[.val (.long q1), .second, .val (.long q2), .second] [])) t → Steps p.tables e below (s₁.setTop (entryFrame m #[(.long q1), (.long q2)] 4)) t := fun t k => castTop (ef_1 m q1 q2) k
  have pre1 : ∀ t, Steps p.tables e below (s₁.setTop (mkF m 3 #[.val (.long q1), .second, .val (.long q2), .second] [(.int (XT.cmpL q1 q2))])) t → Steps p.tables e below (s₁.setTop (entryFrame m #[(.long q1), (.long q2)] 4)) t := by
    intro t kt
    refine pre0 _ ?_
    show Steps p.tables e below (s₁.setTop (mkF m 0 #[.val (.long q1), .second, .val (.long q2), .second] [])) _
    refine XS.lloadN X0.here hx rfl (hb hby d1_0) rfl ?_
    show Steps p.tables e below (s₁.setTop (mkF m 1 #[.val (.long q1), .second, .val (.long q2), .second] [(.long q1)])) _
    refine XS.lloadN X0.here hx rfl (hb hby d1_1) rfl ?_
    show Steps p.tables e below (s₁.setTop (mkF m 2 #[.val (.long q1), .second, .val (.long q2), .second] [(.long q2), (.long q1)])) _
    refine XT.lcmp X0.here hx rfl (hb hby d1_2) rfl ?_
    exact kt
  by_cases hc3_2 : q1 < q2
  · skip
    have pre3 : ∀ t, Steps p.tables e below (s₁.setTop (mkF m 11 #[.val (.long q1), .second, .val (.long q2), .second] [(.long q2)])) t → Steps p.tables e below (s₁.setTop (entryFrame m #[(.long q1), (.long q2)] 4)) t := by
      intro t kt
      refine pre1 _ ?_
      show Steps p.tables e below (s₁.setTop (mkF m 3 #[.val (.long q1), .second, .val (.long q2), .second] [(.int (XT.cmpL q1 q2))])) _
      refine XS.ifYes X0.here hx rfl (pc0 := 3) (pc' := 10) rfl (hb hby d1_3) rfl (XT.ll_lt_t hc3_2) (by decide) (by decide) ?_
      show Steps p.tables e below (s₁.setTop (mkF m 10 #[.val (.long q1), .second, .val (.long q2), .second] [])) _
      refine XS.lloadN X0.here hx rfl (hb hby d1_10) rfl ?_
      exact kt
    obtain ⟨fs, hr, hrun, hended, hW, hsame⟩ := X0.leave (v := some (.long q2)) (fun h => by rw [Bd.returns] at h; cases h)
    refine ⟨_, _, pre3 _ ?_, hrun, hended, _, _, rfl, ?_, ⟨_, rfl⟩, hW, hsame.mono (by decide) (by decide)⟩
    · show Steps p.tables e below (s₁.setTop (mkF m 11 #[.val (.long q1), .second, .val (.long q2), .second] [(.long q2)])) _
      exact X0.lreturnOut hx Bd.returns (hb hby d1_11) hr
    · show Q1 Z q1 q2 h0 n0 _ s₁.heap _
      rw [e0]
      exact ⟨by unfold fn1; rw [if_pos hc3_2], N0, rfl⟩
  · skip
    have pre4 : ∀ t, Steps p.tables e below (s₁.setTop (mkF m 11 #[.val (.long q1), .second, .val (.long q2), .second] [(.long q1)])) t → Steps p.tables e below (s₁.setTop (entryFrame m #[(.long q1), (.long q2)] 4)) t := by
      intro t kt
      refine pre1 _ ?_
      show Steps p.tables e below (s₁.setTop (mkF m 3 #[.val (.long q1), .second, .val (.long q2), .second] [(.int (XT.cmpL q1 q2))])) _
      refine XS.ifNo X0.here hx rfl (hb hby d1_3) rfl (XT.ll_lt_f hc3_2) ?_
      show Steps p.tables e below (s₁.setTop (mkF m 6 #[.val (.long q1), .second, .val (.long q2), .second] [])) _
      refine XS.lloadN X0.here hx rfl (hb hby d1_6) rfl ?_
      show Steps p.tables e below (s₁.setTop (mkF m 7 #[.val (.long q1), .second, .val (.long q2), .second] [(.long q1)])) _
      refine XS.goto X0.here hx rfl (pc0 := 7) (pc' := 11) rfl (hb hby d1_7) (by decide) (by decide) ?_
      exact kt
    obtain ⟨fs, hr, hrun, hended, hW, hsame⟩ := X0.leave (v := some (.long q1)) (fun h => by rw [Bd.returns] at h; cases h)
    refine ⟨_, _, pre4 _ ?_, hrun, hended, _, _, rfl, ?_, ⟨_, rfl⟩, hW, hsame.mono (by decide) (by decide)⟩
    · show Steps p.tables e below (s₁.setTop (mkF m 11 #[.val (.long q1), .second, .val (.long q2), .second] [(.long q1)])) _
      exact X0.lreturnOut hx Bd.returns (hb hby d1_11) hr
    · show Q1 Z q1 q2 h0 n0 _ s₁.heap _
      rw [e0]
      exact ⟨by unfold fn1; rw [if_neg hc3_2], N0, rfl⟩
theorem d3_0 : decode jdk_30_method_1_code 0 = .ok (.aload_n 0, 1) := by decide +kernel
theorem d3_1 : decode jdk_30_method_1_code 1 = .ok (.invokespecial 1, 3) := by decide +kernel
theorem d3_4 : decode jdk_30_method_1_code 4 = .ok (.return_, 1) := by decide +kernel
theorem pn_3 : plainName "java/lang/Record" = true := by first | (simp [plainName, overriddenIn]; done) | decide +kernel
theorem ef_3 (m : MethodId) (x0 : Addr) : entryFrame m #[(.ref x0)] 1 = mkF m 0 #[.val (.ref x0)] [] := by first | (simp [entryFrame, mkF, argsToLocals, Value.category]; done) | rfl
def Q3 (Z : State) (a1 : Addr) (h0 : Heap) (n0 : Nat) (v : Option Value) (h : Heap) (L : List Loc) : Prop := v = none ∧ Fr n0 L ∧ h = h0
set_option maxRecDepth 65536 in
set_option maxHeartbeats 40000000 in
theorem rm3 (l : Launch) (Z : State) (a0 : Array Value) (hw : ∀ d ∈ tables_1, d.before a0 Z = true) (ws : List Jvm.Cond) (a1 : Addr) (h0 : Heap) (n0 : Nat) (Z0 : n0 ≤ h0.size) :
    MetFree l (⟨"java/lang/Record", "<init>", "()V"⟩ : MethodName) (head1 (Jvm.Cond.code (⟨"java/lang/Record", "<init>", "()V"⟩ : MethodName) jdk_30_method_1_code 1 none :: ws) ({ frames := 1, cells := 0, slots := 0, locals := 12 } : Room)) (fun a U => a = #[(.ref a1)] ∧ Z.Warmed39 U.vm ∧ U.heap = h0) (fun _ _ _ _ _ => True) (fun _ U o U' => ∃ v L, o = .returned v ∧ Q3 Z a1 h0 n0 v U'.heap L ∧ FrameEnd U o U' L ({ frames := 1, cells := 0, slots := 0, locals := 12 } : Room).cells ({ frames := 1, cells := 0, slots := 0, locals := 12 } : Room).slots) := by
  refine MetFree.of_bodySF (plainFor_of_name pn_3) hisR ?_
  intro p e s m args below meth c s₁ Bd hml0 hP hK
  obtain ⟨rfl, hZ, hh⟩ := hP
  have hx := Bd.exec
  have hby := Bd.bytes
  have hml : c.maxLocals = 1 := hml0
  have hown : s.vm.findClass "java/lang/Record" = some m.cls := findClass_of_methodNamed Bd.named
  have hnm := (name_of_methodNamed Bd.named Bd.method).1
  have X0 : Stand p l e ({ frames := 1, cells := 0, slots := 0, locals := 12 } : Room) s m #[(.ref a1)] below meth c s₁ [] 0 0 := Stand.of_body Bd
  have e0 : s₁.heap = h0 := by rw [← hh, Bd.state]; rfl
  have N0 := Fr.nil n0
  have pre0 : ∀ t, Steps p.tables e below (s₁.setTop (mkF m 0 #[.val (.ref a1)] [])) t → Steps p.tables e below (s₁.setTop (entryFrame m #[(.ref a1)] 1)) t := fun t k => castTop (ef_3 m a1) k
  obtain ⟨T1, X1, hE1, st1⟩ := initO X0 hx hZ hown (hw _ (List.mem_of_getElem? (i := 17) rfl)) (hw _ (List.mem_of_getElem? (i := 18) rfl)) (hw _ (List.mem_of_getElem? (i := 19) rfl)) e0 (g := (mkF m 1 #[.val (.ref a1)] [(.ref a1)])) rfl (by rw [hml]; rfl) rfl (hb hby d3_1) (by decide) (W := 0) (by show 2 * 0 + _ ≤ _; exact Nat.le_of_eq rfl) (by decide)
  have pre2 : ∀ t, Steps p.tables e below (T1.setTop (mkF m 4 #[.val (.ref a1)] [])) t → Steps p.tables e below (s₁.setTop (entryFrame m #[(.ref a1)] 1)) t := by
    intro t kt
    refine pre0 _ ?_
    show Steps p.tables e below (s₁.setTop (mkF m 0 #[.val (.ref a1)] [])) _
    refine XS.aloadN X0.here hx rfl (hb hby d3_0) rfl rfl ?_
    show Steps p.tables e below (s₁.setTop (mkF m 1 #[.val (.ref a1)] [(.ref a1)])) _
    refine st1 _ ?_
    exact kt
  obtain ⟨fs, hr, hrun, hended, hW, hsame⟩ := X1.leave (v := none) (fun _ => rfl)
  refine ⟨_, _, pre2 _ ?_, hrun, hended, _, _, rfl, ?_, ⟨_, rfl⟩, hW, hsame.mono (by decide) (by decide)⟩
  · show Steps p.tables e below (T1.setTop (mkF m 4 #[.val (.ref a1)] [])) _
    exact X1.returnOut hx Bd.returns (hb hby d3_4) hr
  · show Q3 Z a1 h0 n0 _ T1.heap _
    rw [hE1]
    exact ⟨rfl, N0, rfl⟩
theorem d10_0 : decode jdk_18_method_1_code 0 = .ok (.aload_n 0, 1) := by decide +kernel
theorem d10_1 : decode jdk_18_method_1_code 1 = .ok (.invokespecial 1, 3) := by decide +kernel
theorem d10_4 : decode jdk_18_method_1_code 4 = .ok (.return_, 1) := by decide +kernel
theorem pn_10 : plainName "java/lang/Number" = true := by first | (simp [plainName, overriddenIn]; done) | decide +kernel
theorem ef_10 (m : MethodId) (x0 : Addr) : entryFrame m #[(.ref x0)] 1 = mkF m 0 #[.val (.ref x0)] [] := by first | (simp [entryFrame, mkF, argsToLocals, Value.category]; done) | rfl
def Q10 (Z : State) (a1 : Addr) (h0 : Heap) (n0 : Nat) (v : Option Value) (h : Heap) (L : List Loc) : Prop := v = none ∧ Fr n0 L ∧ h = h0
set_option maxRecDepth 65536 in
set_option maxHeartbeats 40000000 in
theorem rm10 (l : Launch) (Z : State) (a0 : Array Value) (hw : ∀ d ∈ tables_1, d.before a0 Z = true) (ws : List Jvm.Cond) (a1 : Addr) (h0 : Heap) (n0 : Nat) (Z0 : n0 ≤ h0.size) :
    MetFree l (⟨"java/lang/Number", "<init>", "()V"⟩ : MethodName) (head1 (Jvm.Cond.code (⟨"java/lang/Number", "<init>", "()V"⟩ : MethodName) jdk_18_method_1_code 1 none :: ws) ({ frames := 1, cells := 0, slots := 0, locals := 12 } : Room)) (fun a U => a = #[(.ref a1)] ∧ Z.Warmed39 U.vm ∧ U.heap = h0) (fun _ _ _ _ _ => True) (fun _ U o U' => ∃ v L, o = .returned v ∧ Q10 Z a1 h0 n0 v U'.heap L ∧ FrameEnd U o U' L ({ frames := 1, cells := 0, slots := 0, locals := 12 } : Room).cells ({ frames := 1, cells := 0, slots := 0, locals := 12 } : Room).slots) := by
  refine MetFree.of_bodySF (plainFor_of_name pn_10) hisR ?_
  intro p e s m args below meth c s₁ Bd hml0 hP hK
  obtain ⟨rfl, hZ, hh⟩ := hP
  have hx := Bd.exec
  have hby := Bd.bytes
  have hml : c.maxLocals = 1 := hml0
  have hown : s.vm.findClass "java/lang/Number" = some m.cls := findClass_of_methodNamed Bd.named
  have hnm := (name_of_methodNamed Bd.named Bd.method).1
  have X0 : Stand p l e ({ frames := 1, cells := 0, slots := 0, locals := 12 } : Room) s m #[(.ref a1)] below meth c s₁ [] 0 0 := Stand.of_body Bd
  have e0 : s₁.heap = h0 := by rw [← hh, Bd.state]; rfl
  have N0 := Fr.nil n0
  have pre0 : ∀ t, Steps p.tables e below (s₁.setTop (mkF m 0 #[.val (.ref a1)] [])) t → Steps p.tables e below (s₁.setTop (entryFrame m #[(.ref a1)] 1)) t := fun t k => castTop (ef_10 m a1) k
  obtain ⟨T1, X1, hE1, st1⟩ := initO X0 hx hZ hown (hw _ (List.mem_of_getElem? (i := 59) rfl)) (hw _ (List.mem_of_getElem? (i := 18) rfl)) (hw _ (List.mem_of_getElem? (i := 19) rfl)) e0 (g := (mkF m 1 #[.val (.ref a1)] [(.ref a1)])) rfl (by rw [hml]; rfl) rfl (hb hby d10_1) (by decide) (W := 0) (by show 2 * 0 + _ ≤ _; exact Nat.le_of_eq rfl) (by decide)
  have pre2 : ∀ t, Steps p.tables e below (T1.setTop (mkF m 4 #[.val (.ref a1)] [])) t → Steps p.tables e below (s₁.setTop (entryFrame m #[(.ref a1)] 1)) t := by
    intro t kt
    refine pre0 _ ?_
    show Steps p.tables e below (s₁.setTop (mkF m 0 #[.val (.ref a1)] [])) _
    refine XS.aloadN X0.here hx rfl (hb hby d10_0) rfl rfl ?_
    show Steps p.tables e below (s₁.setTop (mkF m 1 #[.val (.ref a1)] [(.ref a1)])) _
    refine st1 _ ?_
    exact kt
  obtain ⟨fs, hr, hrun, hended, hW, hsame⟩ := X1.leave (v := none) (fun _ => rfl)
  refine ⟨_, _, pre2 _ ?_, hrun, hended, _, _, rfl, ?_, ⟨_, rfl⟩, hW, hsame.mono (by decide) (by decide)⟩
  · show Steps p.tables e below (T1.setTop (mkF m 4 #[.val (.ref a1)] [])) _
    exact X1.returnOut hx Bd.returns (hb hby d10_4) hr
  · show Q10 Z a1 h0 n0 _ T1.heap _
    rw [hE1]
    exact ⟨rfl, N0, rfl⟩
theorem d5_0 : decode prog_7_method_12_code 0 = .ok (.lload_n 0, 1) := by decide +kernel
theorem d5_1 : decode prog_7_method_12_code 1 = .ok (.lconst 0, 1) := by decide +kernel
theorem d5_2 : decode prog_7_method_12_code 2 = .ok (.lcmp, 1) := by decide +kernel
theorem d5_3 : decode prog_7_method_12_code 3 = .ok (.ifCond .lt 11, 3) := by decide +kernel
theorem d5_6 : decode prog_7_method_12_code 6 = .ok (.lload_n 0, 1) := by decide +kernel
theorem d5_7 : decode prog_7_method_12_code 7 = .ok (.ldc2_w 59, 3) := by decide +kernel
theorem d5_10 : decode prog_7_method_12_code 10 = .ok (.lcmp, 1) := by decide +kernel
theorem d5_11 : decode prog_7_method_12_code 11 = .ok (.ifCond .le 17, 3) := by decide +kernel
theorem d5_14 : decode prog_7_method_12_code 14 = .ok (.new 15, 3) := by decide +kernel
theorem d5_17 : decode prog_7_method_12_code 17 = .ok (.dup, 1) := by decide +kernel
theorem d5_18 : decode prog_7_method_12_code 18 = .ok (.lload_n 0, 1) := by decide +kernel
theorem pn_5 : plainName "com/example/quorumvote/quorumvote/election/Epochs" = true := by first | (simp [plainName, overriddenIn]; done) | decide +kernel
theorem ef_5 (m : MethodId) (x0 : Int64) : entryFrame m #[(.long x0)] 2 = mkF m 0 #[.val (.long x0), .second] [] := by first | (simp [entryFrame, mkF, argsToLocals, Value.category]; done) | rfl
theorem d5_28 : decode prog_7_method_12_code 28 = .ok (.lload_n 0, 1) := by decide +kernel
theorem d5_29 : decode prog_7_method_12_code 29 = .ok (.lreturn, 1) := by decide +kernel
def Q5 (Z : State) (q1 : Int64) (h0 : Heap) (n0 : Nat) (v : Option Value) (h : Heap) (L : List Loc) : Prop := v = some (.long q1) ∧ Fr n0 L ∧ h = h0
set_option maxRecDepth 65536 in
set_option maxHeartbeats 40000000 in
theorem rm5 (l : Launch) (Z : State) (a0 : Array Value) (hw : ∀ d ∈ tables_1, d.before a0 Z = true) (ws : List Jvm.Cond) (q1 : Int64) (h0 : Heap) (n0 : Nat) (Z0 : n0 ≤ h0.size) (hp : ¬ (q1 < (0 : Int64))) (hp2 : ¬ ((2147483647 : Int64) < q1)) :
    MetFree l (⟨"com/example/quorumvote/quorumvote/election/Epochs", "requireEpoch", "(J)J"⟩ : MethodName) (head1 (Jvm.Cond.code (⟨"com/example/quorumvote/quorumvote/election/Epochs", "requireEpoch", "(J)J"⟩ : MethodName) prog_7_method_12_code 2 (some .long) :: ws) ({ frames := 0, cells := 0, slots := 0, locals := 0 } : Room)) (fun a U => a = #[(.long q1)] ∧ Z.Warmed39 U.vm ∧ U.heap = h0) (fun _ _ _ _ _ => True) (fun _ U o U' => ∃ v L, o = .returned v ∧ Q5 Z q1 h0 n0 v U'.heap L ∧ FrameEnd U o U' L ({ frames := 0, cells := 0, slots := 0, locals := 0 } : Room).cells ({ frames := 0, cells := 0, slots := 0, locals := 0 } : Room).slots) := by
  refine MetFree.of_bodySF (plainFor_of_name pn_5) hisR ?_
  intro p e s m args below meth c s₁ Bd hml0 hP hK
  obtain ⟨rfl, hZ, hh⟩ := hP
  have hx := Bd.exec
  have hby := Bd.bytes
  have hml : c.maxLocals = 2 := hml0
  have hown : s.vm.findClass "com/example/quorumvote/quorumvote/election/Epochs" = some m.cls := findClass_of_methodNamed Bd.named
  have hnm := (name_of_methodNamed Bd.named Bd.method).1
  have X0 : Stand p l e ({ frames := 0, cells := 0, slots := 0, locals := 0 } : Room) s m #[(.long q1)] below meth c s₁ [] 0 0 := Stand.of_body Bd
  have e0 : s₁.heap = h0 := by rw [← hh, Bd.state]; rfl
  have N0 := Fr.nil n0
  have pre0 : ∀ t, Steps p.tables e below (s₁.setTop (mkF m 0 #[.val (.long q1), .second] [])) t → Steps p.tables e below (s₁.setTop (entryFrame m #[(.long q1)] 2)) t := fun t k => castTop (ef_5 m q1) k
  have pre1 : ∀ t, Steps p.tables e below (s₁.setTop (mkF m 29 #[.val (.long q1), .second] [(.long q1)])) t → Steps p.tables e below (s₁.setTop (entryFrame m #[(.long q1)] 2)) t := by
    intro t kt
    refine pre0 _ ?_
    show Steps p.tables e below (s₁.setTop (mkF m 0 #[.val (.long q1), .second] [])) _
    refine XS.lloadN X0.here hx rfl (hb hby d5_0) rfl ?_
    show Steps p.tables e below (s₁.setTop (mkF m 1 #[.val (.long q1), .second] [(.long q1)])) _
    refine XS.lconst X0.here hx rfl (hb hby d5_1) ?_
    show Steps p.tables e below (s₁.setTop (mkF m 2 #[.val (.long q1), .second] [(.long (0 : Int64)), (.long q1)])) _
    refine XT.lcmp X0.here hx rfl (hb hby d5_2) rfl ?_
    show Steps p.tables e below (s₁.setTop (mkF m 3 #[.val (.long q1), .second] [(.int (XT.cmpL q1 (0 : Int64)))])) _
    refine XS.ifNo X0.here hx rfl (hb hby d5_3) rfl (XT.ll_lt_f hp) ?_
    show Steps p.tables e below (s₁.setTop (mkF m 6 #[.val (.long q1), .second] [])) _
    refine XS.lloadN X0.here hx rfl (hb hby d5_6) rfl ?_
    show Steps p.tables e below (s₁.setTop (mkF m 7 #[.val (.long q1), .second] [(.long q1)])) _
    refine Stand.ldc2J (g := (mkF m 7 #[.val (.long q1), .second] [(.long q1)])) X0 hx hown (mvT hZ (hw _ (List.mem_of_getElem? (i := 24) rfl))) rfl (hb hby d5_7) ?_
    show Steps p.tables e below (s₁.setTop (mkF m 10 #[.val (.long q1), .second] [(.long (2147483647 : Int64)), (.long q1)])) _
    refine XT.lcmp X0.here hx rfl (hb hby d5_10) rfl ?_
    show Steps p.tables e below (s₁.setTop (mkF m 11 #[.val (.long q1), .second] [(.int (XT.cmpL q1 (2147483647 : Int64)))])) _
    refine XS.ifYes X0.here hx rfl (pc0 := 11) (pc' := 28) rfl (hb hby d5_11) rfl (XT.ll_le_t hp2) (by decide) (by decide) ?_
    show Steps p.tables e below (s₁.setTop (mkF m 28 #[.val (.long q1), .second] [])) _
    refine XS.lloadN X0.here hx rfl (hb hby d5_28) rfl ?_
    exact kt
  obtain ⟨fs, hr, hrun, hended, hW, hsame⟩ := X0.leave (v := some (.long q1)) (fun h => by rw [Bd.returns] at h; cases h)
  refine ⟨_, _, pre1 _ ?_, hrun, hended, _, _, rfl, ?_, ⟨_, rfl⟩, hW, hsame.mono (by decide) (by decide)⟩
  · show Steps p.tables e below (s₁.setTop (mkF m 29 #[.val (.long q1), .second] [(.long q1)])) _
    exact X0.lreturnOut hx Bd.returns (hb hby d5_29) hr
  · show Q5 Z q1 h0 n0 _ s₁.heap _
    rw [e0]
    exact ⟨rfl, N0, rfl⟩
theorem d6_0 : decode prog_7_method_13_code 0 = .ok (.lload_n 0, 1) := by decide +kernel
theorem d6_1 : decode prog_7_method_13_code 1 = .ok (.lconst 0, 1) := by decide +kernel
theorem d6_2 : decode prog_7_method_13_code 2 = .ok (.lcmp, 1) := by decide +kernel
theorem d6_3 : decode prog_7_method_13_code 3 = .ok (.ifCond .ge 17, 3) := by decide +kernel
theorem d6_6 : decode prog_7_method_13_code 6 = .ok (.new 15, 3) := by decide +kernel
theorem d6_9 : decode prog_7_method_13_code 9 = .ok (.dup, 1) := by decide +kernel
theorem d6_10 : decode prog_7_method_13_code 10 = .ok (.lload_n 0, 1) := by decide +kernel
theorem pn_6 : plainName "com/example/quorumvote/quorumvote/election/Epochs" = true := by first | (simp [plainName, overriddenIn]; done) | decide +kernel
theorem ef_6 (m : MethodId) (x0 : Int64) : entryFrame m #[(.long x0)] 2 = mkF m 0 #[.val (.long x0), .second] [] := by first | (simp [entryFrame, mkF, argsToLocals, Value.category]; done) | rfl
theorem d6_20 : decode prog_7_method_13_code 20 = .ok (.lload_n 0, 1) := by decide +kernel
theorem d6_21 : decode prog_7_method_13_code 21 = .ok (.lreturn, 1) := by decide +kernel
def Q6 (Z : State) (q1 : Int64) (h0 : Heap) (n0 : Nat) (v : Option Value) (h : Heap) (L : List Loc) : Prop := v = some (.long q1) ∧ Fr n0 L ∧ h = h0
set_option maxRecDepth 65536 in
set_option maxHeartbeats 40000000 in
theorem rm6 (l : Launch) (Z : State) (a0 : Array Value) (hw : ∀ d ∈ tables_1, d.before a0 Z = true) (ws : List Jvm.Cond) (q1 : Int64) (h0 : Heap) (n0 : Nat) (Z0 : n0 ≤ h0.size) (hp : ¬ (q1 < (0 : Int64))) :
    MetFree l (⟨"com/example/quorumvote/quorumvote/election/Epochs", "requireZxid", "(J)J"⟩ : MethodName) (head1 (Jvm.Cond.code (⟨"com/example/quorumvote/quorumvote/election/Epochs", "requireZxid", "(J)J"⟩ : MethodName) prog_7_method_13_code 2 (some .long) :: ws) ({ frames := 0, cells := 0, slots := 0, locals := 0 } : Room)) (fun a U => a = #[(.long q1)] ∧ Z.Warmed39 U.vm ∧ U.heap = h0) (fun _ _ _ _ _ => True) (fun _ U o U' => ∃ v L, o = .returned v ∧ Q6 Z q1 h0 n0 v U'.heap L ∧ FrameEnd U o U' L ({ frames := 0, cells := 0, slots := 0, locals := 0 } : Room).cells ({ frames := 0, cells := 0, slots := 0, locals := 0 } : Room).slots) := by
  refine MetFree.of_bodySF (plainFor_of_name pn_6) hisR ?_
  intro p e s m args below meth c s₁ Bd hml0 hP hK
  obtain ⟨rfl, hZ, hh⟩ := hP
  have hx := Bd.exec
  have hby := Bd.bytes
  have hml : c.maxLocals = 2 := hml0
  have hown : s.vm.findClass "com/example/quorumvote/quorumvote/election/Epochs" = some m.cls := findClass_of_methodNamed Bd.named
  have hnm := (name_of_methodNamed Bd.named Bd.method).1
  have X0 : Stand p l e ({ frames := 0, cells := 0, slots := 0, locals := 0 } : Room) s m #[(.long q1)] below meth c s₁ [] 0 0 := Stand.of_body Bd
  have e0 : s₁.heap = h0 := by rw [← hh, Bd.state]; rfl
  have N0 := Fr.nil n0
  have pre0 : ∀ t, Steps p.tables e below (s₁.setTop (mkF m 0 #[.val (.long q1), .second] [])) t → Steps p.tables e below (s₁.setTop (entryFrame m #[(.long q1)] 2)) t := fun t k => castTop (ef_6 m q1) k
  have pre1 : ∀ t, Steps p.tables e below (s₁.setTop (mkF m 21 #[.val (.long q1), .second] [(.long q1)])) t → Steps p.tables e below (s₁.setTop (entryFrame m #[(.long q1)] 2)) t := by
    intro t kt
    refine pre0 _ ?_
    show Steps p.tables e below (s₁.setTop (mkF m 0 #[.val (.long q1), .second] [])) _
    refine XS.lloadN X0.here hx rfl (hb hby d6_0) rfl ?_
    show Steps p.tables e below (s₁.setTop (mkF m 1 #[.val (.long q1), .second] [(.long q1)])) _
    refine XS.lconst X0.here hx rfl (hb hby d6_1) ?_
    show Steps p.tables e below (s₁.setTop (mkF m 2 #[.val (.long q1), .second] [(.long (0 : Int64)), (.long q1)])) _
    refine XT.lcmp X0.here hx rfl (hb hby d6_2) rfl ?_
    show Steps p.tables e below (s₁.setTop (mkF m 3 #[.val (.long q1), .second] [(.int (XT.cmpL q1 (0 : Int64)))])) _
    refine XS.ifYes X0.here hx rfl (pc0 := 3) (pc' := 20) rfl (hb hby d6_3) rfl (XT.ll_ge_t hp) (by decide) (by decide) ?_
    show Steps p.tables e below (s₁.setTop (mkF m 20 #[.val (.long q1), .second] [])) _
    refine XS.lloadN X0.here hx rfl (hb hby d6_20) rfl ?_
    exact kt
  obtain ⟨fs, hr, hrun, hended, hW, hsame⟩ := X0.leave (v := some (.long q1)) (fun h => by rw [Bd.returns] at h; cases h)
  refine ⟨_, _, pre1 _ ?_, hrun, hended, _, _, rfl, ?_, ⟨_, rfl⟩, hW, hsame.mono (by decide) (by decide)⟩
  · show Steps p.tables e below (s₁.setTop (mkF m 21 #[.val (.long q1), .second] [(.long q1)])) _
    exact X0.lreturnOut hx Bd.returns (hb hby d6_21) hr
  · show Q6 Z q1 h0 n0 _ s₁.heap _
    rw [e0]
    exact ⟨rfl, N0, rfl⟩
theorem d2_0 : decode prog_29_method_1_code 0 = .ok (.aload_n 0, 1) := by decide +kernel
theorem d2_1 : decode prog_29_method_1_code 1 = .ok (.invokespecial 1, 3) := by decide +kernel
theorem d2_4 : decode prog_29_method_1_code 4 = .ok (.lload_n 1, 1) := by decide +kernel
theorem d2_5 : decode prog_29_method_1_code 5 = .ok (.invokestatic 7, 3) := by decide +kernel
theorem d2_8 : decode prog_29_method_1_code 8 = .ok (.pop2, 1) := by decide +kernel
theorem d2_9 : decode prog_29_method_1_code 9 = .ok (.lload_n 3, 1) := by decide +kernel
theorem d2_10 : decode prog_29_method_1_code 10 = .ok (.invokestatic 13, 3) := by decide +kernel
theorem d2_13 : decode prog_29_method_1_code 13 = .ok (.pop2, 1) := by decide +kernel
theorem d2_14 : decode prog_29_method_1_code 14 = .ok (.lload 5, 2) := by decide +kernel
theorem d2_16 : decode prog_29_method_1_code 16 = .ok (.lconst 1, 1) := by decide +kernel
theorem d2_17 : decode prog_29_method_1_code 17 = .ok (.lcmp, 1) := by decide +kernel
theorem d2_18 : decode prog_29_method_1_code 18 = .ok (.ifCond .ge 18, 3) := by decide +kernel
theorem d2_21 : decode prog_29_method_1_code 21 = .ok (.new 16, 3) := by decide +kernel
theorem d2_24 : decode prog_29_method_1_code 24 = .ok (.dup, 1) := by decide +kernel
theorem d2_25 : decode prog_29_method_1_code 25 = .ok (.lload 5, 2) := by decide +kernel
theorem pn_2 : plainName "com/example/quorumvote/quorumvote/election/Vote" = true := by first | (simp [plainName, overriddenIn]; done) | decide +kernel
theorem ef_2 (m : MethodId) (x0 : Addr) (x1 : Int64) (x2 : Int64) (x3 : Int64) : entryFrame m #[(.ref x0), (.long x1), (.long x2), (.long x3)] 7 = mkF m 0 #[.val (.ref x0), .val (.long x1), .second, .val (.long x2), .second, .val (.long x3), .second] [] := by first | (simp [entryFrame, mkF, argsToLocals, Value.category]; done) | rfl
theorem pd_0 : parseMethodDescriptor "()V" = some ⟨[], none⟩ := by decide +kernel
theorem pd_1 : parseMethodDescriptor "(J)J" = some ⟨[.long], some .long⟩ := by decide +kernel
theorem d2_36 : decode prog_29_method_1_code 36 = .ok (.aload_n 0, 1) := by decide +kernel
theorem d2_37 : decode prog_29_method_1_code 37 = .ok (.lload_n 1, 1) := by decide +kernel
theorem d2_38 : decode prog_29_method_1_code 38 = .ok (.putfield 25, 3) := by decide +kernel
theorem d2_41 : decode prog_29_method_1_code 41 = .ok (.aload_n 0, 1) := by decide +kernel
theorem d2_42 : decode prog_29_method_1_code 42 = .ok (.lload_n 3, 1) := by decide +kernel
theorem d2_43 : decode prog_29_method_1_code 43 = .ok (.putfield 31, 3) := by decide +kernel
theorem d2_46 : decode prog_29_method_1_code 46 = .ok (.aload_n 0, 1) := by decide +kernel
theorem d2_47 : decode prog_29_method_1_code 47 = .ok (.lload 5, 2) := by decide +kernel
theorem d2_49 : decode prog_29_method_1_code 49 = .ok (.putfield 34, 3) := by decide +kernel
theorem d2_52 : decode prog_29_method_1_code 52 = .ok (.return_, 1) := by decide +kernel
def Q2 (Z : State) (a1 : Addr) (q2 : Int64) (q3 : Int64) (q4 : Int64) (h0 : Heap) (n0 : Nat) (v : Option Value) (h : Heap) (L : List Loc) : Prop := v = none ∧ Fr n0 L ∧ Keep h0 h [a1] ∧ Exa Z h a1 "com/example/quorumvote/quorumvote/election/Vote" ∧ Fld Z h a1 "com/example/quorumvote/quorumvote/election/Vote" "epoch" "J" (.long q2) ∧ Fld Z h a1 "com/example/quorumvote/quorumvote/election/Vote" "zxid" "J" (.long q3) ∧ Fld Z h a1 "com/example/quorumvote/quorumvote/election/Vote" "serverId" "J" (.long q4)
set_option maxRecDepth 65536 in
set_option maxHeartbeats 40000000 in
theorem rm2 (l : Launch) (Z : State) (a0 : Array Value) (hw : ∀ d ∈ tables_1, d.before a0 Z = true) (ws : List Jvm.Cond) (a1 : Addr) (q2 : Int64) (q3 : Int64) (q4 : Int64) (h0 : Heap) (n0 : Nat) (Z0 : n0 ≤ h0.size) (E_a1 : Exa Z h0 a1 "com/example/quorumvote/quorumvote/election/Vote") (F_epoch : Fld Z h0 a1 "com/example/quorumvote/quorumvote/election/Vote" "epoch" "J" (.long (0 : Int64))) (F_zxid : Fld Z h0 a1 "com/example/quorumvote/quorumvote/election/Vote" "zxid" "J" (.long (0 : Int64))) (F_serverId : Fld Z h0 a1 "com/example/quorumvote/quorumvote/election/Vote" "serverId" "J" (.long (0 : Int64))) (g_a1 : n0 ≤ a1) (hx1 : ¬ (q2 < (0 : Int64))) (hx2 : ¬ ((2147483647 : Int64) < q2)) (hx3 : ¬ (q3 < (0 : Int64))) (hx4 : ¬ (q4 < (1 : Int64))) :
    MetFree l (⟨"com/example/quorumvote/quorumvote/election/Vote", "<init>", "(JJJ)V"⟩ : MethodName) (head1 (Jvm.Cond.code (⟨"com/example/quorumvote/quorumvote/election/Vote", "<init>", "(JJJ)V"⟩ : MethodName) prog_29_method_1_code 7 none :: ws) ({ frames := 2, cells := 0, slots := 0, locals := 24 } : Room)) (fun a U => a = #[(.ref a1), (.long q2), (.long q3), (.long q4)] ∧ Z.Warmed39 U.vm ∧ U.heap = h0) (fun _ _ _ _ _ => True) (fun _ U o U' => ∃ v L, o = .returned v ∧ Q2 Z a1 q2 q3 q4 h0 n0 v U'.heap L ∧ FrameEnd U o U' L ({ frames := 2, cells := 0, slots := 0, locals := 24 } : Room).cells ({ frames := 2, cells := 0, slots := 0, locals := 24 } : Room).slots) := by
  refine MetFree.of_bodySF (plainFor_of_name pn_2) hisR ?_
  intro p e s m args below meth c s₁ Bd hml0 hP hK
  obtain ⟨rfl, hZ, hh⟩ := hP
  have hx := Bd.exec
  have hby := Bd.bytes
  have hml : c.maxLocals = 7 := hml0
  have hown : s.vm.findClass "com/example/quorumvote/quorumvote/election/Vote" = some m.cls := findClass_of_methodNamed Bd.named
  have hnm := (name_of_methodNamed Bd.named Bd.method).1
  have X0 : Stand p l e ({ frames := 2, cells := 0, slots := 0, locals := 24 } : Room) s m #[(.ref a1), (.long q2), (.long q3), (.long q4)] below meth c s₁ [] 0 0 := Stand.of_body Bd
  have e0 : s₁.heap = h0 := by rw [← hh, Bd.state]; rfl
  have N0 := Fr.nil n0
  have pre0 : ∀ t, Steps p.tables e below (s₁.setTop (mkF m 0 #[.val (.ref a1), .val (.long q2), .second, .val (.long q3), .second, .val (.long q4), .second] [])) t → Steps p.tables e below (s₁.setTop (entryFrame m #[(.ref a1), (.long q2), (.long q3), (.long q4)] 7)) t := fun t k => castTop (ef_2 m a1 q2 q3 q4) k
  obtain ⟨_, _, ⟨T1, L1, k1, n1⟩, -, X1, ⟨Lc1, hQ1, l1, y1, z1⟩, st1⟩ := X0.specialBack hx (y := (⟨"java/lang/Record", "<init>", "()V"⟩ : MethodName)) rfl hown (mvT hZ (hw _ (List.mem_of_getElem? (i := 12) rfl))) (mvT hZ (hw _ (List.mem_of_getElem? (i := 13) rfl))) (mvT hZ (hw _ (List.mem_of_getElem? (i := 16) rfl))) (by decide) (backOf (W := 0) (rm3 l Z a0 hw [] a1 h0 n0 Z0) hZ (hw _ (List.mem_of_getElem? (i := 16) rfl)) (hw _ (List.mem_of_getElem? (i := 15) rfl)) (by decide) (by decide)) (g := (mkF m 1 #[.val (.ref a1), .val (.long q2), .second, .val (.long q3), .second, .val (.long q4), .second] [(.ref a1)])) rfl (by rw [hml]; rfl) (Steps.refl _) (a := a1) (argsL := []) (rest := []) (lenOf pd_0 rfl) rfl (by show 2 * 0 + _ ≤ _; exact Nat.le_of_eq rfl) (hb hby d2_1) (fun _ _ => ⟨rfl, e0, (by decide : 0 + 0 ≤ _), (by decide : 0 + 0 ≤ _)⟩)
  dsimp only [Pt.U, Pt.locs, Pt.cells, Pt.slots] at X1 l1 y1 z1 st1 hQ1
  subst l1 y1 z1
  obtain ⟨rfl, N1q, hE1⟩ := hQ1
  have N1 := Fr.app N0 N1q
  obtain ⟨_, _, ⟨T2, L2, k2, n2⟩, -, X2, ⟨Lc2, hQ2, l2, y2, z2⟩, st2⟩ := Jvm.LawKit.callS X1 hx (y := (⟨"com/example/quorumvote/quorumvote/election/Epochs", "requireEpoch", "(J)J"⟩ : MethodName)) hown (mvT hZ (hw _ (List.mem_of_getElem? (i := 20) rfl))) (mvT hZ (hw _ (List.mem_of_getElem? (i := 21) rfl))) (mvT hZ (hw _ (List.mem_of_getElem? (i := 22) rfl))) (mvT hZ (hw _ (List.mem_of_getElem? (i := 23) rfl))) (by decide) (backOf (W := 0) (rm5 l Z a0 hw [] q2 h0 n0 Z0 hx1 hx2) hZ (hw _ (List.mem_of_getElem? (i := 23) rfl)) (hw _ (List.mem_of_getElem? (i := 22) rfl)) (by decide) (by decide)) (g := (mkF m 5 #[.val (.ref a1), .val (.long q2), .second, .val (.long q3), .second, .val (.long q4), .second] [(.long q2)])) rfl (by rw [hml]; rfl) (argsL := [(.long q2)]) (rest := []) (lenOf pd_1 rfl) rfl (by show 2 * 0 + _ ≤ _; exact Nat.le_of_eq rfl) (hb hby d2_5) (fun _ _ => ⟨rfl, hE1, (by decide : 0 + 0 ≤ _), (by decide : 0 + 0 ≤ _)⟩)
  dsimp only [Pt.U, Pt.locs, Pt.cells, Pt.slots] at X2 l2 y2 z2 st2 hQ2
  subst l2 y2 z2
  obtain ⟨rfl, N2q, hE2⟩ := hQ2
  have N2 := Fr.app N1 N2q
  obtain ⟨_, _, ⟨T3, L3, k3, n3⟩, -, X3, ⟨Lc3, hQ3, l3, y3, z3⟩, st3⟩ := Jvm.LawKit.callS X2 hx (y := (⟨"com/example/quorumvote/quorumvote/election/Epochs", "requireZxid", "(J)J"⟩ : MethodName)) hown (mvT hZ (hw _ (List.mem_of_getElem? (i := 25) rfl))) (mvT hZ (hw _ (List.mem_of_getElem? (i := 26) rfl))) (mvT hZ (hw _ (List.mem_of_getElem? (i := 22) rfl))) (mvT hZ (hw _ (List.mem_of_getElem? (i := 27) rfl))) (by decide) (backOf (W := 0) (rm6 l Z a0 hw [] q3 h0 n0 Z0 hx3) hZ (hw _ (List.mem_of_getElem? (i := 27) rfl)) (hw _ (List.mem_of_getElem? (i := 22) rfl)) (by decide) (by decide)) (g := (mkF m 10 #[.val (.ref a1), .val (.long q2), .second, .val (.long q3), .second, .val (.long q4), .second] [(.long q3)])) rfl (by rw [hml]; rfl) (argsL := [(.long q3)]) (rest := []) (lenOf pd_1 rfl) rfl (by show 2 * 0 + _ ≤ _; exact Nat.le_of_eq rfl) (hb hby d2_10) (fun _ _ => ⟨rfl, hE2, (by decide : 0 + 0 ≤ _), (by decide : 0 + 0 ≤ _)⟩)
  dsimp only [Pt.U, Pt.locs, Pt.cells, Pt.slots] at X3 l3 y3 z3 st3 hQ3
  subst l3 y3 z3
  obtain ⟨rfl, N3q, hE3⟩ := hQ3
  have N3 := Fr.app N2 N3q
  obtain ⟨T4, gh4, X4, hE4, W4, st4⟩ := putF X3 hx hZ hown (host := "") (Or.inl (hw _ (List.mem_of_getElem? (i := 28) rfl))) Via.refl hE3 F_epoch E_a1 (Or.inr ⟨(hw _ (List.mem_of_getElem? (i := 29) rfl)), rfl, hnm⟩) (hw _ (List.mem_of_getElem? (i := 7) rfl)) (ty := .long) (by decide) rfl rfl (g := (mkF m 38 #[.val (.ref a1), .val (.long q2), .second, .val (.long q3), .second, .val (.long q4), .second] [(.long q2), (.ref a1)])) rfl rfl (hb hby d2_38)
  have Fw4 := F_epoch.same W4
  have f5 := E_a1.wr W4
  have f7 := F_zxid.other W4 (Or.inr (slot_ne (Or.inr (hw _ (List.mem_of_getElem? (i := 31) rfl))) (Or.inr (hw _ (List.mem_of_getElem? (i := 29) rfl))) (by decide) (t := .long) (t' := .long) (by decide) (by decide)))
  have f8 := F_serverId.other W4 (Or.inr (slot_ne (Or.inr (hw _ (List.mem_of_getElem? (i := 33) rfl))) (Or.inr (hw _ (List.mem_of_getElem? (i := 29) rfl))) (by decide) (t := .long) (t' := .long) (by decide) (by decide)))
  have Z9 := Nat.le_trans Z0 (Keep.of_wr W4).1
  have N10 := Fr.snoc X4 N3 g_a1
  have K11 := (Keep.refl h0 [a1]).wr W4 (Or.inl (List.mem_of_getElem? (i := 0) rfl))
  obtain ⟨T12, gh12, X12, hE12, W12, st12⟩ := putF X4 hx hZ hown (host := "") (Or.inl (hw _ (List.mem_of_getElem? (i := 30) rfl))) Via.refl hE4 f7 f5 (Or.inr ⟨(hw _ (List.mem_of_getElem? (i := 31) rfl)), rfl, hnm⟩) (hw _ (List.mem_of_getElem? (i := 7) rfl)) (ty := .long) (by decide) rfl rfl (g := (mkF m 43 #[.val (.ref a1), .val (.long q2), .second, .val (.long q3), .second, .val (.long q4), .second] [(.long q3), (.ref a1)])) rfl rfl (hb hby d2_43)
  have Fw12 := f7.same W12
  have f13 := f5.wr W12
  have f14 := Fw4.other W12 (Or.inr (slot_ne (Or.inr (hw _ (List.mem_of_getElem? (i := 29) rfl))) (Or.inr (hw _ (List.mem_of_getElem? (i := 31) rfl))) (by decide) (t := .long) (t' := .long) (by decide) (by decide)))
  have f16 := f8.other W12 (Or.inr (slot_ne (Or.inr (hw _ (List.mem_of_getElem? (i := 33) rfl))) (Or.inr (hw _ (List.mem_of_getElem? (i := 31) rfl))) (by decide) (t := .long) (t' := .long) (by decide) (by decide)))
  have Z17 := Nat.le_trans Z9 (Keep.of_wr W12).1
  have N18 := Fr.snoc X12 N10 g_a1
  have K19 := K11.wr W12 (Or.inl (List.mem_of_getElem? (i := 0) rfl))
  obtain ⟨T20, gh20, X20, hE20, W20, st20⟩ := putF X12 hx hZ hown (host := "") (Or.inl (hw _ (List.mem_of_getElem? (i := 32) rfl))) Via.refl hE12 f16 f13 (Or.inr ⟨(hw _ (List.mem_of_getElem? (i := 33) rfl)), rfl, hnm⟩) (hw _ (List.mem_of_getElem? (i := 7) rfl)) (ty := .long) (by decide) rfl rfl (g := (mkF m 49 #[.val (.ref a1), .val (.long q2), .second, .val (.long q3), .second, .val (.long q4), .second] [(.long q4), (.ref a1)])) rfl rfl (hb hby d2_49)
  have Fw20 := f16.same W20
  have f21 := f13.wr W20
  have f22 := f14.other W20 (Or.inr (slot_ne (Or.inr (hw _ (List.mem_of_getElem? (i := 29) rfl))) (Or.inr (hw _ (List.mem_of_getElem? (i := 33) rfl))) (by decide) (t := .long) (t' := .long) (by decide) (by decide)))
  have f23 := Fw12.other W20 (Or.inr (slot_ne (Or.inr (hw _ (List.mem_of_getElem? (i := 31) rfl))) (Or.inr (hw _ (List.mem_of_getElem? (i := 33) rfl))) (by decide) (t := .long) (t' := .long) (by decide) (by decide)))
  have Z25 := Nat.le_trans Z17 (Keep.of_wr W20).1
  have N26 := Fr.snoc X20 N18 g_a1
  have K27 := K19.wr W20 (Or.inl (List.mem_of_getElem? (i := 0) rfl))
  have pre28 : ∀ t, Steps p.tables e below (T20.setTop (mkF m 52 #[.val (.ref a1), .val (.long q2), .second, .val (.long q3), .second, .val (.long q4), .second] [])) t → Steps p.tables e below (s₁.setTop (entryFrame m #[(.ref a1), (.long q2), (.long q3), (.long q4)] 7)) t := by
    intro t kt
    refine pre0 _ ?_
    show Steps p.tables e below (s₁.setTop (mkF m 0 #[.val (.ref a1), .val (.long q2), .second, .val (.long q3), .second, .val (.long q4), .second] [])) _
    refine XS.aloadN X0.here hx rfl (hb hby d2_0) rfl rfl ?_
    show Steps p.tables e below (s₁.setTop (mkF m 1 #[.val (.ref a1), .val (.long q2), .second, .val (.long q3), .second, .val (.long q4), .second] [(.ref a1)])) _
    refine st1.trans ?_
    show Steps p.tables e below (T1.setTop (mkF m 4 #[.val (.ref a1), .val (.long q2), .second, .val (.long q3), .second, .val (.long q4), .second] [])) _
    refine XS.lloadN X1.here hx rfl (hb hby d2_4) rfl ?_
    show Steps p.tables e below (T1.setTop (mkF m 5 #[.val (.ref a1), .val (.long q2), .second, .val (.long q3), .second, .val (.long q4), .second] [(.long q2)])) _
    refine st2 _ ?_
    show Steps p.tables e below (T2.setTop (mkF m 8 #[.val (.ref a1), .val (.long q2), .second, .val (.long q3), .second, .val (.long q4), .second] [(.long q2)])) _
    jvm_step X2.here [X2.here.top, hx, (hb hby d2_8), Value.category]
    show Steps p.tables e below (T2.setTop (mkF m 9 #[.val (.ref a1), .val (.long q2), .second, .val (.long q3), .second, .val (.long q4), .second] [])) _
    refine XS.lloadN X2.here hx rfl (hb hby d2_9) rfl ?_
    show Steps p.tables e below (T2.setTop (mkF m 10 #[.val (.ref a1), .val (.long q2), .second, .val (.long q3), .second, .val (.long q4), .second] [(.long q3)])) _
    refine st3 _ ?_
    show Steps p.tables e below (T3.setTop (mkF m 13 #[.val (.ref a1), .val (.long q2), .second, .val (.long q3), .second, .val (.long q4), .second] [(.long q3)])) _
    jvm_step X3.here [X3.here.top, hx, (hb hby d2_13), Value.category]
    show Steps p.tables e below (T3.setTop (mkF m 14 #[.val (.ref a1), .val (.long q2), .second, .val (.long q3), .second, .val (.long q4), .second] [])) _
    refine XS.lload X3.here hx rfl (hb hby d2_14) rfl ?_
    show Steps p.tables e below (T3.setTop (mkF m 16 #[.val (.ref a1), .val (.long q2), .second, .val (.long q3), .second, .val (.long q4), .second] [(.long q4)])) _
    refine XS.lconst X3.here hx rfl (hb hby d2_16) ?_
    show Steps p.tables e below (T3.setTop (mkF m 17 #[.val (.ref a1), .val (.long q2), .second, .val (.long q3), .second, .val (.long q4), .second] [(.long (1 : Int64)), (.long q4)])) _
    refine XT.lcmp X3.here hx rfl (hb hby d2_17) rfl ?_
    show Steps p.tables e below (T3.setTop (mkF m 18 #[.val (.ref a1), .val (.long q2), .second, .val (.long q3), .second, .val (.long q4), .second] [(.int (XT.cmpL q4 (1 : Int64)))])) _
    refine XS.ifYes X3.here hx rfl (pc0 := 18) (pc' := 36) rfl (hb hby d2_18) rfl (XT.ll_ge_t hx4) (by decide) (by decide) ?_
    show Steps p.tables e below (T3.setTop (mkF m 36 #[.val (.ref a1), .val (.long q2), .second, .val (.long q3), .second, .val (.long q4), .second] [])) _
    refine XS.aloadN X3.here hx rfl (hb hby d2_36) rfl rfl ?_
    show Steps p.tables e below (T3.setTop (mkF m 37 #[.val (.ref a1), .val (.long q2), .second, .val (.long q3), .second, .val (.long q4), .second] [(.ref a1)])) _
    refine XS.lloadN X3.here hx rfl (hb hby d2_37) rfl ?_
    show Steps p.tables e below (T3.setTop (mkF m 38 #[.val (.ref a1), .val (.long q2), .second, .val (.long q3), .second, .val (.long q4), .second] [(.long q2), (.ref a1)])) _
    refine st4 _ ?_
    show Steps p.tables e below (T4.setTop (mkF m 41 #[.val (.ref a1), .val (.long q2), .second, .val (.long q3), .second, .val (.long q4), .second] [])) _
    refine XS.aloadN X4.here hx rfl (hb hby d2_41) rfl rfl ?_
    show Steps p.tables e below (T4.setTop (mkF m 42 #[.val (.ref a1), .val (.long q2), .second, .val (.long q3), .second, .val (.long q4), .second] [(.ref a1)])) _
    refine XS.lloadN X4.here hx rfl (hb hby d2_42) rfl ?_
    show Steps p.tables e below (T4.setTop (mkF m 43 #[.val (.ref a1), .val (.long q2), .second, .val (.long q3), .second, .val (.long q4), .second] [(.long q3), (.ref a1)])) _
    refine st12 _ ?_
    show Steps p.tables e below (T12.setTop (mkF m 46 #[.val (.ref a1), .val (.long q2), .second, .val (.long q3), .second, .val (.long q4), .second] [])) _
    refine XS.aloadN X12.here hx rfl (hb hby d2_46) rfl rfl ?_
    show Steps p.tables e below (T12.setTop (mkF m 47 #[.val (.ref a1), .val (.long q2), .second, .val (.long q3), .second, .val (.long q4), .second] [(.ref a1)])) _
    refine XS.lload X12.here hx rfl (hb hby d2_47) rfl ?_
    show Steps p.tables e below (T12.setTop (mkF m 49 #[.val (.ref a1), .val (.long q2), .second, .val (.long q3), .second, .val (.long q4), .second] [(.long q4), (.ref a1)])) _
    refine st20 _ ?_
    exact kt
  obtain ⟨fs, hr, hrun, hended, hW, hsame⟩ := X20.leave (v := none) (fun _ => rfl)
  refine ⟨_, _, pre28 _ ?_, hrun, hended, _, _, rfl, ?_, ⟨_, rfl⟩, hW, hsame.mono (by decide) (by decide)⟩
  · show Steps p.tables e below (T20.setTop (mkF m 52 #[.val (.ref a1), .val (.long q2), .second, .val (.long q3), .second, .val (.long q4), .second] [])) _
    exact X20.returnOut hx Bd.returns (hb hby d2_52) hr
  · show Q2 Z a1 q2 q3 q4 h0 n0 _ T20.heap _
    rw [hE20]
    exact ⟨rfl, N26, K27, f21, f22, f23, Fw20⟩
theorem d7_0 : decode prog_29_method_3_code 0 = .ok (.aload_n 1, 1) := by decide +kernel
theorem d7_1 : decode prog_29_method_3_code 1 = .ok (.instanceof 26, 3) := by decide +kernel
theorem d7_4 : decode prog_29_method_3_code 4 = .ok (.ifCond .eq 48, 3) := by decide +kernel
theorem d7_7 : decode prog_29_method_3_code 7 = .ok (.aload_n 1, 1) := by decide +kernel
theorem d7_8 : decode prog_29_method_3_code 8 = .ok (.checkcast 26, 3) := by decide +kernel
theorem d7_11 : decode prog_29_method_3_code 11 = .ok (.astore_n 2, 1) := by decide +kernel
theorem d7_12 : decode prog_29_method_3_code 12 = .ok (.aload_n 2, 1) := by decide +kernel
theorem d7_13 : decode prog_29_method_3_code 13 = .ok (.getfield 25, 3) := by decide +kernel
theorem d7_16 : decode prog_29_method_3_code 16 = .ok (.aload_n 0, 1) := by decide +kernel
theorem d7_17 : decode prog_29_method_3_code 17 = .ok (.getfield 25, 3) := by decide +kernel
theorem d7_20 : decode prog_29_method_3_code 20 = .ok (.lcmp, 1) := by decide +kernel
theorem d7_21 : decode prog_29_method_3_code 21 = .ok (.ifCond .ne 31, 3) := by decide +kernel
theorem d7_24 : decode prog_29_method_3_code 24 = .ok (.aload_n 2, 1) := by decide +kernel
theorem d7_25 : decode prog_29_method_3_code 25 = .ok (.getfield 31, 3) := by decide +kernel
theorem d7_28 : decode prog_29_method_3_code 28 = .ok (.aload_n 0, 1) := by decide +kernel
theorem d7_29 : decode prog_29_method_3_code 29 = .ok (.getfield 31, 3) := by decide +kernel
theorem d7_32 : decode prog_29_method_3_code 32 = .ok (.lcmp, 1) := by decide +kernel
theorem d7_33 : decode prog_29_method_3_code 33 = .ok (.ifCond .ne 19, 3) := by decide +kernel
theorem d7_36 : decode prog_29_method_3_code 36 = .ok (.aload_n 2, 1) := by decide +kernel
theorem d7_37 : decode prog_29_method_3_code 37 = .ok (.getfield 34, 3) := by decide +kernel
theorem d7_40 : decode prog_29_method_3_code 40 = .ok (.aload_n 0, 1) := by decide +kernel
theorem d7_41 : decode prog_29_method_3_code 41 = .ok (.getfield 34, 3) := by decide +kernel
theorem d7_44 : decode prog_29_method_3_code 44 = .ok (.lcmp, 1) := by decide +kernel
theorem d7_45 : decode prog_29_method_3_code 45 = .ok (.ifCond .ne 7, 3) := by decide +kernel
theorem d7_48 : decode prog_29_method_3_code 48 = .ok (.iconst 1, 1) := by decide +kernel
theorem d7_49 : decode prog_29_method_3_code 49 = .ok (.goto 4, 3) := by decide +kernel
theorem d7_52 : decode prog_29_method_3_code 52 = .ok (.iconst 0, 1) := by decide +kernel
theorem d7_53 : decode prog_29_method_3_code 53 = .ok (.ireturn, 1) := by decide +kernel
theorem pn_7v : plainName "com/example/quorumvote/quorumvote/election/Vote" = true := by first | (simp [plainName, overriddenIn]; done) | decide +kernel
theorem ef_7v (m : MethodId) (x0 : Addr) (x1 : Addr) : entryFrame m #[(.ref x0), (.ref x1)] 3 = mkF m 0 #[.val (.ref x0), .val (.ref x1), .unset] [] := by first | (simp [entryFrame, mkF, argsToLocals, Value.category]; done) | rfl
def fn7v (a1 : Addr) (a2 : Addr) (e1 z1 s1 e2 z2 s2 : Int64) : Int32 := (if e2 = e1 then (if z2 = z1 then (if s2 = s1 then (1 : Int32) else (0 : Int32)) else (0 : Int32)) else (0 : Int32))
def Q7v (Z : State) (a1 : Addr) (a2 : Addr) (e1 z1 s1 e2 z2 s2 : Int64) (h0 : Heap) (n0 : Nat) (v : Option Value) (h : Heap) (L : List Loc) : Prop := v = some (.int (fn7v a1 a2 e1 z1 s1 e2 z2 s2)) ∧ Fr n0 L ∧ h = h0
set_option maxRecDepth 65536 in
set_option maxHeartbeats 40000000 in
theorem rm7v (l : Launch) (Z : State) (a0 : Array Value) (hw : ∀ d ∈ tables_1, d.before a0 Z = true) (ws : List Jvm.Cond) (a1 : Addr) (a2 : Addr) (e1 z1 s1 e2 z2 s2 : Int64) (h0 : Heap) (n0 : Nat) (Z0 : n0 ≤ h0.size) (E_a2 : Exa Z h0 a2 "com/example/quorumvote/quorumvote/election/Vote") (F_e1 : Fld Z h0 a1 "com/example/quorumvote/quorumvote/election/Vote" "epoch" "J" (.long e1)) (F_z1 : Fld Z h0 a1 "com/example/quorumvote/quorumvote/election/Vote" "zxid" "J" (.long z1)) (F_s1 : Fld Z h0 a1 "com/example/quorumvote/quorumvote/election/Vote" "serverId" "J" (.long s1)) (F_e2 : Fld Z h0 a2 "com/example/quorumvote/quorumvote/election/Vote" "epoch" "J" (.long e2)) (F_z2 : Fld Z h0 a2 "com/example/quorumvote/quorumvote/election/Vote" "zxid" "J" (.long z2)) (F_s2 : Fld Z h0 a2 "com/example/quorumvote/quorumvote/election/Vote" "serverId" "J" (.long s2)) :
    MetFree l (⟨"com/example/quorumvote/quorumvote/election/Vote", "equals", "(Ljava/lang/Object;)Z"⟩ : MethodName) (head1 (Jvm.Cond.code (⟨"com/example/quorumvote/quorumvote/election/Vote", "equals", "(Ljava/lang/Object;)Z"⟩ : MethodName) prog_29_method_3_code 3 (some .boolean) :: ws) ({ frames := 0, cells := 0, slots := 0, locals := 0 } : Room)) (fun a U => a = #[(.ref a1), (.ref a2)] ∧ Z.Warmed39 U.vm ∧ U.heap = h0) (fun _ _ _ _ _ => True) (fun _ U o U' => ∃ v L, o = .returned v ∧ Q7v Z a1 a2 e1 z1 s1 e2 z2 s2 h0 n0 v U'.heap L ∧ FrameEnd U o U' L ({ frames := 0, cells := 0, slots := 0, locals := 0 } : Room).cells ({ frames := 0, cells := 0, slots := 0, locals := 0 } : Room).slots) := by
  refine MetFree.of_bodySF (plainFor_of_name pn_7v) hisR ?_
  intro p e s m args below meth c s₁ Bd hml0 hP hK
  obtain ⟨rfl, hZ, hh⟩ := hP
  have hx := Bd.exec
  have hby := Bd.bytes
  have hml : c.maxLocals = 3 := hml0
  have hown : s.vm.findClass "com/example/quorumvote/quorumvote/election/Vote" = some m.cls := findClass_of_methodNamed Bd.named
  have hnm := (name_of_methodNamed Bd.named Bd.method).1
  have X0 : Stand p l e ({ frames := 0, cells := 0, slots := 0, locals := 0 } : Room) s m #[(.ref a1), (.ref a2)] below meth c s₁ [] 0 0 := Stand.of_body Bd
  have e0 : s₁.heap = h0 := by rw [← hh, Bd.state]; rfl
  have N0 := Fr.nil n0
  have pre0 : ∀ t, Steps p.tables e below (s₁.setTop (mkF m 0 #[.val (.ref a1), .val (.ref a2), .unset] [])) t → Steps p.tables e below (s₁.setTop (entryFrame m #[(.ref a1), (.ref a2)] 3)) t := fun t k => castTop (ef_7v m a1 a2) k
  obtain ⟨T1, X1, hE1, st1⟩ := instY X0 hx hZ hown (hw _ (List.mem_of_getElem? (i := 39) rfl)) e0 (Ins.self E_a2) (g := (mkF m 1 #[.val (.ref a1), .val (.ref a2), .unset] [(.ref a2)])) rfl rfl (hb hby d7_1)
  obtain ⟨T2, X2, hE2, st2⟩ := castY X1 hx hZ hown (hw _ (List.mem_of_getElem? (i := 39) rfl)) hE1 (Ins.self E_a2) (g := (mkF m 8 #[.val (.ref a1), .val (.ref a2), .unset] [(.ref a2)])) rfl rfl (hb hby d7_8)
  obtain ⟨T3, X3, hE3, st3⟩ := getF X2 hx hZ hown (host := "") (Or.inl (hw _ (List.mem_of_getElem? (i := 28) rfl))) Via.refl hE2 F_e2 (g := (mkF m 13 #[.val (.ref a1), .val (.ref a2), .val (.ref a2)] [(.ref a2)])) rfl rfl (hb hby d7_13)
  obtain ⟨T4, X4, hE4, st4⟩ := getF X3 hx hZ hown (host := "") (Or.inl (hw _ (List.mem_of_getElem? (i := 28) rfl))) Via.refl hE3 F_e1 (g := (mkF m 17 #[.val (.ref a1), .val (.ref a2), .val (.ref a2)] [(.ref a1), (.long e2)])) rfl rfl (hb hby d7_17)
  have pre5 : ∀ t, Steps p.tables e below (T4.setTop (mkF m 21 #[.val (.ref a1), .val (.ref a2), .val (.ref a2)] [(.int (XT.cmpL e2 e1))])) t → Steps p.tables e below (s₁.setTop (entryFrame m #[(.ref a1), (.ref a2)] 3)) t := by
    intro t kt
    refine pre0 _ ?_
    show Steps p.tables e below (s₁.setTop (mkF m 0 #[.val (.ref a1), .val (.ref a2), .unset] [])) _
    refine XS.aloadN X0.here hx rfl (hb hby d7_0) rfl rfl ?_
    show Steps p.tables e below (s₁.setTop (mkF m 1 #[.val (.ref a1), .val (.ref a2), .unset] [(.ref a2)])) _
    refine st1 _ ?_
    show Steps p.tables e below (T1.setTop (mkF m 4 #[.val (.ref a1), .val (.ref a2), .unset] [(.int (1 : Int32))])) _
    refine XS.ifNo X1.here hx rfl (hb hby d7_4) rfl (XT.i0_eq_f (by decide)) ?_
    show Steps p.tables e below (T1.setTop (mkF m 7 #[.val (.ref a1), .val (.ref a2), .unset] [])) _
    refine XS.aloadN X1.here hx rfl (hb hby d7_7) rfl rfl ?_
    show Steps p.tables e below (T1.setTop (mkF m 8 #[.val (.ref a1), .val (.ref a2), .unset] [(.ref a2)])) _
    refine st2 _ ?_
    show Steps p.tables e below (T2.setTop (mkF m 11 #[.val (.ref a1), .val (.ref a2), .unset] [(.ref a2)])) _
    refine XS.astoreN X2.here hx rfl (hb hby d7_11) rfl rfl (l' := #[.val (.ref a1), .val (.ref a2), .val (.ref a2)]) rfl ?_
    show Steps p.tables e below (T2.setTop (mkF m 12 #[.val (.ref a1), .val (.ref a2), .val (.ref a2)] [])) _
    refine XS.aloadN X2.here hx rfl (hb hby d7_12) rfl rfl ?_
    show Steps p.tables e below (T2.setTop (mkF m 13 #[.val (.ref a1), .val (.ref a2), .val (.ref a2)] [(.ref a2)])) _
    refine st3 _ ?_
    show Steps p.tables e below (T3.setTop (mkF m 16 #[.val (.ref a1), .val (.ref a2), .val (.ref a2)] [(.long e2)])) _
    refine XS.aloadN X3.here hx rfl (hb hby d7_16) rfl rfl ?_
    show Steps p.tables e below (T3.setTop (mkF m 17 #[.val (.ref a1), .val (.ref a2), .val (.ref a2)] [(.ref a1), (.long e2)])) _
    refine st4 _ ?_
    show Steps p.tables e below (T4.setTop (mkF m 20 #[.val (.ref a1), .val (.ref a2), .val (.ref a2)] [(.long e1), (.long e2)])) _
    refine XT.lcmp X4.here hx rfl (hb hby d7_20) rfl ?_
    exact kt
  by_cases hc21_6 : e2 = e1
  · skip
    obtain ⟨T7, X7, hE7, st7⟩ := getF X4 hx hZ hown (host := "") (Or.inl (hw _ (List.mem_of_getElem? (i := 30) rfl))) Via.refl hE4 F_z2 (g := (mkF m 25 #[.val (.ref a1), .val (.ref a2), .val (.ref a2)] [(.ref a2)])) rfl rfl (hb hby d7_25)
    obtain ⟨T8, X8, hE8, st8⟩ := getF X7 hx hZ hown (host := "") (Or.inl (hw _ (List.mem_of_getElem? (i := 30) rfl))) Via.refl hE7 F_z1 (g := (mkF m 29 #[.val (.ref a1), .val (.ref a2), .val (.ref a2)] [(.ref a1), (.long z2)])) rfl rfl (hb hby d7_29)
    have pre9 : ∀ t, Steps p.tables e below (T8.setTop (mkF m 33 #[.val (.ref a1), .val (.ref a2), .val (.ref a2)] [(.int (XT.cmpL z2 z1))])) t → Steps p.tables e below (s₁.setTop (entryFrame m #[(.ref a1), (.ref a2)] 3)) t := by
      intro t kt
      refine pre5 _ ?_
      show Steps p.tables e below (T4.setTop (mkF m 21 #[.val (.ref a1), .val (.ref a2), .val (.ref a2)] [(.int (XT.cmpL e2 e1))])) _
      refine XS.ifNo X4.here hx rfl (hb hby d7_21) rfl (XT.ll_ne_f hc21_6) ?_
      show Steps p.tables e below (T4.setTop (mkF m 24 #[.val (.ref a1), .val (.ref a2), .val (.ref a2)] [])) _
      refine XS.aloadN X4.here hx rfl (hb hby d7_24) rfl rfl ?_
      show Steps p.tables e below (T4.setTop (mkF m 25 #[.val (.ref a1), .val (.ref a2), .val (.ref a2)] [(.ref a2)])) _
      refine st7 _ ?_
      show Steps p.tables e below (T7.setTop (mkF m 28 #[.val (.ref a1), .val (.ref a2), .val (.ref a2)] [(.long z2)])) _
      refine XS.aloadN X7.here hx rfl (hb hby d7_28) rfl rfl ?_
      show Steps p.tables e below (T7.setTop (mkF m 29 #[.val (.ref a1), .val (.ref a2), .val (.ref a2)] [(.ref a1), (.long z2)])) _
      refine st8 _ ?_
      show Steps p.tables e below (T8.setTop (mkF m 32 #[.val (.ref a1), .val (.ref a2), .val (.ref a2)] [(.long z1), (.long z2)])) _
      refine XT.lcmp X8.here hx rfl (hb hby d7_32) rfl ?_
      exact kt
    by_cases hc33_10 : z2 = z1
    · skip
      obtain ⟨T11, X11, hE11, st11⟩ := getF X8 hx hZ hown (host := "") (Or.inl (hw _ (List.mem_of_getElem? (i := 32) rfl))) Via.refl hE8 F_s2 (g := (mkF m 37 #[.val (.ref a1), .val (.ref a2), .val (.ref a2)] [(.ref a2)])) rfl rfl (hb hby d7_37)
      obtain ⟨T12, X12, hE12, st12⟩ := getF X11 hx hZ hown (host := "") (Or.inl (hw _ (List.mem_of_getElem? (i := 32) rfl))) Via.refl hE11 F_s1 (g := (mkF m 41 #[.val (.ref a1), .val (.ref a2), .val (.ref a2)] [(.ref a1), (.long s2)])) rfl rfl (hb hby d7_41)
      have pre13 : ∀ t, Steps p.tables e below (T12.setTop (mkF m 45 #[.val (.ref a1), .val (.ref a2), .val (.ref a2)] [(.int (XT.cmpL s2 s1))])) t → Steps p.tables e below (s₁.setTop (entryFrame m #[(.ref a1), (.ref a2)] 3)) t := by
        intro t kt
        refine pre9 _ ?_
        show Steps p.tables e below (T8.setTop (mkF m 33 #[.val (.ref a1), .val (.ref a2), .val (.ref a2)] [(.int (XT.cmpL z2 z1))])) _
        refine XS.ifNo X8.here hx rfl (hb hby d7_33) rfl (XT.ll_ne_f hc33_10) ?_
        show Steps p.tables e below (T8.setTop (mkF m 36 #[.val (.ref a1), .val (.ref a2), .val (.ref a2)] [])) _
        refine XS.aloadN X8.here hx rfl (hb hby d7_36) rfl rfl ?_
        show Steps p.tables e below (T8.setTop (mkF m 37 #[.val (.ref a1), .val (.ref a2), .val (.ref a2)] [(.ref a2)])) _
        refine st11 _ ?_
        show Steps p.tables e below (T11.setTop (mkF m 40 #[.val (.ref a1), .val (.ref a2), .val (.ref a2)] [(.long s2)])) _
        refine XS.aloadN X11.here hx rfl (hb hby d7_40) rfl rfl ?_
        show Steps p.tables e below (T11.setTop (mkF m 41 #[.val (.ref a1), .val (.ref a2), .val (.ref a2)] [(.ref a1), (.long s2)])) _
        refine st12 _ ?_
        show Steps p.tables e below (T12.setTop (mkF m 44 #[.val (.ref a1), .val (.ref a2), .val (.ref a2)] [(.long s1), (.long s2)])) _
        refine XT.lcmp X12.here hx rfl (hb hby d7_44) rfl ?_
        exact kt
      by_cases hc45_14 : s2 = s1
      · skip
        have pre15 : ∀ t, Steps p.tables e below (T12.setTop (mkF m 53 #[.val (.ref a1), .val (.ref a2), .val (.ref a2)] [(.int (1 : Int32))])) t → Steps p.tables e below (s₁.setTop (entryFrame m #[(.ref a1), (.ref a2)] 3)) t := by
          intro t kt
          refine pre13 _ ?_
          show Steps p.tables e below (T12.setTop (mkF m 45 #[.val (.ref a1), .val (.ref a2), .val (.ref a2)] [(.int (XT.cmpL s2 s1))])) _
          refine XS.ifNo X12.here hx rfl (hb hby d7_45) rfl (XT.ll_ne_f hc45_14) ?_
          show Steps p.tables e below (T12.setTop (mkF m 48 #[.val (.ref a1), .val (.ref a2), .val (.ref a2)] [])) _
          refine XS.iconst X12.here hx rfl (hb hby d7_48) ?_
          show Steps p.tables e below (T12.setTop (mkF m 49 #[.val (.ref a1), .val (.ref a2), .val (.ref a2)] [(.int (1 : Int32))])) _
          refine XS.goto X12.here hx rfl (pc0 := 49) (pc' := 53) rfl (hb hby d7_49) (by decide) (by decide) ?_
          exact kt
        obtain ⟨fs, hr, hrun, hended, hW, hsame⟩ := X12.leave (v := some (.int (1 : Int32))) (fun h => by rw [Bd.returns] at h; cases h)
        refine ⟨_, _, pre15 _ ?_, hrun, hended, _, _, rfl, ?_, ⟨_, rfl⟩, hW, hsame.mono (by decide) (by decide)⟩
        · show Steps p.tables e below (T12.setTop (mkF m 53 #[.val (.ref a1), .val (.ref a2), .val (.ref a2)] [(.int (1 : Int32))])) _
          exact retN X12 hx (t := .boolean) Bd.returns (by simp) (hb hby d7_53) hr
        · show Q7v Z a1 a2 e1 z1 s1 e2 z2 s2 h0 n0 _ T12.heap _
          rw [hE12]
          exact ⟨by unfold fn7v; rw [if_pos hc21_6, if_pos hc33_10, if_pos hc45_14], N0, rfl⟩
      · skip
        have pre16 : ∀ t, Steps p.tables e below (T12.setTop (mkF m 53 #[.val (.ref a1), .val (.ref a2), .val (.ref a2)] [(.int (0 : Int32))])) t → Steps p.tables e below (s₁.setTop (entryFrame m #[(.ref a1), (.ref a2)] 3)) t := by
          intro t kt
          refine pre13 _ ?_
          show Steps p.tables e below (T12.setTop (mkF m 45 #[.val (.ref a1), .val (.ref a2), .val (.ref a2)] [(.int (XT.cmpL s2 s1))])) _
          refine XS.ifYes X12.here hx rfl (pc0 := 45) (pc' := 52) rfl (hb hby d7_45) rfl (XT.ll_ne_t hc45_14) (by decide) (by decide) ?_
          show Steps p.tables e below (T12.setTop (mkF m 52 #[.val (.ref a1), .val (.ref a2), .val (.ref a2)] [])) _
          refine XS.iconst X12.here hx rfl (hb hby d7_52) ?_
          exact kt
        obtain ⟨fs, hr, hrun, hended, hW, hsame⟩ := X12.leave (v := some (.int (0 : Int32))) (fun h => by rw [Bd.returns] at h; cases h)
        refine ⟨_, _, pre16 _ ?_, hrun, hended, _, _, rfl, ?_, ⟨_, rfl⟩, hW, hsame.mono (by decide) (by decide)⟩
        · show Steps p.tables e below (T12.setTop (mkF m 53 #[.val (.ref a1), .val (.ref a2), .val (.ref a2)] [(.int (0 : Int32))])) _
          exact retN X12 hx (t := .boolean) Bd.returns (by simp) (hb hby d7_53) hr
        · show Q7v Z a1 a2 e1 z1 s1 e2 z2 s2 h0 n0 _ T12.heap _
          rw [hE12]
          exact ⟨by unfold fn7v; rw [if_pos hc21_6, if_pos hc33_10, if_neg hc45_14], N0, rfl⟩
    · skip
      have pre17 : ∀ t, Steps p.tables e below (T8.setTop (mkF m 53 #[.val (.ref a1), .val (.ref a2), .val (.ref a2)] [(.int (0 : Int32))])) t → Steps p.tables e below (s₁.setTop (entryFrame m #[(.ref a1), (.ref a2)] 3)) t := by
        intro t kt
        refine pre9 _ ?_
        show Steps p.tables e below (T8.setTop (mkF m 33 #[.val (.ref a1), .val (.ref a2), .val (.ref a2)] [(.int (XT.cmpL z2 z1))])) _
        refine XS.ifYes X8.here hx rfl (pc0 := 33) (pc' := 52) rfl (hb hby d7_33) rfl (XT.ll_ne_t hc33_10) (by decide) (by decide) ?_
        show Steps p.tables e below (T8.setTop (mkF m 52 #[.val (.ref a1), .val (.ref a2), .val (.ref a2)] [])) _
        refine XS.iconst X8.here hx rfl (hb hby d7_52) ?_
        exact kt
      obtain ⟨fs, hr, hrun, hended, hW, hsame⟩ := X8.leave (v := some (.int (0 : Int32))) (fun h => by rw [Bd.returns] at h; cases h)
      refine ⟨_, _, pre17 _ ?_, hrun, hended, _, _, rfl, ?_, ⟨_, rfl⟩, hW, hsame.mono (by decide) (by decide)⟩
      · show Steps p.tables e below (T8.setTop (mkF m 53 #[.val (.ref a1), .val (.ref a2), .val (.ref a2)] [(.int (0 : Int32))])) _
        exact retN X8 hx (t := .boolean) Bd.returns (by simp) (hb hby d7_53) hr
      · show Q7v Z a1 a2 e1 z1 s1 e2 z2 s2 h0 n0 _ T8.heap _
        rw [hE8]
        exact ⟨by unfold fn7v; rw [if_pos hc21_6, if_neg hc33_10], N0, rfl⟩
  · skip
    have pre18 : ∀ t, Steps p.tables e below (T4.setTop (mkF m 53 #[.val (.ref a1), .val (.ref a2), .val (.ref a2)] [(.int (0 : Int32))])) t → Steps p.tables e below (s₁.setTop (entryFrame m #[(.ref a1), (.ref a2)] 3)) t := by
      intro t kt
      refine pre5 _ ?_
      show Steps p.tables e below (T4.setTop (mkF m 21 #[.val (.ref a1), .val (.ref a2), .val (.ref a2)] [(.int (XT.cmpL e2 e1))])) _
      refine XS.ifYes X4.here hx rfl (pc0 := 21) (pc' := 52) rfl (hb hby d7_21) rfl (XT.ll_ne_t hc21_6) (by decide) (by decide) ?_
      show Steps p.tables e below (T4.setTop (mkF m 52 #[.val (.ref a1), .val (.ref a2), .val (.ref a2)] [])) _
      refine XS.iconst X4.here hx rfl (hb hby d7_52) ?_
      exact kt
    obtain ⟨fs, hr, hrun, hended, hW, hsame⟩ := X4.leave (v := some (.int (0 : Int32))) (fun h => by rw [Bd.returns] at h; cases h)
    refine ⟨_, _, pre18 _ ?_, hrun, hended, _, _, rfl, ?_, ⟨_, rfl⟩, hW, hsame.mono (by decide) (by decide)⟩
    · show Steps p.tables e below (T4.setTop (mkF m 53 #[.val (.ref a1), .val (.ref a2), .val (.ref a2)] [(.int (0 : Int32))])) _
      exact retN X4 hx (t := .boolean) Bd.returns (by simp) (hb hby d7_53) hr
    · show Q7v Z a1 a2 e1 z1 s1 e2 z2 s2 h0 n0 _ T4.heap _
      rw [hE4]
      exact ⟨by unfold fn7v; rw [if_neg hc21_6], N0, rfl⟩
theorem pn_7n : plainName "com/example/quorumvote/quorumvote/election/Vote" = true := by first | (simp [plainName, overriddenIn]; done) | decide +kernel
theorem ef_7n (m : MethodId) (x0 : Addr) : entryFrame m #[(.ref x0), .null] 3 = mkF m 0 #[.val (.ref x0), .val .null, .unset] [] := by first | (simp [entryFrame, mkF, argsToLocals, Value.category]; done) | rfl
def Q7n (Z : State) (a1 : Addr) (h0 : Heap) (n0 : Nat) (v : Option Value) (h : Heap) (L : List Loc) : Prop := v = some (.int (0 : Int32)) ∧ Fr n0 L ∧ h = h0
set_option maxRecDepth 65536 in
set_option maxHeartbeats 40000000 in
theorem rm7n (l : Launch) (Z : State) (a0 : Array Value) (hw : ∀ d ∈ tables_1, d.before a0 Z = true) (ws : List Jvm.Cond) (a1 : Addr) (h0 : Heap) (n0 : Nat) (Z0 : n0 ≤ h0.size) :
    MetFree l (⟨"com/example/quorumvote/quorumvote/election/Vote", "equals", "(Ljava/lang/Object;)Z"⟩ : MethodName) (head1 (Jvm.Cond.code (⟨"com/example/quorumvote/quorumvote/election/Vote", "equals", "(Ljava/lang/Object;)Z"⟩ : MethodName) prog_29_method_3_code 3 (some .boolean) :: ws) ({ frames := 0, cells := 0, slots := 0, locals := 0 } : Room)) (fun a U => a = #[(.ref a1), .null] ∧ Z.Warmed39 U.vm ∧ U.heap = h0) (fun _ _ _ _ _ => True) (fun _ U o U' => ∃ v L, o = .returned v ∧ Q7n Z a1 h0 n0 v U'.heap L ∧ FrameEnd U o U' L ({ frames := 0, cells := 0, slots := 0, locals := 0 } : Room).cells ({ frames := 0, cells := 0, slots := 0, locals := 0 } : Room).slots) := by
  refine MetFree.of_bodySF (plainFor_of_name pn_7n) hisR ?_
  intro p e s m args below meth c s₁ Bd hml0 hP hK
  obtain ⟨rfl, hZ, hh⟩ := hP
  have hx := Bd.exec
  have hby := Bd.bytes
  have hml : c.maxLocals = 3 := hml0
  have hown : s.vm.findClass "com/example/quorumvote/quorumvote/election/Vote" = some m.cls := findClass_of_methodNamed Bd.named
  have hnm := (name_of_methodNamed Bd.named Bd.method).1
  have X0 : Stand p l e ({ frames := 0, cells := 0, slots := 0, locals := 0 } : Room) s m #[(.ref a1), .null] below meth c s₁ [] 0 0 := Stand.of_body Bd
  have e0 : s₁.heap = h0 := by rw [← hh, Bd.state]; rfl
  have N0 := Fr.nil n0
  have pre0 : ∀ t, Steps p.tables e below (s₁.setTop (mkF m 0 #[.val (.ref a1), .val .null, .unset] [])) t → Steps p.tables e below (s₁.setTop (entryFrame m #[(.ref a1), .null] 3)) t := fun t k => castTop (ef_7n m a1) k
  have pre1 : ∀ t, Steps p.tables e below (s₁.setTop (mkF m 53 #[.val (.ref a1), .val .null, .unset] [(.int (0 : Int32))])) t → Steps p.tables e below (s₁.setTop (entryFrame m #[(.ref a1), .null] 3)) t := by
    intro t kt
    refine pre0 _ ?_
    show Steps p.tables e below (s₁.setTop (mkF m 0 #[.val (.ref a1), .val .null, .unset] [])) _
    refine XS.aloadN X0.here hx rfl (hb hby d7_0) rfl rfl ?_
    show Steps p.tables e below (s₁.setTop (mkF m 1 #[.val (.ref a1), .val .null, .unset] [.null])) _
    refine X0.instanceofNull hx (g := (mkF m 1 #[.val (.ref a1), .val .null, .unset] [.null])) rfl rfl (hb hby d7_1) _ ?_
    show Steps p.tables e below (s₁.setTop (mkF m 4 #[.val (.ref a1), .val .null, .unset] [(.int (0 : Int32))])) _
    refine XS.ifYes X0.here hx rfl (pc0 := 4) (pc' := 52) rfl (hb hby d7_4) rfl (XT.i0_eq_t (by decide)) (by decide) (by decide) ?_
    show Steps p.tables e below (s₁.setTop (mkF m 52 #[.val (.ref a1), .val .null, .unset] [])) _
    refine XS.iconst X0.here hx rfl (hb hby d7_52) ?_
    exact kt
  obtain ⟨fs, hr, hrun, hended, hW, hsame⟩ := X0.leave (v := some (.int (0 : Int32))) (fun h => by rw [Bd.returns] at h; cases h)
  refine ⟨_, _, pre1 _ ?_, hrun, hended, _, _, rfl, ?_, ⟨_, rfl⟩, hW, hsame.mono (by decide) (by decide)⟩
  · show Steps p.tables e below (s₁.setTop (mkF m 53 #[.val (.ref a1), .val .null, .unset] [(.int (0 : Int32))])) _
    exact retN X0 hx (t := .boolean) Bd.returns (by simp) (hb hby d7_53) hr
  · show Q7n Z a1 h0 n0 _ s₁.heap _
    rw [e0]
    exact ⟨rfl, N0, rfl⟩
theorem own_root {Z : State} {a0 : Array Value} {O K : String} {n : Nat} (w : (Cond.noSuperclass O).before a0 Z = true) (wk : (Cond.instantiable K n).before a0 Z = true) (hn : O ≠ K) : NS Z O K := by
  obtain ⟨c, k, h1, h2, h3, -, -⟩ := Cond.noSuperclass_spec w
  obtain ⟨t, k2, g1, -⟩ := Cond.instantiable_spec wk
  have ne := ids_ne h1 g1 hn
  refine ⟨c, t, h1, g1, fun fuel => ?_⟩
  cases fuel with
  | zero => rfl
  | succ f => simp [Vm.isSubclassAux, ne, h2, h3]
theorem own_no {Z : State} {a0 : Array Value} {C S K : String} {n : Nat} (w : (Cond.superclass C S).before a0 Z = true) (wk : (Cond.instantiable K n).before a0 Z = true) (m : NS Z C K) (hn : C ≠ K) : ∃ c t, Z.vm.findClass C = some c ∧ Z.vm.findClass K = some t ∧ Z.vm.assignable c t = false := by
  obtain ⟨c, t, h0, g0, n3⟩ := m
  obtain ⟨p, k, kp, h1, h2, h3, h4, h5, -, h7⟩ := Cond.superclass_spec h0 w
  obtain ⟨t', k', g1, g2, g5, g7, -⟩ := Cond.instantiable_spec wk
  cases g0.symm.trans g1
  have g8 : k'.isInterface = false := by cases hq : k'.isInterface <;> simp_all
  have ne := ids_ne h0 g0 hn
  refine ⟨c, t, h0, g0, ?_⟩
  show Z.vm.assignableAux (255 + 1) c t = false
  simp [Vm.assignableAux, ne, h2, g2, h5, g5, g8, Vm.isSubclass, n3]
theorem pn_7l : plainName "com/example/quorumvote/quorumvote/election/Vote" = true := by first | (simp [plainName, overriddenIn]; done) | decide +kernel
theorem ef_7l (m : MethodId) (x0 : Addr) (x1 : Addr) : entryFrame m #[(.ref x0), (.ref x1)] 3 = mkF m 0 #[.val (.ref x0), .val (.ref x1), .unset] [] := by first | (simp [entryFrame, mkF, argsToLocals, Value.category]; done) | rfl
def Q7l (Z : State) (a1 : Addr) (a2 : Addr) (h0 : Heap) (n0 : Nat) (v : Option Value) (h : Heap) (L : List Loc) : Prop := v = some (.int (0 : Int32)) ∧ Fr n0 L ∧ h = h0
set_option maxRecDepth 65536 in
set_option maxHeartbeats 40000000 in
theorem rm7l (l : Launch) (Z : State) (a0 : Array Value) (hw : ∀ d ∈ tables_1, d.before a0 Z = true) (ws : List Jvm.Cond) (a1 : Addr) (a2 : Addr) (h0 : Heap) (n0 : Nat) (Z0 : n0 ≤ h0.size) (E_a2 : Exa Z h0 a2 "java/lang/Long") :
    MetFree l (⟨"com/example/quorumvote/quorumvote/election/Vote", "equals", "(Ljava/lang/Object;)Z"⟩ : MethodName) (head1 (Jvm.Cond.code (⟨"com/example/quorumvote/quorumvote/election/Vote", "equals", "(Ljava/lang/Object;)Z"⟩ : MethodName) prog_29_method_3_code 3 (some .boolean) :: ws) ({ frames := 0, cells := 0, slots := 0, locals := 0 } : Room)) (fun a U => a = #[(.ref a1), (.ref a2)] ∧ Z.Warmed39 U.vm ∧ U.heap = h0) (fun _ _ _ _ _ => True) (fun _ U o U' => ∃ v L, o = .returned v ∧ Q7l Z a1 a2 h0 n0 v U'.heap L ∧ FrameEnd U o U' L ({ frames := 0, cells := 0, slots := 0, locals := 0 } : Room).cells ({ frames := 0, cells := 0, slots := 0, locals := 0 } : Room).slots) := by
  refine MetFree.of_bodySF (plainFor_of_name pn_7l) hisR ?_
  intro p e s m args below meth c s₁ Bd hml0 hP hK
  obtain ⟨rfl, hZ, hh⟩ := hP
  have hx := Bd.exec
  have hby := Bd.bytes
  have hml : c.maxLocals = 3 := hml0
  have hown : s.vm.findClass "com/example/quorumvote/quorumvote/election/Vote" = some m.cls := findClass_of_methodNamed Bd.named
  have hnm := (name_of_methodNamed Bd.named Bd.method).1
  have X0 : Stand p l e ({ frames := 0, cells := 0, slots := 0, locals := 0 } : Room) s m #[(.ref a1), (.ref a2)] below meth c s₁ [] 0 0 := Stand.of_body Bd
  have e0 : s₁.heap = h0 := by rw [← hh, Bd.state]; rfl
  have N0 := Fr.nil n0
  have pre0 : ∀ t, Steps p.tables e below (s₁.setTop (mkF m 0 #[.val (.ref a1), .val (.ref a2), .unset] [])) t → Steps p.tables e below (s₁.setTop (entryFrame m #[(.ref a1), (.ref a2)] 3)) t := fun t k => castTop (ef_7l m a1 a2) k
  obtain ⟨T1, X1, hE1, st1⟩ := instNo X0 hx hZ hown (hw _ (List.mem_of_getElem? (i := 39) rfl)) e0 E_a2 (own_no (hw _ (List.mem_of_getElem? (i := 62) rfl)) (hw _ (List.mem_of_getElem? (i := 7) rfl)) (NS.step (hw _ (List.mem_of_getElem? (i := 62) rfl)) (NS.step (hw _ (List.mem_of_getElem? (i := 63) rfl)) (own_root (hw _ (List.mem_of_getElem? (i := 64) rfl)) (hw _ (List.mem_of_getElem? (i := 7) rfl)) (by decide)) (by decide)) (by decide)) (by decide)) (g := (mkF m 1 #[.val (.ref a1), .val (.ref a2), .unset] [(.ref a2)])) rfl rfl (hb hby d7_1)
  have pre2 : ∀ t, Steps p.tables e below (T1.setTop (mkF m 53 #[.val (.ref a1), .val (.ref a2), .unset] [(.int (0 : Int32))])) t → Steps p.tables e below (s₁.setTop (entryFrame m #[(.ref a1), (.ref a2)] 3)) t := by
    intro t kt
    refine pre0 _ ?_
    show Steps p.tables e below (s₁.setTop (mkF m 0 #[.val (.ref a1), .val (.ref a2), .unset] [])) _
    refine XS.aloadN X0.here hx rfl (hb hby d7_0) rfl rfl ?_
    show Steps p.tables e below (s₁.setTop (mkF m 1 #[.val (.ref a1), .val (.ref a2), .unset] [(.ref a2)])) _
    refine st1 _ ?_
    show Steps p.tables e below (T1.setTop (mkF m 4 #[.val (.ref a1), .val (.ref a2), .unset] [(.int (0 : Int32))])) _
    refine XS.ifYes X1.here hx rfl (pc0 := 4) (pc' := 52) rfl (hb hby d7_4) rfl (XT.i0_eq_t (by decide)) (by decide) (by decide) ?_
    show Steps p.tables e below (T1.setTop (mkF m 52 #[.val (.ref a1), .val (.ref a2), .unset] [])) _
    refine XS.iconst X1.here hx rfl (hb hby d7_52) ?_
    exact kt
  obtain ⟨fs, hr, hrun, hended, hW, hsame⟩ := X1.leave (v := some (.int (0 : Int32))) (fun h => by rw [Bd.returns] at h; cases h)
  refine ⟨_, _, pre2 _ ?_, hrun, hended, _, _, rfl, ?_, ⟨_, rfl⟩, hW, hsame.mono (by decide) (by decide)⟩
  · show Steps p.tables e below (T1.setTop (mkF m 53 #[.val (.ref a1), .val (.ref a2), .unset] [(.int (0 : Int32))])) _
    exact retN X1 hx (t := .boolean) Bd.returns (by simp) (hb hby d7_53) hr
  · show Q7l Z a1 a2 h0 n0 _ T1.heap _
    rw [hE1]
    exact ⟨rfl, N0, rfl⟩
theorem d9_0 : decode jdk_35_method_26_code 0 = .ok (.aload_n 0, 1) := by decide +kernel
theorem d9_1 : decode jdk_35_method_26_code 1 = .ok (.invokespecial 270, 3) := by decide +kernel
theorem d9_4 : decode jdk_35_method_26_code 4 = .ok (.aload_n 0, 1) := by decide +kernel
theorem d9_5 : decode jdk_35_method_26_code 5 = .ok (.lload_n 1, 1) := by decide +kernel
theorem d9_6 : decode jdk_35_method_26_code 6 = .ok (.putfield 273, 3) := by decide +kernel
theorem d9_9 : decode jdk_35_method_26_code 9 = .ok (.return_, 1) := by decide +kernel
theorem pn_9 : plainName "java/lang/Long" = true := by first | (simp [plainName, overriddenIn]; done) | decide +kernel
theorem ef_9 (m : MethodId) (x0 : Addr) (x1 : Int64) : entryFrame m #[(.ref x0), (.long x1)] 3 = mkF m 0 #[.val (.ref x0), .val (.long x1), .second] [] := by first | (simp [entryFrame, mkF, argsToLocals, Value.category]; done) | rfl
def Q9 (Z : State) (a1 : Addr) (q2 : Int64) (h0 : Heap) (n0 : Nat) (v : Option Value) (h : Heap) (L : List Loc) : Prop := v = none ∧ Fr n0 L ∧ Keep h0 h [a1] ∧ Exa Z h a1 "java/lang/Long" ∧ Fld Z h a1 "java/lang/Long" "value" "J" (.long q2)
set_option maxRecDepth 65536 in
set_option maxHeartbeats 40000000 in
theorem rm9 (l : Launch) (Z : State) (a0 : Array Value) (hw : ∀ d ∈ tables_1, d.before a0 Z = true) (ws : List Jvm.Cond) (a1 : Addr) (q2 : Int64) (h0 : Heap) (n0 : Nat) (Z0 : n0 ≤ h0.size) (E_a1 : Exa Z h0 a1 "java/lang/Long") (F_value : Fld Z h0 a1 "java/lang/Long" "value" "J" (.long (0 : Int64))) (g_a1 : n0 ≤ a1) :
    MetFree l (⟨"java/lang/Long", "<init>", "(J)V"⟩ : MethodName) (head1 (Jvm.Cond.code (⟨"java/lang/Long", "<init>", "(J)V"⟩ : MethodName) jdk_35_method_26_code 3 none :: ws) ({ frames := 2, cells := 0, slots := 0, locals := 24 } : Room)) (fun a U => a = #[(.ref a1), (.long q2)] ∧ Z.Warmed39 U.vm ∧ U.heap = h0) (fun _ _ _ _ _ => True) (fun _ U o U' => ∃ v L, o = .returned v ∧ Q9 Z a1 q2 h0 n0 v U'.heap L ∧ FrameEnd U o U' L ({ frames := 2, cells := 0, slots := 0, locals := 24 } : Room).cells ({ frames := 2, cells := 0, slots := 0, locals := 24 } : Room).slots) := by
  refine MetFree.of_bodySF (plainFor_of_name pn_9) hisR ?_
  intro p e s m args below meth c s₁ Bd hml0 hP hK
  obtain ⟨rfl, hZ, hh⟩ := hP
  have hx := Bd.exec
  have hby := Bd.bytes
  have hml : c.maxLocals = 3 := hml0
  have hown : s.vm.findClass "java/lang/Long" = some m.cls := findClass_of_methodNamed Bd.named
  have hnm := (name_of_methodNamed Bd.named Bd.method).1
  have X0 : Stand p l e ({ frames := 2, cells := 0, slots := 0, locals := 24 } : Room) s m #[(.ref a1), (.long q2)] below meth c s₁ [] 0 0 := Stand.of_body Bd
  have e0 : s₁.heap = h0 := by rw [← hh, Bd.state]; rfl
  have N0 := Fr.nil n0
  have pre0 : ∀ t, Steps p.tables e below (s₁.setTop (mkF m 0 #[.val (.ref a1), .val (.long q2), .second] [])) t → Steps p.tables e below (s₁.setTop (entryFrame m #[(.ref a1), (.long q2)] 3)) t := fun t k => castTop (ef_9 m a1 q2) k
  obtain ⟨_, _, ⟨T1, L1, k1, n1⟩, -, X1, ⟨Lc1, hQ1, l1, y1, z1⟩, st1⟩ := X0.specialBack hx (y := (⟨"java/lang/Number", "<init>", "()V"⟩ : MethodName)) rfl hown (mvT hZ (hw _ (List.mem_of_getElem? (i := 53) rfl))) (mvT hZ (hw _ (List.mem_of_getElem? (i := 54) rfl))) (mvT hZ (hw _ (List.mem_of_getElem? (i := 58) rfl))) (by decide) (backOf (W := 0) (rm10 l Z a0 hw [] a1 h0 n0 Z0) hZ (hw _ (List.mem_of_getElem? (i := 58) rfl)) (hw _ (List.mem_of_getElem? (i := 57) rfl)) (by decide) (by decide)) (g := (mkF m 1 #[.val (.ref a1), .val (.long q2), .second] [(.ref a1)])) rfl (by rw [hml]; rfl) (Steps.refl _) (a := a1) (argsL := []) (rest := []) (lenOf pd_0 rfl) rfl (by show 2 * 0 + _ ≤ _; exact Nat.le_of_eq rfl) (hb hby d9_1) (fun _ _ => ⟨rfl, e0, (by decide : 0 + 0 ≤ _), (by decide : 0 + 0 ≤ _)⟩)
  dsimp only [Pt.U, Pt.locs, Pt.cells, Pt.slots] at X1 l1 y1 z1 st1 hQ1
  subst l1 y1 z1
  obtain ⟨rfl, N1q, hE1⟩ := hQ1
  have N1 := Fr.app N0 N1q
  obtain ⟨T2, gh2, X2, hE2, W2, st2⟩ := putF X1 hx hZ hown (host := "") (Or.inl (hw _ (List.mem_of_getElem? (i := 60) rfl))) Via.refl hE1 F_value E_a1 (Or.inr ⟨(hw _ (List.mem_of_getElem? (i := 61) rfl)), rfl, hnm⟩) (hw _ (List.mem_of_getElem? (i := 48) rfl)) (ty := .long) (by decide) rfl rfl (g := (mkF m 6 #[.val (.ref a1), .val (.long q2), .second] [(.long q2), (.ref a1)])) rfl rfl (hb hby d9_6)
  have Fw2 := F_value.same W2
  have f3 := E_a1.wr W2
  have Z5 := Nat.le_trans Z0 (Keep.of_wr W2).1
  have N6 := Fr.snoc X2 N1 g_a1
  have K7 := (Keep.refl h0 [a1]).wr W2 (Or.inl (List.mem_of_getElem? (i := 0) rfl))
  have pre8 : ∀ t, Steps p.tables e below (T2.setTop (mkF m 9 #[.val (.ref a1), .val (.long q2), .second] [])) t → Steps p.tables e below (s₁.setTop (entryFrame m #[(.ref a1), (.long q2)] 3)) t := by
    intro t kt
    refine pre0 _ ?_
    show Steps p.tables e below (s₁.setTop (mkF m 0 #[.val (.ref a1), .val (.long q2), .second] [])) _
    refine XS.aloadN X0.here hx rfl (hb hby d9_0) rfl rfl ?_
    show Steps p.tables e below (s₁.setTop (mkF m 1 #[.val (.ref a1), .val (.long q2), .second] [(.ref a1)])) _
    refine st1.trans ?_
    show Steps p.tables e below (T1.setTop (mkF m 4 #[.val (.ref a1), .val (.long q2), .second] [])) _
    refine XS.aloadN X1.here hx rfl (hb hby d9_4) rfl rfl ?_
    show Steps p.tables e below (T1.setTop (mkF m 5 #[.val (.ref a1), .val (.long q2), .second] [(.ref a1)])) _
    refine XS.lloadN X1.here hx rfl (hb hby d9_5) rfl ?_
    show Steps p.tables e below (T1.setTop (mkF m 6 #[.val (.ref a1), .val (.long q2), .second] [(.long q2), (.ref a1)])) _
    refine st2 _ ?_
    exact kt
  obtain ⟨fs, hr, hrun, hended, hW, hsame⟩ := X2.leave (v := none) (fun _ => rfl)
  refine ⟨_, _, pre8 _ ?_, hrun, hended, _, _, rfl, ?_, ⟨_, rfl⟩, hW, hsame.mono (by decide) (by decide)⟩
  · show Steps p.tables e below (T2.setTop (mkF m 9 #[.val (.ref a1), .val (.long q2), .second] [])) _
    exact X2.returnOut hx Bd.returns (hb hby d9_9) hr
  · show Q9 Z a1 q2 h0 n0 _ T2.heap _
    rw [hE2]
    exact ⟨rfl, N6, K7, f3, Fw2⟩
theorem own_k (q1 : Int64) (h1 : ¬ q1 < (-128 : Int64)) (h2 : ¬ (127 : Int64) < q1) : ∃ k : Nat, ((q1.toInt32) + (128 : Int32)).toInt = (k : Int) ∧ k < 256 := by
  rw [Int64.lt_iff_toInt_lt] at h1 h2
  have l1 : (-128 : Int64).toInt = -128 := rfl
  have l2 : (127 : Int64).toInt = 127 := rfl
  have l3 : (128 : Int32).toInt = 128 := rfl
  have a1 := c_l2i q1
  have a2 := c_iadd q1.toInt32 128
  have a3 := rng32 q1.toInt32
  have a4 := rng32 (q1.toInt32 + 128)
  exact ⟨(q1.toInt32 + 128).toInt.toNat, by omega, by omega⟩
theorem d8_0 : decode jdk_35_method_24_code 0 = .ok (.sipush 128, 3) := by decide +kernel
theorem d8_3 : decode jdk_35_method_24_code 3 = .ok (.istore_n 2, 1) := by decide +kernel
theorem d8_4 : decode jdk_35_method_24_code 4 = .ok (.lload_n 0, 1) := by decide +kernel
theorem d8_5 : decode jdk_35_method_24_code 5 = .ok (.ldc2_w 230, 3) := by decide +kernel
theorem d8_8 : decode jdk_35_method_24_code 8 = .ok (.lcmp, 1) := by decide +kernel
theorem d8_9 : decode jdk_35_method_24_code 9 = .ok (.ifCond .lt 22, 3) := by decide +kernel
theorem d8_12 : decode jdk_35_method_24_code 12 = .ok (.lload_n 0, 1) := by decide +kernel
theorem d8_13 : decode jdk_35_method_24_code 13 = .ok (.ldc2_w 232, 3) := by decide +kernel
theorem d8_16 : decode jdk_35_method_24_code 16 = .ok (.lcmp, 1) := by decide +kernel
theorem d8_17 : decode jdk_35_method_24_code 17 = .ok (.ifCond .gt 14, 3) := by decide +kernel
theorem d8_20 : decode jdk_35_method_24_code 20 = .ok (.getstatic 234, 3) := by decide +kernel
theorem d8_23 : decode jdk_35_method_24_code 23 = .ok (.lload_n 0, 1) := by decide +kernel
theorem d8_24 : decode jdk_35_method_24_code 24 = .ok (.l2i, 1) := by decide +kernel
theorem d8_25 : decode jdk_35_method_24_code 25 = .ok (.sipush 128, 3) := by decide +kernel
theorem d8_28 : decode jdk_35_method_24_code 28 = .ok (.iadd, 1) := by decide +kernel
theorem d8_29 : decode jdk_35_method_24_code 29 = .ok (.aaload, 1) := by decide +kernel
theorem d8_30 : decode jdk_35_method_24_code 30 = .ok (.areturn, 1) := by decide +kernel
theorem d8_31 : decode jdk_35_method_24_code 31 = .ok (.new 1, 3) := by decide +kernel
theorem d8_34 : decode jdk_35_method_24_code 34 = .ok (.dup, 1) := by decide +kernel
theorem d8_35 : decode jdk_35_method_24_code 35 = .ok (.lload_n 0, 1) := by decide +kernel
theorem d8_36 : decode jdk_35_method_24_code 36 = .ok (.invokespecial 240, 3) := by decide +kernel
theorem d8_39 : decode jdk_35_method_24_code 39 = .ok (.areturn, 1) := by decide +kernel
theorem pn_8 : plainName "java/lang/Long" = true := by first | (simp [plainName, overriddenIn]; done) | decide +kernel
theorem ef_8 (m : MethodId) (x0 : Int64) : entryFrame m #[(.long x0)] 3 = mkF m 0 #[.val (.long x0), .second, .unset] [] := by first | (simp [entryFrame, mkF, argsToLocals, Value.category]; done) | rfl
theorem pd_2 : parseMethodDescriptor "(J)V" = some ⟨[.long], none⟩ := by decide +kernel
def Q8 (Z : State) (q1 : Int64) (ac : Addr) (fc : Nat → Addr) (h0 : Heap) (n0 : Nat) (v : Option Value) (h : Heap) (L : List Loc) : Prop := ∃ b : Addr, v = some (.ref b) ∧ Fr n0 L ∧ Keep h0 h [] ∧ Exa Z h b "java/lang/Long"
set_option maxRecDepth 65536 in
set_option maxHeartbeats 40000000 in
theorem rm8 (l : Launch) (Z : State) (a0 : Array Value) (hw : ∀ d ∈ tables_1, d.before a0 Z = true) (ws : List Jvm.Cond) (q1 : Int64) (ac : Addr) (fc : Nat → Addr) (h0 : Heap) (n0 : Nat) (Z0 : n0 ≤ h0.size) (S_c : Sta Z h0 "java/lang/Long$LongCache" "cache" "[Ljava/lang/Long;" (.ref ac)) (A_c : owAR Z h0 ac (.object "java/lang/Long") 256 fc) (HE : ∀ k, k < 256 → Exa Z h0 (fc k) "java/lang/Long") :
    MetFree l (⟨"java/lang/Long", "valueOf", "(J)Ljava/lang/Long;"⟩ : MethodName) (head1 (Jvm.Cond.code (⟨"java/lang/Long", "valueOf", "(J)Ljava/lang/Long;"⟩ : MethodName) jdk_35_method_24_code 3 (some (.object "java/lang/Long")) :: ws) ({ frames := 3, cells := 1, slots := 1, locals := 39 } : Room)) (fun a U => a = #[(.long q1)] ∧ Z.Warmed39 U.vm ∧ U.heap = h0) (fun _ _ _ _ _ => True) (fun _ U o U' => ∃ v L, o = .returned v ∧ Q8 Z q1 ac fc h0 n0 v U'.heap L ∧ FrameEnd U o U' L ({ frames := 3, cells := 1, slots := 1, locals := 39 } : Room).cells ({ frames := 3, cells := 1, slots := 1, locals := 39 } : Room).slots) := by
  refine MetFree.of_bodySF (plainFor_of_name pn_8) hisR ?_
  intro p e s m args below meth c s₁ Bd hml0 hP hK
  obtain ⟨rfl, hZ, hh⟩ := hP
  have hx := Bd.exec
  have hby := Bd.bytes
  have hml : c.maxLocals = 3 := hml0
  have hown : s.vm.findClass "java/lang/Long" = some m.cls := findClass_of_methodNamed Bd.named
  have hnm := (name_of_methodNamed Bd.named Bd.method).1
  have X0 : Stand p l e ({ frames := 3, cells := 1, slots := 1, locals := 39 } : Room) s m #[(.long q1)] below meth c s₁ [] 0 0 := Stand.of_body Bd
  have e0 : s₁.heap = h0 := by rw [← hh, Bd.state]; rfl
  have N0 := Fr.nil n0
  have pre0 : ∀ t, Steps p.tables e below (s₁.setTop (mkF m 0 #[.val (.long q1), .second, .unset] [])) t → Steps p.tables e below (s₁.setTop (entryFrame m #[(.long q1)] 3)) t := fun t k => castTop (ef_8 m q1) k
  have pre1 : ∀ t, Steps p.tables e below (s₁.setTop (mkF m 9 #[.val (.long q1), .second, .val (.int (128 : Int32))] [(.int (XT.cmpL q1 (-128 : Int64)))])) t → Steps p.tables e below (s₁.setTop (entryFrame m #[(.long q1)] 3)) t := by
    intro t kt
    refine pre0 _ ?_
    show Steps p.tables e below (s₁.setTop (mkF m 0 #[.val (.long q1), .second, .unset] [])) _
    refine XS.sipush X0.here hx rfl (hb hby d8_0) ?_
    show Steps p.tables e below (s₁.setTop (mkF m 3 #[.val (.long q1), .second, .unset] [(.int (128 : Int32))])) _
    refine XS.istoreN X0.here hx rfl (hb hby d8_3) rfl (l' := #[.val (.long q1), .second, .val (.int (128 : Int32))]) rfl ?_
    show Steps p.tables e below (s₁.setTop (mkF m 4 #[.val (.long q1), .second, .val (.int (128 : Int32))] [])) _
    refine XS.lloadN X0.here hx rfl (hb hby d8_4) rfl ?_
    show Steps p.tables e below (s₁.setTop (mkF m 5 #[.val (.long q1), .second, .val (.int (128 : Int32))] [(.long q1)])) _
    refine Stand.ldc2J (g := (mkF m 5 #[.val (.long q1), .second, .val (.int (128 : Int32))] [(.long q1)])) X0 hx hown (mvT hZ (hw _ (List.mem_of_getElem? (i := 45) rfl))) rfl (hb hby d8_5) ?_
    show Steps p.tables e below (s₁.setTop (mkF m 8 #[.val (.long q1), .second, .val (.int (128 : Int32))] [(.long (-128 : Int64)), (.long q1)])) _
    refine XT.lcmp X0.here hx rfl (hb hby d8_8) rfl ?_
    exact kt
  by_cases hc9_2 : q1 < (-128 : Int64)
  · skip
    obtain ⟨T3, gh3, X3, hE3, E3, A3, D3, -, st3⟩ := newO X0 hx hZ hown (hw _ (List.mem_of_getElem? (i := 47) rfl)) (hw _ (List.mem_of_getElem? (i := 48) rfl)) (hw _ (List.mem_of_getElem? (i := 43) rfl)) e0 (g := (mkF m 31 #[.val (.long q1), .second, .val (.int (128 : Int32))] [])) rfl (hb hby d8_31) (by decide) (by decide)
    obtain ⟨bl, g3⟩ : ∃ z, z = h0.size := ⟨_, rfl⟩
    rw [← g3] at A3 D3 st3
    have ne_ac_bl : ac ≠ bl := Nat.ne_of_lt (Nat.lt_of_lt_of_le A_c.lt (Nat.le_of_eq g3.symm))
    have g_bl : n0 ≤ bl := Nat.le_trans Z0 (Nat.le_of_eq g3.symm)
    have sz_bl : h0.size ≤ bl := Nat.le_trans (Keep.refl h0 []).1 (Nat.le_of_eq g3.symm)
    have f4 := S_c.ext E3
    have f5 := A_c.ext E3
    have Z6 := Nat.le_trans Z0 E3.1
    have K7 := (Keep.refl h0 []).ext E3
    have F_value_bl : Fld Z gh3 bl "java/lang/Long" "value" "J" (.long (0 : Int64)) := D3 (Or.inr (hw _ (List.mem_of_getElem? (i := 61) rfl))) (ty := .long) (by decide)
    obtain ⟨_, _, ⟨T8, L8, k8, n8⟩, -, X8, ⟨Lc8, hQ8, l8, y8, z8⟩, st8⟩ := X3.specialBack hx (y := (⟨"java/lang/Long", "<init>", "(J)V"⟩ : MethodName)) rfl hown (mvT hZ (hw _ (List.mem_of_getElem? (i := 49) rfl))) (mvT hZ (hw _ (List.mem_of_getElem? (i := 50) rfl))) (mvT hZ (hw _ (List.mem_of_getElem? (i := 52) rfl))) (by decide) (backOf (W := 1) (rm9 l Z a0 hw [] bl q1 gh3 n0 Z6 A3 F_value_bl g_bl) hZ (hw _ (List.mem_of_getElem? (i := 52) rfl)) (hw _ (List.mem_of_getElem? (i := 43) rfl)) (by decide) (by decide)) (g := (mkF m 36 #[.val (.long q1), .second, .val (.int (128 : Int32))] [(.long q1), (.ref bl), (.ref bl)])) rfl (by rw [hml]; rfl) (Steps.refl _) (a := bl) (argsL := [(.long q1)]) (rest := [(.ref bl)]) (lenOf pd_2 rfl) rfl (by show 2 * 0 + _ ≤ _; exact Nat.le_of_eq rfl) (hb hby d8_36) (fun _ _ => ⟨rfl, hE3, (by decide : 1 + 0 ≤ _), (by decide : 1 + 0 ≤ _)⟩)
    dsimp only [Pt.U, Pt.locs, Pt.cells, Pt.slots] at X8 l8 y8 z8 st8 hQ8
    subst l8 y8 z8
    obtain ⟨rfl, N8q, K8, p8_0, p8_1⟩ := hQ8
    have N8 := Fr.app N0 N8q
    have f10 := f5.keep K8 (ninS ne_ac_bl nin0)
    have f11 := A3.keep K8
    have Z13 := Nat.le_trans Z6 K8.1
    have K14 := K7.trans K8 (allS (Or.inr sz_bl) all0)
    have pre15 : ∀ t, Steps p.tables e below (T8.setTop (mkF m 39 #[.val (.long q1), .second, .val (.int (128 : Int32))] [(.ref bl)])) t → Steps p.tables e below (s₁.setTop (entryFrame m #[(.long q1)] 3)) t := by
      intro t kt
      refine pre1 _ ?_
      show Steps p.tables e below (s₁.setTop (mkF m 9 #[.val (.long q1), .second, .val (.int (128 : Int32))] [(.int (XT.cmpL q1 (-128 : Int64)))])) _
      refine XS.ifYes X0.here hx rfl (pc0 := 9) (pc' := 31) rfl (hb hby d8_9) rfl (XT.ll_lt_t hc9_2) (by decide) (by decide) ?_
      show Steps p.tables e below (s₁.setTop (mkF m 31 #[.val (.long q1), .second, .val (.int (128 : Int32))] [])) _
      refine st3 _ ?_
      show Steps p.tables e below (T3.setTop (mkF m 34 #[.val (.long q1), .second, .val (.int (128 : Int32))] [(.ref bl)])) _
      refine XS.dup X3.here hx rfl (hb hby d8_34) rfl rfl ?_
      show Steps p.tables e below (T3.setTop (mkF m 35 #[.val (.long q1), .second, .val (.int (128 : Int32))] [(.ref bl), (.ref bl)])) _
      refine XS.lloadN X3.here hx rfl (hb hby d8_35) rfl ?_
      show Steps p.tables e below (T3.setTop (mkF m 36 #[.val (.long q1), .second, .val (.int (128 : Int32))] [(.long q1), (.ref bl), (.ref bl)])) _
      refine st8.trans ?_
      exact kt
    obtain ⟨fs, hr, hrun, hended, hW, hsame⟩ := X8.leave (v := some (.ref bl)) (fun h => by rw [Bd.returns] at h; cases h)
    refine ⟨_, _, pre15 _ ?_, hrun, hended, _, _, rfl, ?_, ⟨_, rfl⟩, hW, hsame.mono (by decide) (by decide)⟩
    · show Steps p.tables e below (T8.setTop (mkF m 39 #[.val (.long q1), .second, .val (.int (128 : Int32))] [(.ref bl)])) _
      exact X8.areturnOut hx rfl Bd.returns rfl (hb hby d8_39) hr
    · show Q8 Z q1 ac fc h0 n0 _ T8.heap _
      exact ⟨bl, rfl, N8, K14, p8_0⟩
  · skip
    have pre16 : ∀ t, Steps p.tables e below (s₁.setTop (mkF m 17 #[.val (.long q1), .second, .val (.int (128 : Int32))] [(.int (XT.cmpL q1 (127 : Int64)))])) t → Steps p.tables e below (s₁.setTop (entryFrame m #[(.long q1)] 3)) t := by
      intro t kt
      refine pre1 _ ?_
      show Steps p.tables e below (s₁.setTop (mkF m 9 #[.val (.long q1), .second, .val (.int (128 : Int32))] [(.int (XT.cmpL q1 (-128 : Int64)))])) _
      refine XS.ifNo X0.here hx rfl (hb hby d8_9) rfl (XT.ll_lt_f hc9_2) ?_
      show Steps p.tables e below (s₁.setTop (mkF m 12 #[.val (.long q1), .second, .val (.int (128 : Int32))] [])) _
      refine XS.lloadN X0.here hx rfl (hb hby d8_12) rfl ?_
      show Steps p.tables e below (s₁.setTop (mkF m 13 #[.val (.long q1), .second, .val (.int (128 : Int32))] [(.long q1)])) _
      refine Stand.ldc2J (g := (mkF m 13 #[.val (.long q1), .second, .val (.int (128 : Int32))] [(.long q1)])) X0 hx hown (mvT hZ (hw _ (List.mem_of_getElem? (i := 46) rfl))) rfl (hb hby d8_13) ?_
      show Steps p.tables e below (s₁.setTop (mkF m 16 #[.val (.long q1), .second, .val (.int (128 : Int32))] [(.long (127 : Int64)), (.long q1)])) _
      refine XT.lcmp X0.here hx rfl (hb hby d8_16) rfl ?_
      exact kt
    by_cases hc17_17 : (127 : Int64) < q1
    · skip
      obtain ⟨T18, gh18, X18, hE18, E18, A18, D18, -, st18⟩ := newO X0 hx hZ hown (hw _ (List.mem_of_getElem? (i := 47) rfl)) (hw _ (List.mem_of_getElem? (i := 48) rfl)) (hw _ (List.mem_of_getElem? (i := 43) rfl)) e0 (g := (mkF m 31 #[.val (.long q1), .second, .val (.int (128 : Int32))] [])) rfl (hb hby d8_31) (by decide) (by decide)
      obtain ⟨bl, g18⟩ : ∃ z, z = h0.size := ⟨_, rfl⟩
      rw [← g18] at A18 D18 st18
      have ne_ac_bl : ac ≠ bl := Nat.ne_of_lt (Nat.lt_of_lt_of_le A_c.lt (Nat.le_of_eq g18.symm))
      have g_bl : n0 ≤ bl := Nat.le_trans Z0 (Nat.le_of_eq g18.symm)
      have sz_bl : h0.size ≤ bl := Nat.le_trans (Keep.refl h0 []).1 (Nat.le_of_eq g18.symm)
      have f19 := S_c.ext E18
      have f20 := A_c.ext E18
      have Z21 := Nat.le_trans Z0 E18.1
      have K22 := (Keep.refl h0 []).ext E18
      have F_value_bl : Fld Z gh18 bl "java/lang/Long" "value" "J" (.long (0 : Int64)) := D18 (Or.inr (hw _ (List.mem_of_getElem? (i := 61) rfl))) (ty := .long) (by decide)
      obtain ⟨_, _, ⟨T23, L23, k23, n23⟩, -, X23, ⟨Lc23, hQ23, l23, y23, z23⟩, st23⟩ := X18.specialBack hx (y := (⟨"java/lang/Long", "<init>", "(J)V"⟩ : MethodName)) rfl hown (mvT hZ (hw _ (List.mem_of_getElem? (i := 49) rfl))) (mvT hZ (hw _ (List.mem_of_getElem? (i := 50) rfl))) (mvT hZ (hw _ (List.mem_of_getElem? (i := 52) rfl))) (by decide) (backOf (W := 1) (rm9 l Z a0 hw [] bl q1 gh18 n0 Z21 A18 F_value_bl g_bl) hZ (hw _ (List.mem_of_getElem? (i := 52) rfl)) (hw _ (List.mem_of_getElem? (i := 43) rfl)) (by decide) (by decide)) (g := (mkF m 36 #[.val (.long q1), .second, .val (.int (128 : Int32))] [(.long q1), (.ref bl), (.ref bl)])) rfl (by rw [hml]; rfl) (Steps.refl _) (a := bl) (argsL := [(.long q1)]) (rest := [(.ref bl)]) (lenOf pd_2 rfl) rfl (by show 2 * 0 + _ ≤ _; exact Nat.le_of_eq rfl) (hb hby d8_36) (fun _ _ => ⟨rfl, hE18, (by decide : 1 + 0 ≤ _), (by decide : 1 + 0 ≤ _)⟩)
      dsimp only [Pt.U, Pt.locs, Pt.cells, Pt.slots] at X23 l23 y23 z23 st23 hQ23
      subst l23 y23 z23
      obtain ⟨rfl, N23q, K23, p23_0, p23_1⟩ := hQ23
      have N23 := Fr.app N0 N23q
      have f25 := f20.keep K23 (ninS ne_ac_bl nin0)
      have f26 := A18.keep K23
      have Z28 := Nat.le_trans Z21 K23.1
      have K29 := K22.trans K23 (allS (Or.inr sz_bl) all0)
      have pre30 : ∀ t, Steps p.tables e below (T23.setTop (mkF m 39 #[.val (.long q1), .second, .val (.int (128 : Int32))] [(.ref bl)])) t → Steps p.tables e below (s₁.setTop (entryFrame m #[(.long q1)] 3)) t := by
        intro t kt
        refine pre16 _ ?_
        show Steps p.tables e below (s₁.setTop (mkF m 17 #[.val (.long q1), .second, .val (.int (128 : Int32))] [(.int (XT.cmpL q1 (127 : Int64)))])) _
        refine XS.ifYes X0.here hx rfl (pc0 := 17) (pc' := 31) rfl (hb hby d8_17) rfl (XT.ll_gt_t hc17_17) (by decide) (by decide) ?_
        show Steps p.tables e below (s₁.setTop (mkF m 31 #[.val (.long q1), .second, .val (.int (128 : Int32))] [])) _
        refine st18 _ ?_
        show Steps p.tables e below (T18.setTop (mkF m 34 #[.val (.long q1), .second, .val (.int (128 : Int32))] [(.ref bl)])) _
        refine XS.dup X18.here hx rfl (hb hby d8_34) rfl rfl ?_
        show Steps p.tables e below (T18.setTop (mkF m 35 #[.val (.long q1), .second, .val (.int (128 : Int32))] [(.ref bl), (.ref bl)])) _
        refine XS.lloadN X18.here hx rfl (hb hby d8_35) rfl ?_
        show Steps p.tables e below (T18.setTop (mkF m 36 #[.val (.long q1), .second, .val (.int (128 : Int32))] [(.long q1), (.ref bl), (.ref bl)])) _
        refine st23.trans ?_
        exact kt
      obtain ⟨fs, hr, hrun, hended, hW, hsame⟩ := X23.leave (v := some (.ref bl)) (fun h => by rw [Bd.returns] at h; cases h)
      refine ⟨_, _, pre30 _ ?_, hrun, hended, _, _, rfl, ?_, ⟨_, rfl⟩, hW, hsame.mono (by decide) (by decide)⟩
      · show Steps p.tables e below (T23.setTop (mkF m 39 #[.val (.long q1), .second, .val (.int (128 : Int32))] [(.ref bl)])) _
        exact X23.areturnOut hx rfl Bd.returns rfl (hb hby d8_39) hr
      · show Q8 Z q1 ac fc h0 n0 _ T23.heap _
        exact ⟨bl, rfl, N23, K29, p23_0⟩
    · skip
      obtain ⟨T31, X31, hE31, st31⟩ := getS2 X0 hx hZ hown (host := "") (Or.inl (hw _ (List.mem_of_getElem? (i := 65) rfl))) Via.refl e0 S_c (g := (mkF m 20 #[.val (.long q1), .second, .val (.int (128 : Int32))] [])) rfl (hb hby d8_20)
      obtain ⟨kx, h_kx, h_kl⟩ := own_k q1 hc9_2 hc17_17
      have pre32 : ∀ t, Steps p.tables e below (T31.setTop (mkF m 30 #[.val (.long q1), .second, .val (.int (128 : Int32))] [(.ref (fc kx))])) t → Steps p.tables e below (s₁.setTop (entryFrame m #[(.long q1)] 3)) t := by
        intro t kt
        refine pre16 _ ?_
        show Steps p.tables e below (s₁.setTop (mkF m 17 #[.val (.long q1), .second, .val (.int (128 : Int32))] [(.int (XT.cmpL q1 (127 : Int64)))])) _
        refine XS.ifNo X0.here hx rfl (hb hby d8_17) rfl (XT.ll_gt_f hc17_17) ?_
        show Steps p.tables e below (s₁.setTop (mkF m 20 #[.val (.long q1), .second, .val (.int (128 : Int32))] [])) _
        refine st31 _ ?_
        show Steps p.tables e below (T31.setTop (mkF m 23 #[.val (.long q1), .second, .val (.int (128 : Int32))] [(.ref ac)])) _
        refine XS.lloadN X31.here hx rfl (hb hby d8_23) rfl ?_
        show Steps p.tables e below (T31.setTop (mkF m 24 #[.val (.long q1), .second, .val (.int (128 : Int32))] [(.long q1), (.ref ac)])) _
        refine XS.l2i X31.here hx rfl (hb hby d8_24) rfl ?_
        show Steps p.tables e below (T31.setTop (mkF m 25 #[.val (.long q1), .second, .val (.int (128 : Int32))] [(.int (q1.toInt32)), (.ref ac)])) _
        refine XS.sipush X31.here hx rfl (hb hby d8_25) ?_
        show Steps p.tables e below (T31.setTop (mkF m 28 #[.val (.long q1), .second, .val (.int (128 : Int32))] [(.int (128 : Int32)), (.int (q1.toInt32)), (.ref ac)])) _
        refine XS.iadd X31.here hx rfl (hb hby d8_28) rfl ?_
        show Steps p.tables e below (T31.setTop (mkF m 29 #[.val (.long q1), .second, .val (.int (128 : Int32))] [(.int ((q1.toInt32) + (128 : Int32))), (.ref ac)])) _
        refine owLdR (k := kx) X31 hx hZ hE31 A_c rfl (j := ((q1.toInt32) + (128 : Int32))) h_kx h_kl (g := (mkF m 29 #[.val (.long q1), .second, .val (.int (128 : Int32))] [(.int ((q1.toInt32) + (128 : Int32))), (.ref ac)])) rfl rfl (hb hby d8_29) _ ?_
        exact kt
      obtain ⟨fs, hr, hrun, hended, hW, hsame⟩ := X31.leave (v := some (.ref (fc kx))) (fun h => by rw [Bd.returns] at h; cases h)
      refine ⟨_, _, pre32 _ ?_, hrun, hended, _, _, rfl, ?_, ⟨_, rfl⟩, hW, hsame.mono (by decide) (by decide)⟩
      · show Steps p.tables e below (T31.setTop (mkF m 30 #[.val (.long q1), .second, .val (.int (128 : Int32))] [(.ref (fc kx))])) _
        exact X31.areturnOut hx rfl Bd.returns rfl (hb hby d8_30) hr
      · show Q8 Z q1 ac fc h0 n0 _ T31.heap _
        rw [hE31]
        exact ⟨(fc kx), rfl, N0, (Keep.refl h0 []), (HE _ h_kl)⟩
theorem own_e0 (qa e1 : Int64) (h : e1 = (qa &&& (2147483647 : Int64))) : ¬ (e1 < (0 : Int64)) := by
  have h1 := c_maskL qa 2147483647 31 (by decide) (by decide)
  rw [← h] at h1
  have o : (0 : Int64).toInt = 0 := rfl
  rw [Int64.lt_iff_toInt_lt]; omega
theorem own_e9 (qa e1 : Int64) (h : e1 = (qa &&& (2147483647 : Int64))) : ¬ ((2147483647 : Int64) < e1) := by
  have h1 := c_maskL qa 2147483647 31 (by decide) (by decide)
  rw [← h] at h1
  have o : (2147483647 : Int64).toInt = 2147483647 := rfl
  rw [Int64.lt_iff_toInt_lt]; omega
theorem own_z0 (qb z1 : Int64) (h : z1 = (qb &&& (9223372036854775807 : Int64))) : ¬ (z1 < (0 : Int64)) := by
  have h1 := c_maskL qb 9223372036854775807 63 (by decide) (by decide)
  rw [← h] at h1
  have o : (0 : Int64).toInt = 0 := rfl
  rw [Int64.lt_iff_toInt_lt]; omega
theorem own_s0 (x s1 : Int64) (h : s1 = (fn1 (1 : Int64) x)) : ¬ (s1 < (1 : Int64)) := by
  unfold fn1 at h
  have o : (1 : Int64).toInt = 1 := rfl
  split at h
  · rename_i q
    rw [Int64.lt_iff_toInt_lt] at q ⊢
    rw [h]; omega
  · rw [h, Int64.lt_iff_toInt_lt]; omega
theorem own_e20 (pf : Int32) (qa qd e1 e2 : Int64) (h1 : e1 = (qa &&& (2147483647 : Int64))) (h2 : e2 = (if (pf &&& (1 : Int32)) = (0 : Int32) then e1 else (qd &&& (2147483647 : Int64)))) : ¬ (e2 < (0 : Int64)) := by
  split at h2
  · rw [h2]; exact own_e0 _ _ h1
  · exact own_e0 _ _ h2
theorem own_e29 (pf : Int32) (qa qd e1 e2 : Int64) (h1 : e1 = (qa &&& (2147483647 : Int64))) (h2 : e2 = (if (pf &&& (1 : Int32)) = (0 : Int32) then e1 else (qd &&& (2147483647 : Int64)))) : ¬ ((2147483647 : Int64) < e2) := by
  split at h2
  · rw [h2]; exact own_e9 _ _ h1
  · exact own_e9 _ _ h2
theorem own_z20 (pf : Int32) (qb qg z1 z2 : Int64) (h1 : z1 = (qb &&& (9223372036854775807 : Int64))) (h2 : z2 = (if (pf &&& (2 : Int32)) = (0 : Int32) then z1 else (qg &&& (9223372036854775807 : Int64)))) : ¬ (z2 < (0 : Int64)) := by
  split at h2
  · rw [h2]; exact own_z0 _ _ h1
  · exact own_z0 _ _ h2
theorem own_eq (a b : Addr) (e1 z1 s1 e2 z2 s2 : Int64) (ex : Int32) (h : ex = (if e1 = e2 then (if z1 = z2 then (if s1 = s2 then (1 : Int32) else (0 : Int32)) else (0 : Int32)) else (0 : Int32))) : (fn7v a b e1 z1 s1 e2 z2 s2) = ex := by
  rw [h]; unfold fn7v
  have q1 : (e2 = e1) ↔ (e1 = e2) := eq_comm
  have q2 : (z2 = z1) ↔ (z1 = z2) := eq_comm
  have q3 : (s2 = s1) ↔ (s1 = s2) := eq_comm
  simp only [q1, q2, q3]
theorem own_eq2 (a b : Addr) (e1 z1 s1 e2 z2 s2 : Int64) (ex : Int32) (h : ex = (if e1 = e2 then (if z1 = z2 then (if s1 = s2 then (1 : Int32) else (0 : Int32)) else (0 : Int32)) else (0 : Int32))) : (fn7v a b e2 z2 s2 e1 z1 s1) = ex := by
  rw [h]; unfold fn7v; rfl
theorem own_self (a b : Addr) (e1 z1 s1 : Int64) : (fn7v a b e1 z1 s1 e1 z1 s1) = (1 : Int32) := by
  unfold fn7v; rw [if_pos rfl, if_pos rfl, if_pos rfl]
theorem own_len {args : Array Value} {s : State} {t : Term} {a : Addr} {c : Cell} {z : Int32} (ht : t.eval args s none [] s = some (.ref a)) (ha : s.arrayAt? a = some c) (h : (Term.length t).eval args s none [] s = some (.int z)) : (c.slots.size : Int) = z.toInt := by
  by_cases hl : c.slots.size < 2 ^ 31
  · have q := len_f ht ha hl
    have e := Value.int.inj (Option.some.inj (q.symm.trans h))
    rw [← e, len_toInt hl]
  · simp [Term.eval, ht, ha, hl] at h
theorem own_cache {s : State} {args : Array Value} (hfit : Fit s) (hsets : ∀ w ∈ jdkStatics_1, w.before args s = true) : ∃ (ac : Addr) (fc : Nat → Addr), Sta s s.heap "java/lang/Long$LongCache" "cache" "[Ljava/lang/Long;" (.ref ac) ∧ owAR s s.heap ac (.object "java/lang/Long") 256 fc ∧ ∀ k, k < 256 → Exa s s.heap (fc k) "java/lang/Long" := by
  have w1 := hsets _ (List.mem_of_getElem? (i := 1) rfl)
  have w2 := Cond.before_iff.mp (hsets _ (List.mem_of_getElem? (i := 2) rfl))
  have w4 := Cond.before_iff.mp (hsets _ (List.mem_of_getElem? (i := 4) rfl))
  have w5 := Cond.before_iff.mp (hsets _ (List.mem_of_getElem? (i := 5) rfl))
  obtain ⟨ac, ev⟩ := arr_v w2
  obtain ⟨c, A⟩ := Arr.start ev w2
  have S := Sta.start ev (Or.inl w1)
  have lv := eqv_i (Term.int_eval 256) w4
  have ha := A.fin (Vm.Alike.refl _)
  have hsz : c.slots.size = 256 := by
    have q := own_len ev ha lv
    have e3 : (256 : Int32).toInt = 256 := rfl
    omega
  have et : ∀ idx, (Term.static "java/lang/Long$LongCache" "cache" "[Ljava/lang/Long;").eval args s none idx s = some (.ref ac) := fun idx => ev
  have el : ∀ k, k < 256 → ∃ b, c.slots[k]? = some (.ref b) ∧ Exa s s.heap b "java/lang/Long" := by
    intro k hk
    obtain ⟨u1, u2⟩ := and_e (Cond.all_elim (et []) ha w5 k (by omega))
    obtain ⟨b, eb⟩ := exa_v u1
    have hj : (Int32.ofNat k).toInt = (k : Int) := Int32.toInt_ofNat_of_lt (by omega)
    have hn : ¬ (Int32.ofNat k) < 0 := by rw [Int32.lt_iff_toInt_lt, hj]; have o : (0 : Int32).toInt = 0 := rfl; omega
    have hc := idx_at (args := args) (first := s) (s := s) (o := none) hn
    rw [owIdx hj] at hc
    have q := elem_f (et [k]) hc ha hn
    rw [owIdx hj] at q
    exact ⟨b, q.symm.trans eb, exa_at eb u1⟩
  refine ⟨ac, fun k => match c.slots[k]? with | some (.ref b) => b | _ => 0, S, ⟨c, A, hsz, fun k hk => ?_⟩, fun k hk => ?_⟩
  · obtain ⟨b, e1, -⟩ := el k hk
    simp [e1]
  · obtain ⟨b, e1, e2⟩ := el k hk
    simpa [e1] using e2

theorem pn_0 : plainName "com/example/quorumvote/quorumvote/election/VoteEqualsPinLaw" = true := by first | (simp [plainName, overriddenIn]; done) | decide +kernel
theorem ef_0 (m : MethodId) (x0 : Int64) (x1 : Int64) (x2 : Int64) (x3 : Int64) (x4 : Int64) (x5 : Int32) : entryFrame m #[(.long x0), (.long x1), (.long x2), (.long x3), (.long x4), (.int x5)] maxLocals = mkF m 0 #[.val (.long x0), .second, .val (.long x1), .second, .val (.long x2), .second, .val (.long x3), .second, .val (.long x4), .second, .val (.int x5), .unset, .unset, .unset, .unset, .unset, .unset, .unset, .unset, .unset, .unset, .unset, .unset, .unset, .unset, .unset, .unset] [] := by first | (simp [entryFrame, mkF, argsToLocals, Value.category, maxLocals]; done) | rfl
theorem pd_3 : parseMethodDescriptor "(JJ)J" = some ⟨[.long, .long], some .long⟩ := by decide +kernel
theorem pd_4 : parseMethodDescriptor "(JJJ)V" = some ⟨[.long, .long, .long], none⟩ := by decide +kernel
theorem pd_5 : parseMethodDescriptor "(Ljava/lang/Object;)Z" = some ⟨[(.object "java/lang/Object")], some .boolean⟩ := by decide +kernel
theorem pd_6 : parseMethodDescriptor "(J)Ljava/lang/Long;" = some ⟨[.long], some (.object "java/lang/Long")⟩ := by decide +kernel
def Q0 (Z : State) (qa : Int64) (qb : Int64) (qc : Int64) (qd : Int64) (qg : Int64) (pf : Int32) (ac : Addr) (fc : Nat → Addr) (h0 : Heap) (n0 : Nat) (v : Option Value) (h : Heap) (L : List Loc) : Prop := v = some (.int 1) ∧ Fr n0 L
set_option maxRecDepth 65536 in
set_option maxHeartbeats 40000000 in
theorem rm0 (l : Launch) (Z : State) (a0 : Array Value) (hw : ∀ d ∈ tables_1, d.before a0 Z = true) (ws : List Jvm.Cond) (qa : Int64) (qb : Int64) (qc : Int64) (qd : Int64) (qg : Int64) (pf : Int32) (ac : Addr) (fc : Nat → Addr) (h0 : Heap) (n0 : Nat) (Z0 : n0 ≤ h0.size) (O0 : Old Z n0 h0) (S0 : Sta Z Z.heap "java/lang/Long$LongCache" "cache" "[Ljava/lang/Long;" (.ref ac)) (A0 : owAR Z Z.heap ac (.object "java/lang/Long") 256 fc) (HE0 : ∀ k, k < 256 → Exa Z Z.heap (fc k) "java/lang/Long") :
    MetFree l x (head1 (Jvm.Cond.code x code maxLocals ret :: ws) room_1) (fun a U => a = #[(.long qa), (.long qb), (.long qc), (.long qd), (.long qg), (.int pf)] ∧ Z.Warmed39 U.vm ∧ U.heap = h0) (fun _ _ _ _ _ => True) (fun _ U o U' => ∃ v L, o = .returned v ∧ Q0 Z qa qb qc qd qg pf ac fc h0 n0 v U'.heap L ∧ FrameEnd U o U' L room_1.cells room_1.slots) := by
  refine MetFree.of_bodySF (plainFor_of_name pn_0) hisR ?_
  intro p e s m args below meth c s₁ Bd hml0 hP hK
  obtain ⟨rfl, hZ, hh⟩ := hP
  have hx := Bd.exec
  have hby := Bd.bytes
  have hml : c.maxLocals = 27 := hml0
  have hown : s.vm.findClass "com/example/quorumvote/quorumvote/election/VoteEqualsPinLaw" = some m.cls := findClass_of_methodNamed Bd.named
  have hnm := (name_of_methodNamed Bd.named Bd.method).1
  have X0 : Stand p l e room_1 s m #[(.long qa), (.long qb), (.long qc), (.long qd), (.long qg), (.int pf)] below meth c s₁ [] 0 0 := Stand.of_body Bd
  have e0 : s₁.heap = h0 := by rw [← hh, Bd.state]; rfl
  have N0 := Fr.nil n0
  have pre0 : ∀ t, Steps p.tables e below (s₁.setTop (mkF m 0 #[.val (.long qa), .second, .val (.long qb), .second, .val (.long qc), .second, .val (.long qd), .second, .val (.long qg), .second, .val (.int pf), .unset, .unset, .unset, .unset, .unset, .unset, .unset, .unset, .unset, .unset, .unset, .unset, .unset, .unset, .unset, .unset] [])) t → Steps p.tables e below (s₁.setTop (entryFrame m #[(.long qa), (.long qb), (.long qc), (.long qd), (.long qg), (.int pf)] maxLocals)) t := fun t k => castTop (ef_0 m qa qb qc qd qg pf) k
  have pre1 : ∀ t, Steps p.tables e below (s₁.setTop (mkF m 5 #[.val (.long qa), .second, .val (.long qb), .second, .val (.long qc), .second, .val (.long qd), .second, .val (.long qg), .second, .val (.int pf), .unset, .unset, .unset, .unset, .unset, .unset, .unset, .unset, .unset, .unset, .unset, .unset, .unset, .unset, .unset, .unset] [(.long (qa &&& (2147483647 : Int64)))])) t → Steps p.tables e below (s₁.setTop (entryFrame m #[(.long qa), (.long qb), (.long qc), (.long qd), (.long qg), (.int pf)] maxLocals)) t := by
    intro t kt
    refine pre0 _ ?_
    show Steps p.tables e below (s₁.setTop (mkF m 0 #[.val (.long qa), .second, .val (.long qb), .second, .val (.long qc), .second, .val (.long qd), .second, .val (.long qg), .second, .val (.int pf), .unset, .unset, .unset, .unset, .unset, .unset, .unset, .unset, .unset, .unset, .unset, .unset, .unset, .unset, .unset, .unset] [])) _
    refine XS.lloadN X0.here hx rfl (hb hby at_0) rfl ?_
    show Steps p.tables e below (s₁.setTop (mkF m 1 #[.val (.long qa), .second, .val (.long qb), .second, .val (.long qc), .second, .val (.long qd), .second, .val (.long qg), .second, .val (.int pf), .unset, .unset, .unset, .unset, .unset, .unset, .unset, .unset, .unset, .unset, .unset, .unset, .unset, .unset, .unset, .unset] [(.long qa)])) _
    refine Stand.ldc2J (g := (mkF m 1 #[.val (.long qa), .second, .val (.long qb), .second, .val (.long qc), .second, .val (.long qd), .second, .val (.long qg), .second, .val (.int pf), .unset, .unset, .unset, .unset, .unset, .unset, .unset, .unset, .unset, .unset, .unset, .unset, .unset, .unset, .unset, .unset] [(.long qa)])) X0 hx hown (mvT hZ (hw _ (List.mem_of_getElem? (i := 0) rfl))) rfl (hb hby at_1) ?_
    show Steps p.tables e below (s₁.setTop (mkF m 4 #[.val (.long qa), .second, .val (.long qb), .second, .val (.long qc), .second, .val (.long qd), .second, .val (.long qg), .second, .val (.int pf), .unset, .unset, .unset, .unset, .unset, .unset, .unset, .unset, .unset, .unset, .unset, .unset, .unset, .unset, .unset, .unset] [(.long (2147483647 : Int64)), (.long qa)])) _
    refine XS.land X0.here hx rfl (hb hby at_4) rfl ?_
    exact kt
  obtain ⟨e1, h_e1⟩ : ∃ z : Int64, z = (qa &&& (2147483647 : Int64)) := ⟨_, rfl⟩
  have pre2 : ∀ t, Steps p.tables e below (s₁.setTop (mkF m 5 #[.val (.long qa), .second, .val (.long qb), .second, .val (.long qc), .second, .val (.long qd), .second, .val (.long qg), .second, .val (.int pf), .unset, .unset, .unset, .unset, .unset, .unset, .unset, .unset, .unset, .unset, .unset, .unset, .unset, .unset, .unset, .unset] [(.long e1)])) t → Steps p.tables e below (s₁.setTop (entryFrame m #[(.long qa), (.long qb), (.long qc), (.long qd), (.long qg), (.int pf)] maxLocals)) t := by
    intro t kt
    rw [h_e1] at kt
    exact pre1 _ kt
  have pre3 : ∀ t, Steps p.tables e below (s₁.setTop (mkF m 12 #[.val (.long qa), .second, .val (.long qb), .second, .val (.long qc), .second, .val (.long qd), .second, .val (.long qg), .second, .val (.int pf), .val (.long e1), .second, .unset, .unset, .unset, .unset, .unset, .unset, .unset, .unset, .unset, .unset, .unset, .unset, .unset, .unset] [(.long (qb &&& (9223372036854775807 : Int64)))])) t → Steps p.tables e below (s₁.setTop (entryFrame m #[(.long qa), (.long qb), (.long qc), (.long qd), (.long qg), (.int pf)] maxLocals)) t := by
    intro t kt
    refine pre2 _ ?_
    show Steps p.tables e below (s₁.setTop (mkF m 5 #[.val (.long qa), .second, .val (.long qb), .second, .val (.long qc), .second, .val (.long qd), .second, .val (.long qg), .second, .val (.int pf), .unset, .unset, .unset, .unset, .unset, .unset, .unset, .unset, .unset, .unset, .unset, .unset, .unset, .unset, .unset, .unset] [(.long e1)])) _
    refine XS.lstore X0.here hx rfl (hb hby at_5) rfl (l' := #[.val (.long qa), .second, .val (.long qb), .second, .val (.long qc), .second, .val (.long qd), .second, .val (.long qg), .second, .val (.int pf), .val (.long e1), .second, .unset, .unset, .unset, .unset, .unset, .unset, .unset, .unset, .unset, .unset, .unset, .unset, .unset, .unset]) rfl ?_
    show Steps p.tables e below (s₁.setTop (mkF m 7 #[.val (.long qa), .second, .val (.long qb), .second, .val (.long qc), .second, .val (.long qd), .second, .val (.long qg), .second, .val (.int pf), .val (.long e1), .second, .unset, .unset, .unset, .unset, .unset, .unset, .unset, .unset, .unset, .unset, .unset, .unset, .unset, .unset] [])) _
    refine XS.lloadN X0.here hx rfl (hb hby at_7) rfl ?_
    show Steps p.tables e below (s₁.setTop (mkF m 8 #[.val (.long qa), .second, .val (.long qb), .second, .val (.long qc), .second, .val (.long qd), .second, .val (.long qg), .second, .val (.int pf), .val (.long e1), .second, .unset, .unset, .unset, .unset, .unset, .unset, .unset, .unset, .unset, .unset, .unset, .unset, .unset, .unset] [(.long qb)])) _
    refine Stand.ldc2J (g := (mkF m 8 #[.val (.long qa), .second, .val (.long qb), .second, .val (.long qc), .second, .val (.long qd), .second, .val (.long qg), .second, .val (.int pf), .val (.long e1), .second, .unset, .unset, .unset, .unset, .unset, .unset, .unset, .unset, .unset, .unset, .unset, .unset, .unset, .unset] [(.long qb)])) X0 hx hown (mvT hZ (hw _ (List.mem_of_getElem? (i := 1) rfl))) rfl (hb hby at_8) ?_
    show Steps p.tables e below (s₁.setTop (mkF m 11 #[.val (.long qa), .second, .val (.long qb), .second, .val (.long qc), .second, .val (.long qd), .second, .val (.long qg), .second, .val (.int pf), .val (.long e1), .second, .unset, .unset, .unset, .unset, .unset, .unset, .unset, .unset, .unset, .unset, .unset, .unset, .unset, .unset] [(.long (9223372036854775807 : Int64)), (.long qb)])) _
    refine XS.land X0.here hx rfl (hb hby at_11) rfl ?_
    exact kt
  obtain ⟨z1, h_z1⟩ : ∃ z : Int64, z = (qb &&& (9223372036854775807 : Int64)) := ⟨_, rfl⟩
  have pre4 : ∀ t, Steps p.tables e below (s₁.setTop (mkF m 12 #[.val (.long qa), .second, .val (.long qb), .second, .val (.long qc), .second, .val (.long qd), .second, .val (.long qg), .second, .val (.int pf), .val (.long e1), .second, .unset, .unset, .unset, .unset, .unset, .unset, .unset, .unset, .unset, .unset, .unset, .unset, .unset, .unset] [(.long z1)])) t → Steps p.tables e below (s₁.setTop (entryFrame m #[(.long qa), (.long qb), (.long qc), (.long qd), (.long qg), (.int pf)] maxLocals)) t := by
    intro t kt
    rw [h_z1] at kt
    exact pre3 _ kt
  obtain ⟨_, _, ⟨T5, L5, k5, n5⟩, -, X5, ⟨Lc5, hQ5, l5, y5, z5⟩, st5⟩ := Jvm.LawKit.callS X0 hx (y := (⟨"java/lang/Math", "max", "(JJ)J"⟩ : MethodName)) hown (mvT hZ (hw _ (List.mem_of_getElem? (i := 2) rfl))) (mvT hZ (hw _ (List.mem_of_getElem? (i := 3) rfl))) (mvT hZ (hw _ (List.mem_of_getElem? (i := 4) rfl))) (mvT hZ (hw _ (List.mem_of_getElem? (i := 5) rfl))) (by decide) (backOf (W := 0) (rm1 l Z a0 hw [] (1 : Int64) (qc &&& (9223372036854775807 : Int64)) h0 n0 Z0) hZ (hw _ (List.mem_of_getElem? (i := 5) rfl)) (hw _ (List.mem_of_getElem? (i := 4) rfl)) (by decide) (by decide)) (g := (mkF m 21 #[.val (.long qa), .second, .val (.long qb), .second, .val (.long qc), .second, .val (.long qd), .second, .val (.long qg), .second, .val (.int pf), .val (.long e1), .second, .val (.long z1), .second, .unset, .unset, .unset, .unset, .unset, .unset, .unset, .unset, .unset, .unset, .unset, .unset] [(.long (qc &&& (9223372036854775807 : Int64))), (.long (1 : Int64))])) rfl (by rw [hml]; rfl) (argsL := [(.long (1 : Int64)), (.long (qc &&& (9223372036854775807 : Int64)))]) (rest := []) (lenOf pd_3 rfl) rfl (by show 2 * 0 + _ ≤ _; exact Nat.le_of_eq rfl) (hb hby at_21) (fun _ _ => ⟨rfl, e0, (by decide : 0 + 0 ≤ _), (by decide : 0 + 0 ≤ _)⟩)
  dsimp only [Pt.U, Pt.locs, Pt.cells, Pt.slots] at X5 l5 y5 z5 st5 hQ5
  subst l5 y5 z5
  obtain ⟨rfl, N5q, hE5⟩ := hQ5
  have N5 := Fr.app N0 N5q
  have pre6 : ∀ t, Steps p.tables e below (T5.setTop (mkF m 24 #[.val (.long qa), .second, .val (.long qb), .second, .val (.long qc), .second, .val (.long qd), .second, .val (.long qg), .second, .val (.int pf), .val (.long e1), .second, .val (.long z1), .second, .unset, .unset, .unset, .unset, .unset, .unset, .unset, .unset, .unset, .unset, .unset, .unset] [(.long (fn1 (1 : Int64) (qc &&& (9223372036854775807 : Int64))))])) t → Steps p.tables e below (s₁.setTop (entryFrame m #[(.long qa), (.long qb), (.long qc), (.long qd), (.long qg), (.int pf)] maxLocals)) t := by
    intro t kt
    refine pre4 _ ?_
    show Steps p.tables e below (s₁.setTop (mkF m 12 #[.val (.long qa), .second, .val (.long qb), .second, .val (.long qc), .second, .val (.long qd), .second, .val (.long qg), .second, .val (.int pf), .val (.long e1), .second, .unset, .unset, .unset, .unset, .unset, .unset, .unset, .unset, .unset, .unset, .unset, .unset, .unset, .unset] [(.long z1)])) _
    refine XS.lstore X0.here hx rfl (hb hby at_12) rfl (l' := #[.val (.long qa), .second, .val (.long qb), .second, .val (.long qc), .second, .val (.long qd), .second, .val (.long qg), .second, .val (.int pf), .val (.long e1), .second, .val (.long z1), .second, .unset, .unset, .unset, .unset, .unset, .unset, .unset, .unset, .unset, .unset, .unset, .unset]) rfl ?_
    show Steps p.tables e below (s₁.setTop (mkF m 14 #[.val (.long qa), .second, .val (.long qb), .second, .val (.long qc), .second, .val (.long qd), .second, .val (.long qg), .second, .val (.int pf), .val (.long e1), .second, .val (.long z1), .second, .unset, .unset, .unset, .unset, .unset, .unset, .unset, .unset, .unset, .unset, .unset, .unset] [])) _
    refine XS.lconst X0.here hx rfl (hb hby at_14) ?_
    show Steps p.tables e below (s₁.setTop (mkF m 15 #[.val (.long qa), .second, .val (.long qb), .second, .val (.long qc), .second, .val (.long qd), .second, .val (.long qg), .second, .val (.int pf), .val (.long e1), .second, .val (.long z1), .second, .unset, .unset, .unset, .unset, .unset, .unset, .unset, .unset, .unset, .unset, .unset, .unset] [(.long (1 : Int64))])) _
    refine XS.lload X0.here hx rfl (hb hby at_15) rfl ?_
    show Steps p.tables e below (s₁.setTop (mkF m 17 #[.val (.long qa), .second, .val (.long qb), .second, .val (.long qc), .second, .val (.long qd), .second, .val (.long qg), .second, .val (.int pf), .val (.long e1), .second, .val (.long z1), .second, .unset, .unset, .unset, .unset, .unset, .unset, .unset, .unset, .unset, .unset, .unset, .unset] [(.long qc), (.long (1 : Int64))])) _
    refine Stand.ldc2J (g := (mkF m 17 #[.val (.long qa), .second, .val (.long qb), .second, .val (.long qc), .second, .val (.long qd), .second, .val (.long qg), .second, .val (.int pf), .val (.long e1), .second, .val (.long z1), .second, .unset, .unset, .unset, .unset, .unset, .unset, .unset, .unset, .unset, .unset, .unset, .unset] [(.long qc), (.long (1 : Int64))])) X0 hx hown (mvT hZ (hw _ (List.mem_of_getElem? (i := 1) rfl))) rfl (hb hby at_17) ?_
    show Steps p.tables e below (s₁.setTop (mkF m 20 #[.val (.long qa), .second, .val (.long qb), .second, .val (.long qc), .second, .val (.long qd), .second, .val (.long qg), .second, .val (.int pf), .val (.long e1), .second, .val (.long z1), .second, .unset, .unset, .unset, .unset, .unset, .unset, .unset, .unset, .unset, .unset, .unset, .unset] [(.long (9223372036854775807 : Int64)), (.long qc), (.long (1 : Int64))])) _
    refine XS.land X0.here hx rfl (hb hby at_20) rfl ?_
    show Steps p.tables e below (s₁.setTop (mkF m 21 #[.val (.long qa), .second, .val (.long qb), .second, .val (.long qc), .second, .val (.long qd), .second, .val (.long qg), .second, .val (.int pf), .val (.long e1), .second, .val (.long z1), .second, .unset, .unset, .unset, .unset, .unset, .unset, .unset, .unset, .unset, .unset, .unset, .unset] [(.long (qc &&& (9223372036854775807 : Int64))), (.long (1 : Int64))])) _
    refine st5 _ ?_
    exact kt
  obtain ⟨s1, h_s1⟩ : ∃ z : Int64, z = (fn1 (1 : Int64) (qc &&& (9223372036854775807 : Int64))) := ⟨_, rfl⟩
  have pre7 : ∀ t, Steps p.tables e below (T5.setTop (mkF m 24 #[.val (.long qa), .second, .val (.long qb), .second, .val (.long qc), .second, .val (.long qd), .second, .val (.long qg), .second, .val (.int pf), .val (.long e1), .second, .val (.long z1), .second, .unset, .unset, .unset, .unset, .unset, .unset, .unset, .unset, .unset, .unset, .unset, .unset] [(.long s1)])) t → Steps p.tables e below (s₁.setTop (entryFrame m #[(.long qa), (.long qb), (.long qc), (.long qd), (.long qg), (.int pf)] maxLocals)) t := by
    intro t kt
    rw [h_s1] at kt
    exact pre6 _ kt
  have pre8 : ∀ t, Steps p.tables e below (T5.setTop (mkF m 30 #[.val (.long qa), .second, .val (.long qb), .second, .val (.long qc), .second, .val (.long qd), .second, .val (.long qg), .second, .val (.int pf), .val (.long e1), .second, .val (.long z1), .second, .val (.long s1), .second, .unset, .unset, .unset, .unset, .unset, .unset, .unset, .unset, .unset, .unset] [(.int (pf &&& (1 : Int32)))])) t → Steps p.tables e below (s₁.setTop (entryFrame m #[(.long qa), (.long qb), (.long qc), (.long qd), (.long qg), (.int pf)] maxLocals)) t := by
    intro t kt
    refine pre7 _ ?_
    show Steps p.tables e below (T5.setTop (mkF m 24 #[.val (.long qa), .second, .val (.long qb), .second, .val (.long qc), .second, .val (.long qd), .second, .val (.long qg), .second, .val (.int pf), .val (.long e1), .second, .val (.long z1), .second, .unset, .unset, .unset, .unset, .unset, .unset, .unset, .unset, .unset, .unset, .unset, .unset] [(.long s1)])) _
    refine XS.lstore X5.here hx rfl (hb hby at_24) rfl (l' := #[.val (.long qa), .second, .val (.long qb), .second, .val (.long qc), .second, .val (.long qd), .second, .val (.long qg), .second, .val (.int pf), .val (.long e1), .second, .val (.long z1), .second, .val (.long s1), .second, .unset, .unset, .unset, .unset, .unset, .unset, .unset, .unset, .unset, .unset]) rfl ?_
    show Steps p.tables e below (T5.setTop (mkF m 26 #[.val (.long qa), .second, .val (.long qb), .second, .val (.long qc), .second, .val (.long qd), .second, .val (.long qg), .second, .val (.int pf), .val (.long e1), .second, .val (.long z1), .second, .val (.long s1), .second, .unset, .unset, .unset, .unset, .unset, .unset, .unset, .unset, .unset, .unset] [])) _
    refine XS.iload X5.here hx rfl (hb hby at_26) rfl ?_
    show Steps p.tables e below (T5.setTop (mkF m 28 #[.val (.long qa), .second, .val (.long qb), .second, .val (.long qc), .second, .val (.long qd), .second, .val (.long qg), .second, .val (.int pf), .val (.long e1), .second, .val (.long z1), .second, .val (.long s1), .second, .unset, .unset, .unset, .unset, .unset, .unset, .unset, .unset, .unset, .unset] [(.int pf)])) _
    refine XS.iconst X5.here hx rfl (hb hby at_28) ?_
    show Steps p.tables e below (T5.setTop (mkF m 29 #[.val (.long qa), .second, .val (.long qb), .second, .val (.long qc), .second, .val (.long qd), .second, .val (.long qg), .second, .val (.int pf), .val (.long e1), .second, .val (.long z1), .second, .val (.long s1), .second, .unset, .unset, .unset, .unset, .unset, .unset, .unset, .unset, .unset, .unset] [(.int (1 : Int32)), (.int pf)])) _
    refine XS.iand X5.here hx rfl (hb hby at_29) rfl ?_
    exact kt
  obtain ⟨e2, h_e2⟩ : ∃ z : Int64, z = (if (pf &&& (1 : Int32)) = (0 : Int32) then e1 else (qd &&& (2147483647 : Int64))) := ⟨_, rfl⟩
  have pre10 : ∀ t, Steps p.tables e below (T5.setTop (mkF m 44 #[.val (.long qa), .second, .val (.long qb), .second, .val (.long qc), .second, .val (.long qd), .second, .val (.long qg), .second, .val (.int pf), .val (.long e1), .second, .val (.long z1), .second, .val (.long s1), .second, .unset, .unset, .unset, .unset, .unset, .unset, .unset, .unset, .unset, .unset] [(.long e2)])) t → Steps p.tables e below (s₁.setTop (entryFrame m #[(.long qa), (.long qb), (.long qc), (.long qd), (.long qg), (.int pf)] maxLocals)) t := by
    intro t kt
    refine pre8 _ ?_
    by_cases hc30_9 : (pf &&& (1 : Int32)) = (0 : Int32)
    · skip
      have q_e2 : e2 = e1 := by rw [h_e2, if_pos hc30_9]
      rw [q_e2] at kt
      show Steps p.tables e below (T5.setTop (mkF m 30 #[.val (.long qa), .second, .val (.long qb), .second, .val (.long qc), .second, .val (.long qd), .second, .val (.long qg), .second, .val (.int pf), .val (.long e1), .second, .val (.long z1), .second, .val (.long s1), .second, .unset, .unset, .unset, .unset, .unset, .unset, .unset, .unset, .unset, .unset] [(.int (pf &&& (1 : Int32)))])) _
      refine XS.ifYes X5.here hx rfl (pc0 := 30) (pc' := 42) rfl (hb hby at_30) rfl (XT.i0_eq_t hc30_9) (by decide) (by decide) ?_
      show Steps p.tables e below (T5.setTop (mkF m 42 #[.val (.long qa), .second, .val (.long qb), .second, .val (.long qc), .second, .val (.long qd), .second, .val (.long qg), .second, .val (.int pf), .val (.long e1), .second, .val (.long z1), .second, .val (.long s1), .second, .unset, .unset, .unset, .unset, .unset, .unset, .unset, .unset, .unset, .unset] [])) _
      refine XS.lload X5.here hx rfl (hb hby at_42) rfl ?_
      exact kt
    · skip
      have q_e2 : e2 = (qd &&& (2147483647 : Int64)) := by rw [h_e2, if_neg hc30_9]
      rw [q_e2] at kt
      show Steps p.tables e below (T5.setTop (mkF m 30 #[.val (.long qa), .second, .val (.long qb), .second, .val (.long qc), .second, .val (.long qd), .second, .val (.long qg), .second, .val (.int pf), .val (.long e1), .second, .val (.long z1), .second, .val (.long s1), .second, .unset, .unset, .unset, .unset, .unset, .unset, .unset, .unset, .unset, .unset] [(.int (pf &&& (1 : Int32)))])) _
      refine XS.ifNo X5.here hx rfl (hb hby at_30) rfl (XT.i0_eq_f hc30_9) ?_
      show Steps p.tables e below (T5.setTop (mkF m 33 #[.val (.long qa), .second, .val (.long qb), .second, .val (.long qc), .second, .val (.long qd), .second, .val (.long qg), .second, .val (.int pf), .val (.long e1), .second, .val (.long z1), .second, .val (.long s1), .second, .unset, .unset, .unset, .unset, .unset, .unset, .unset, .unset, .unset, .unset] [])) _
      refine XS.lload X5.here hx rfl (hb hby at_33) rfl ?_
      show Steps p.tables e below (T5.setTop (mkF m 35 #[.val (.long qa), .second, .val (.long qb), .second, .val (.long qc), .second, .val (.long qd), .second, .val (.long qg), .second, .val (.int pf), .val (.long e1), .second, .val (.long z1), .second, .val (.long s1), .second, .unset, .unset, .unset, .unset, .unset, .unset, .unset, .unset, .unset, .unset] [(.long qd)])) _
      refine Stand.ldc2J (g := (mkF m 35 #[.val (.long qa), .second, .val (.long qb), .second, .val (.long qc), .second, .val (.long qd), .second, .val (.long qg), .second, .val (.int pf), .val (.long e1), .second, .val (.long z1), .second, .val (.long s1), .second, .unset, .unset, .unset, .unset, .unset, .unset, .unset, .unset, .unset, .unset] [(.long qd)])) X5 hx hown (mvT hZ (hw _ (List.mem_of_getElem? (i := 0) rfl))) rfl (hb hby at_35) ?_
      show Steps p.tables e below (T5.setTop (mkF m 38 #[.val (.long qa), .second, .val (.long qb), .second, .val (.long qc), .second, .val (.long qd), .second, .val (.long qg), .second, .val (.int pf), .val (.long e1), .second, .val (.long z1), .second, .val (.long s1), .second, .unset, .unset, .unset, .unset, .unset, .unset, .unset, .unset, .unset, .unset] [(.long (2147483647 : Int64)), (.long qd)])) _
      refine XS.land X5.here hx rfl (hb hby at_38) rfl ?_
      show Steps p.tables e below (T5.setTop (mkF m 39 #[.val (.long qa), .second, .val (.long qb), .second, .val (.long qc), .second, .val (.long qd), .second, .val (.long qg), .second, .val (.int pf), .val (.long e1), .second, .val (.long z1), .second, .val (.long s1), .second, .unset, .unset, .unset, .unset, .unset, .unset, .unset, .unset, .unset, .unset] [(.long (qd &&& (2147483647 : Int64)))])) _
      refine XS.goto X5.here hx rfl (pc0 := 39) (pc' := 44) rfl (hb hby at_39) (by decide) (by decide) ?_
      exact kt
  have pre11 : ∀ t, Steps p.tables e below (T5.setTop (mkF m 50 #[.val (.long qa), .second, .val (.long qb), .second, .val (.long qc), .second, .val (.long qd), .second, .val (.long qg), .second, .val (.int pf), .val (.long e1), .second, .val (.long z1), .second, .val (.long s1), .second, .val (.long e2), .second, .unset, .unset, .unset, .unset, .unset, .unset, .unset, .unset] [(.int (pf &&& (2 : Int32)))])) t → Steps p.tables e below (s₁.setTop (entryFrame m #[(.long qa), (.long qb), (.long qc), (.long qd), (.long qg), (.int pf)] maxLocals)) t := by
    intro t kt
    refine pre10 _ ?_
    show Steps p.tables e below (T5.setTop (mkF m 44 #[.val (.long qa), .second, .val (.long qb), .second, .val (.long qc), .second, .val (.long qd), .second, .val (.long qg), .second, .val (.int pf), .val (.long e1), .second, .val (.long z1), .second, .val (.long s1), .second, .unset, .unset, .unset, .unset, .unset, .unset, .unset, .unset, .unset, .unset] [(.long e2)])) _
    refine XS.lstore X5.here hx rfl (hb hby at_44) rfl (l' := #[.val (.long qa), .second, .val (.long qb), .second, .val (.long qc), .second, .val (.long qd), .second, .val (.long qg), .second, .val (.int pf), .val (.long e1), .second, .val (.long z1), .second, .val (.long s1), .second, .val (.long e2), .second, .unset, .unset, .unset, .unset, .unset, .unset, .unset, .unset]) rfl ?_
    show Steps p.tables e below (T5.setTop (mkF m 46 #[.val (.long qa), .second, .val (.long qb), .second, .val (.long qc), .second, .val (.long qd), .second, .val (.long qg), .second, .val (.int pf), .val (.long e1), .second, .val (.long z1), .second, .val (.long s1), .second, .val (.long e2), .second, .unset, .unset, .unset, .unset, .unset, .unset, .unset, .unset] [])) _
    refine XS.iload X5.here hx rfl (hb hby at_46) rfl ?_
    show Steps p.tables e below (T5.setTop (mkF m 48 #[.val (.long qa), .second, .val (.long qb), .second, .val (.long qc), .second, .val (.long qd), .second, .val (.long qg), .second, .val (.int pf), .val (.long e1), .second, .val (.long z1), .second, .val (.long s1), .second, .val (.long e2), .second, .unset, .unset, .unset, .unset, .unset, .unset, .unset, .unset] [(.int pf)])) _
    refine XS.iconst X5.here hx rfl (hb hby at_48) ?_
    show Steps p.tables e below (T5.setTop (mkF m 49 #[.val (.long qa), .second, .val (.long qb), .second, .val (.long qc), .second, .val (.long qd), .second, .val (.long qg), .second, .val (.int pf), .val (.long e1), .second, .val (.long z1), .second, .val (.long s1), .second, .val (.long e2), .second, .unset, .unset, .unset, .unset, .unset, .unset, .unset, .unset] [(.int (2 : Int32)), (.int pf)])) _
    refine XS.iand X5.here hx rfl (hb hby at_49) rfl ?_
    exact kt
  obtain ⟨z2, h_z2⟩ : ∃ z : Int64, z = (if (pf &&& (2 : Int32)) = (0 : Int32) then z1 else (qg &&& (9223372036854775807 : Int64))) := ⟨_, rfl⟩
  have pre13 : ∀ t, Steps p.tables e below (T5.setTop (mkF m 64 #[.val (.long qa), .second, .val (.long qb), .second, .val (.long qc), .second, .val (.long qd), .second, .val (.long qg), .second, .val (.int pf), .val (.long e1), .second, .val (.long z1), .second, .val (.long s1), .second, .val (.long e2), .second, .unset, .unset, .unset, .unset, .unset, .unset, .unset, .unset] [(.long z2)])) t → Steps p.tables e below (s₁.setTop (entryFrame m #[(.long qa), (.long qb), (.long qc), (.long qd), (.long qg), (.int pf)] maxLocals)) t := by
    intro t kt
    refine pre11 _ ?_
    by_cases hc50_12 : (pf &&& (2 : Int32)) = (0 : Int32)
    · skip
      have q_z2 : z2 = z1 := by rw [h_z2, if_pos hc50_12]
      rw [q_z2] at kt
      show Steps p.tables e below (T5.setTop (mkF m 50 #[.val (.long qa), .second, .val (.long qb), .second, .val (.long qc), .second, .val (.long qd), .second, .val (.long qg), .second, .val (.int pf), .val (.long e1), .second, .val (.long z1), .second, .val (.long s1), .second, .val (.long e2), .second, .unset, .unset, .unset, .unset, .unset, .unset, .unset, .unset] [(.int (pf &&& (2 : Int32)))])) _
      refine XS.ifYes X5.here hx rfl (pc0 := 50) (pc' := 62) rfl (hb hby at_50) rfl (XT.i0_eq_t hc50_12) (by decide) (by decide) ?_
      show Steps p.tables e below (T5.setTop (mkF m 62 #[.val (.long qa), .second, .val (.long qb), .second, .val (.long qc), .second, .val (.long qd), .second, .val (.long qg), .second, .val (.int pf), .val (.long e1), .second, .val (.long z1), .second, .val (.long s1), .second, .val (.long e2), .second, .unset, .unset, .unset, .unset, .unset, .unset, .unset, .unset] [])) _
      refine XS.lload X5.here hx rfl (hb hby at_62) rfl ?_
      exact kt
    · skip
      have q_z2 : z2 = (qg &&& (9223372036854775807 : Int64)) := by rw [h_z2, if_neg hc50_12]
      rw [q_z2] at kt
      show Steps p.tables e below (T5.setTop (mkF m 50 #[.val (.long qa), .second, .val (.long qb), .second, .val (.long qc), .second, .val (.long qd), .second, .val (.long qg), .second, .val (.int pf), .val (.long e1), .second, .val (.long z1), .second, .val (.long s1), .second, .val (.long e2), .second, .unset, .unset, .unset, .unset, .unset, .unset, .unset, .unset] [(.int (pf &&& (2 : Int32)))])) _
      refine XS.ifNo X5.here hx rfl (hb hby at_50) rfl (XT.i0_eq_f hc50_12) ?_
      show Steps p.tables e below (T5.setTop (mkF m 53 #[.val (.long qa), .second, .val (.long qb), .second, .val (.long qc), .second, .val (.long qd), .second, .val (.long qg), .second, .val (.int pf), .val (.long e1), .second, .val (.long z1), .second, .val (.long s1), .second, .val (.long e2), .second, .unset, .unset, .unset, .unset, .unset, .unset, .unset, .unset] [])) _
      refine XS.lload X5.here hx rfl (hb hby at_53) rfl ?_
      show Steps p.tables e below (T5.setTop (mkF m 55 #[.val (.long qa), .second, .val (.long qb), .second, .val (.long qc), .second, .val (.long qd), .second, .val (.long qg), .second, .val (.int pf), .val (.long e1), .second, .val (.long z1), .second, .val (.long s1), .second, .val (.long e2), .second, .unset, .unset, .unset, .unset, .unset, .unset, .unset, .unset] [(.long qg)])) _
      refine Stand.ldc2J (g := (mkF m 55 #[.val (.long qa), .second, .val (.long qb), .second, .val (.long qc), .second, .val (.long qd), .second, .val (.long qg), .second, .val (.int pf), .val (.long e1), .second, .val (.long z1), .second, .val (.long s1), .second, .val (.long e2), .second, .unset, .unset, .unset, .unset, .unset, .unset, .unset, .unset] [(.long qg)])) X5 hx hown (mvT hZ (hw _ (List.mem_of_getElem? (i := 1) rfl))) rfl (hb hby at_55) ?_
      show Steps p.tables e below (T5.setTop (mkF m 58 #[.val (.long qa), .second, .val (.long qb), .second, .val (.long qc), .second, .val (.long qd), .second, .val (.long qg), .second, .val (.int pf), .val (.long e1), .second, .val (.long z1), .second, .val (.long s1), .second, .val (.long e2), .second, .unset, .unset, .unset, .unset, .unset, .unset, .unset, .unset] [(.long (9223372036854775807 : Int64)), (.long qg)])) _
      refine XS.land X5.here hx rfl (hb hby at_58) rfl ?_
      show Steps p.tables e below (T5.setTop (mkF m 59 #[.val (.long qa), .second, .val (.long qb), .second, .val (.long qc), .second, .val (.long qd), .second, .val (.long qg), .second, .val (.int pf), .val (.long e1), .second, .val (.long z1), .second, .val (.long s1), .second, .val (.long e2), .second, .unset, .unset, .unset, .unset, .unset, .unset, .unset, .unset] [(.long (qg &&& (9223372036854775807 : Int64)))])) _
      refine XS.goto X5.here hx rfl (pc0 := 59) (pc' := 64) rfl (hb hby at_59) (by decide) (by decide) ?_
      exact kt
  have pre14 : ∀ t, Steps p.tables e below (T5.setTop (mkF m 70 #[.val (.long qa), .second, .val (.long qb), .second, .val (.long qc), .second, .val (.long qd), .second, .val (.long qg), .second, .val (.int pf), .val (.long e1), .second, .val (.long z1), .second, .val (.long s1), .second, .val (.long e2), .second, .val (.long z2), .second, .unset, .unset, .unset, .unset, .unset, .unset] [(.int (pf &&& (4 : Int32)))])) t → Steps p.tables e below (s₁.setTop (entryFrame m #[(.long qa), (.long qb), (.long qc), (.long qd), (.long qg), (.int pf)] maxLocals)) t := by
    intro t kt
    refine pre13 _ ?_
    show Steps p.tables e below (T5.setTop (mkF m 64 #[.val (.long qa), .second, .val (.long qb), .second, .val (.long qc), .second, .val (.long qd), .second, .val (.long qg), .second, .val (.int pf), .val (.long e1), .second, .val (.long z1), .second, .val (.long s1), .second, .val (.long e2), .second, .unset, .unset, .unset, .unset, .unset, .unset, .unset, .unset] [(.long z2)])) _
    refine XS.lstore X5.here hx rfl (hb hby at_64) rfl (l' := #[.val (.long qa), .second, .val (.long qb), .second, .val (.long qc), .second, .val (.long qd), .second, .val (.long qg), .second, .val (.int pf), .val (.long e1), .second, .val (.long z1), .second, .val (.long s1), .second, .val (.long e2), .second, .val (.long z2), .second, .unset, .unset, .unset, .unset, .unset, .unset]) rfl ?_
    show Steps p.tables e below (T5.setTop (mkF m 66 #[.val (.long qa), .second, .val (.long qb), .second, .val (.long qc), .second, .val (.long qd), .second, .val (.long qg), .second, .val (.int pf), .val (.long e1), .second, .val (.long z1), .second, .val (.long s1), .second, .val (.long e2), .second, .val (.long z2), .second, .unset, .unset, .unset, .unset, .unset, .unset] [])) _
    refine XS.iload X5.here hx rfl (hb hby at_66) rfl ?_
    show Steps p.tables e below (T5.setTop (mkF m 68 #[.val (.long qa), .second, .val (.long qb), .second, .val (.long qc), .second, .val (.long qd), .second, .val (.long qg), .second, .val (.int pf), .val (.long e1), .second, .val (.long z1), .second, .val (.long s1), .second, .val (.long e2), .second, .val (.long z2), .second, .unset, .unset, .unset, .unset, .unset, .unset] [(.int pf)])) _
    refine XS.iconst X5.here hx rfl (hb hby at_68) ?_
    show Steps p.tables e below (T5.setTop (mkF m 69 #[.val (.long qa), .second, .val (.long qb), .second, .val (.long qc), .second, .val (.long qd), .second, .val (.long qg), .second, .val (.int pf), .val (.long e1), .second, .val (.long z1), .second, .val (.long s1), .second, .val (.long e2), .second, .val (.long z2), .second, .unset, .unset, .unset, .unset, .unset, .unset] [(.int (4 : Int32)), (.int pf)])) _
    refine XS.iand X5.here hx rfl (hb hby at_69) rfl ?_
    exact kt
  by_cases hc70_15 : (pf &&& (4 : Int32)) = (0 : Int32)
  · skip
    have pre16 : ∀ t, Steps p.tables e below (T5.setTop (mkF m 91 #[.val (.long qa), .second, .val (.long qb), .second, .val (.long qc), .second, .val (.long qd), .second, .val (.long qg), .second, .val (.int pf), .val (.long e1), .second, .val (.long z1), .second, .val (.long s1), .second, .val (.long e2), .second, .val (.long z2), .second, .unset, .unset, .unset, .unset, .unset, .unset] [(.long s1)])) t → Steps p.tables e below (s₁.setTop (entryFrame m #[(.long qa), (.long qb), (.long qc), (.long qd), (.long qg), (.int pf)] maxLocals)) t := by
      intro t kt
      refine pre14 _ ?_
      show Steps p.tables e below (T5.setTop (mkF m 70 #[.val (.long qa), .second, .val (.long qb), .second, .val (.long qc), .second, .val (.long qd), .second, .val (.long qg), .second, .val (.int pf), .val (.long e1), .second, .val (.long z1), .second, .val (.long s1), .second, .val (.long e2), .second, .val (.long z2), .second, .unset, .unset, .unset, .unset, .unset, .unset] [(.int (pf &&& (4 : Int32)))])) _
      refine XS.ifYes X5.here hx rfl (pc0 := 70) (pc' := 89) rfl (hb hby at_70) rfl (XT.i0_eq_t hc70_15) (by decide) (by decide) ?_
      show Steps p.tables e below (T5.setTop (mkF m 89 #[.val (.long qa), .second, .val (.long qb), .second, .val (.long qc), .second, .val (.long qd), .second, .val (.long qg), .second, .val (.int pf), .val (.long e1), .second, .val (.long z1), .second, .val (.long s1), .second, .val (.long e2), .second, .val (.long z2), .second, .unset, .unset, .unset, .unset, .unset, .unset] [])) _
      refine XS.lload X5.here hx rfl (hb hby at_89) rfl ?_
      exact kt
    obtain ⟨s2, h_s2⟩ : ∃ z : Int64, z = s1 := ⟨_, rfl⟩
    have pre17 : ∀ t, Steps p.tables e below (T5.setTop (mkF m 91 #[.val (.long qa), .second, .val (.long qb), .second, .val (.long qc), .second, .val (.long qd), .second, .val (.long qg), .second, .val (.int pf), .val (.long e1), .second, .val (.long z1), .second, .val (.long s1), .second, .val (.long e2), .second, .val (.long z2), .second, .unset, .unset, .unset, .unset, .unset, .unset] [(.long s2)])) t → Steps p.tables e below (s₁.setTop (entryFrame m #[(.long qa), (.long qb), (.long qc), (.long qd), (.long qg), (.int pf)] maxLocals)) t := by
      intro t kt
      rw [h_s2] at kt
      exact pre16 _ kt
    obtain ⟨T18, gh18, X18, hE18, E18, A18, D18, -, st18⟩ := newO X5 hx hZ hown (hw _ (List.mem_of_getElem? (i := 6) rfl)) (hw _ (List.mem_of_getElem? (i := 7) rfl)) (hw _ (List.mem_of_getElem? (i := 8) rfl)) hE5 (g := (mkF m 93 #[.val (.long qa), .second, .val (.long qb), .second, .val (.long qc), .second, .val (.long qd), .second, .val (.long qg), .second, .val (.int pf), .val (.long e1), .second, .val (.long z1), .second, .val (.long s1), .second, .val (.long e2), .second, .val (.long z2), .second, .val (.long s2), .second, .unset, .unset, .unset, .unset] [])) rfl (hb hby at_93) (by decide) (by decide)
    obtain ⟨v1, g18⟩ : ∃ z, z = h0.size := ⟨_, rfl⟩
    rw [← g18] at A18 D18 st18
    have g_v1 : n0 ≤ v1 := Nat.le_trans Z0 (Nat.le_of_eq g18.symm)
    have f19 := O0.ext E18
    have Z20 := Nat.le_trans Z0 E18.1
    have F_epoch_v1 : Fld Z gh18 v1 "com/example/quorumvote/quorumvote/election/Vote" "epoch" "J" (.long (0 : Int64)) := D18 (Or.inr (hw _ (List.mem_of_getElem? (i := 29) rfl))) (ty := .long) (by decide)
    have F_zxid_v1 : Fld Z gh18 v1 "com/example/quorumvote/quorumvote/election/Vote" "zxid" "J" (.long (0 : Int64)) := D18 (Or.inr (hw _ (List.mem_of_getElem? (i := 31) rfl))) (ty := .long) (by decide)
    have F_serverId_v1 : Fld Z gh18 v1 "com/example/quorumvote/quorumvote/election/Vote" "serverId" "J" (.long (0 : Int64)) := D18 (Or.inr (hw _ (List.mem_of_getElem? (i := 33) rfl))) (ty := .long) (by decide)
    obtain ⟨_, _, ⟨T21, L21, k21, n21⟩, -, X21, ⟨Lc21, hQ21, l21, y21, z21⟩, st21⟩ := X18.specialBack hx (y := (⟨"com/example/quorumvote/quorumvote/election/Vote", "<init>", "(JJJ)V"⟩ : MethodName)) rfl hown (mvT hZ (hw _ (List.mem_of_getElem? (i := 9) rfl))) (mvT hZ (hw _ (List.mem_of_getElem? (i := 10) rfl))) (mvT hZ (hw _ (List.mem_of_getElem? (i := 11) rfl))) (by decide) (backOf (W := 1) (rm2 l Z a0 hw [] v1 e1 z1 s1 gh18 n0 Z20 A18 F_epoch_v1 F_zxid_v1 F_serverId_v1 g_v1 (own_e0 _ _ h_e1) (own_e9 _ _ h_e1) (own_z0 _ _ h_z1) (own_s0 _ _ h_s1)) hZ (hw _ (List.mem_of_getElem? (i := 11) rfl)) (hw _ (List.mem_of_getElem? (i := 8) rfl)) (by decide) (by decide)) (g := (mkF m 103 #[.val (.long qa), .second, .val (.long qb), .second, .val (.long qc), .second, .val (.long qd), .second, .val (.long qg), .second, .val (.int pf), .val (.long e1), .second, .val (.long z1), .second, .val (.long s1), .second, .val (.long e2), .second, .val (.long z2), .second, .val (.long s2), .second, .unset, .unset, .unset, .unset] [(.long s1), (.long z1), (.long e1), (.ref v1), (.ref v1)])) rfl (by rw [hml]; rfl) (Steps.refl _) (a := v1) (argsL := [(.long e1), (.long z1), (.long s1)]) (rest := [(.ref v1)]) (lenOf pd_4 rfl) rfl (by show 2 * 0 + _ ≤ _; exact Nat.le_of_eq rfl) (hb hby at_103) (fun _ _ => ⟨rfl, hE18, (by decide : 1 + 0 ≤ _), (by decide : 3 + 0 ≤ _)⟩)
    dsimp only [Pt.U, Pt.locs, Pt.cells, Pt.slots] at X21 l21 y21 z21 st21 hQ21
    subst l21 y21 z21
    obtain ⟨rfl, N21q, K21, p21_0, p21_1, p21_2, p21_3⟩ := hQ21
    have N21 := Fr.app N5 N21q
    have f22 := f19.keep K21 (allS g_v1 all0)
    have f23 := A18.keep K21
    have Z27 := Nat.le_trans Z20 K21.1
    obtain ⟨T28, gh28, X28, hE28, E28, A28, D28, -, st28⟩ := newO X21 hx hZ hown (hw _ (List.mem_of_getElem? (i := 6) rfl)) (hw _ (List.mem_of_getElem? (i := 7) rfl)) (hw _ (List.mem_of_getElem? (i := 8) rfl)) rfl (g := (mkF m 108 #[.val (.long qa), .second, .val (.long qb), .second, .val (.long qc), .second, .val (.long qd), .second, .val (.long qg), .second, .val (.int pf), .val (.long e1), .second, .val (.long z1), .second, .val (.long s1), .second, .val (.long e2), .second, .val (.long z2), .second, .val (.long s2), .second, .val (.ref v1), .unset, .unset, .unset] [])) rfl (hb hby at_108) (by decide) (by decide)
    obtain ⟨v2, g28⟩ : ∃ z, z = T21.heap.size := ⟨_, rfl⟩
    rw [← g28] at A28 D28 st28
    have ne_v1_v2 : v1 ≠ v2 := Nat.ne_of_lt (Nat.lt_of_lt_of_le p21_0.lt (Nat.le_of_eq g28.symm))
    have g_v2 : n0 ≤ v2 := Nat.le_trans Z27 (Nat.le_of_eq g28.symm)
    have f29 := f22.ext E28
    have f30 := p21_0.ext E28
    have f31 := p21_1.ext E28
    have f32 := p21_2.ext E28
    have f33 := p21_3.ext E28
    have Z34 := Nat.le_trans Z27 E28.1
    have F_epoch_v2 : Fld Z gh28 v2 "com/example/quorumvote/quorumvote/election/Vote" "epoch" "J" (.long (0 : Int64)) := D28 (Or.inr (hw _ (List.mem_of_getElem? (i := 29) rfl))) (ty := .long) (by decide)
    have F_zxid_v2 : Fld Z gh28 v2 "com/example/quorumvote/quorumvote/election/Vote" "zxid" "J" (.long (0 : Int64)) := D28 (Or.inr (hw _ (List.mem_of_getElem? (i := 31) rfl))) (ty := .long) (by decide)
    have F_serverId_v2 : Fld Z gh28 v2 "com/example/quorumvote/quorumvote/election/Vote" "serverId" "J" (.long (0 : Int64)) := D28 (Or.inr (hw _ (List.mem_of_getElem? (i := 33) rfl))) (ty := .long) (by decide)
    obtain ⟨_, _, ⟨T35, L35, k35, n35⟩, -, X35, ⟨Lc35, hQ35, l35, y35, z35⟩, st35⟩ := X28.specialBack hx (y := (⟨"com/example/quorumvote/quorumvote/election/Vote", "<init>", "(JJJ)V"⟩ : MethodName)) rfl hown (mvT hZ (hw _ (List.mem_of_getElem? (i := 9) rfl))) (mvT hZ (hw _ (List.mem_of_getElem? (i := 10) rfl))) (mvT hZ (hw _ (List.mem_of_getElem? (i := 11) rfl))) (by decide) (backOf (W := 1) (rm2 l Z a0 hw [] v2 e2 z2 s2 gh28 n0 Z34 A28 F_epoch_v2 F_zxid_v2 F_serverId_v2 g_v2 (own_e20 _ _ _ _ _ h_e1 h_e2) (own_e29 _ _ _ _ _ h_e1 h_e2) (own_z20 _ _ _ _ _ h_z1 h_z2) (by first | exact own_s0 _ _ (h_s2.trans h_s1) | exact own_s0 _ _ h_s2)) hZ (hw _ (List.mem_of_getElem? (i := 11) rfl)) (hw _ (List.mem_of_getElem? (i := 8) rfl)) (by decide) (by decide)) (g := (mkF m 118 #[.val (.long qa), .second, .val (.long qb), .second, .val (.long qc), .second, .val (.long qd), .second, .val (.long qg), .second, .val (.int pf), .val (.long e1), .second, .val (.long z1), .second, .val (.long s1), .second, .val (.long e2), .second, .val (.long z2), .second, .val (.long s2), .second, .val (.ref v1), .unset, .unset, .unset] [(.long s2), (.long z2), (.long e2), (.ref v2), (.ref v2)])) rfl (by rw [hml]; rfl) (Steps.refl _) (a := v2) (argsL := [(.long e2), (.long z2), (.long s2)]) (rest := [(.ref v2)]) (lenOf pd_4 rfl) rfl (by show 2 * 0 + _ ≤ _; exact Nat.le_of_eq rfl) (hb hby at_118) (fun _ _ => ⟨rfl, hE28, (by decide : 2 + 0 ≤ _), (by decide : 6 + 0 ≤ _)⟩)
    dsimp only [Pt.U, Pt.locs, Pt.cells, Pt.slots] at X35 l35 y35 z35 st35 hQ35
    subst l35 y35 z35
    obtain ⟨rfl, N35q, K35, p35_0, p35_1, p35_2, p35_3⟩ := hQ35
    have N35 := Fr.app N21 N35q
    have f36 := f29.keep K35 (allS g_v2 all0)
    have f37 := f30.keep K35
    have f38 := f31.keep K35 (ninS ne_v1_v2 nin0)
    have f39 := f32.keep K35 (ninS ne_v1_v2 nin0)
    have f40 := f33.keep K35 (ninS ne_v1_v2 nin0)
    have f41 := A28.keep K35
    have Z45 := Nat.le_trans Z34 K35.1
    have pre46 : ∀ t, Steps p.tables e below (T35.setTop (mkF m 129 #[.val (.long qa), .second, .val (.long qb), .second, .val (.long qc), .second, .val (.long qd), .second, .val (.long qg), .second, .val (.int pf), .val (.long e1), .second, .val (.long z1), .second, .val (.long s1), .second, .val (.long e2), .second, .val (.long z2), .second, .val (.long s2), .second, .val (.ref v1), .val (.ref v2), .unset, .unset] [(.int (((pf.toUInt32 >>> ((3 : Int32) &&& 31).toUInt32).toInt32) &&& (3 : Int32)))])) t → Steps p.tables e below (s₁.setTop (entryFrame m #[(.long qa), (.long qb), (.long qc), (.long qd), (.long qg), (.int pf)] maxLocals)) t := by
      intro t kt
      refine pre17 _ ?_
      show Steps p.tables e below (T5.setTop (mkF m 91 #[.val (.long qa), .second, .val (.long qb), .second, .val (.long qc), .second, .val (.long qd), .second, .val (.long qg), .second, .val (.int pf), .val (.long e1), .second, .val (.long z1), .second, .val (.long s1), .second, .val (.long e2), .second, .val (.long z2), .second, .unset, .unset, .unset, .unset, .unset, .unset] [(.long s2)])) _
      refine XS.lstore X5.here hx rfl (hb hby at_91) rfl (l' := #[.val (.long qa), .second, .val (.long qb), .second, .val (.long qc), .second, .val (.long qd), .second, .val (.long qg), .second, .val (.int pf), .val (.long e1), .second, .val (.long z1), .second, .val (.long s1), .second, .val (.long e2), .second, .val (.long z2), .second, .val (.long s2), .second, .unset, .unset, .unset, .unset]) rfl ?_
      show Steps p.tables e below (T5.setTop (mkF m 93 #[.val (.long qa), .second, .val (.long qb), .second, .val (.long qc), .second, .val (.long qd), .second, .val (.long qg), .second, .val (.int pf), .val (.long e1), .second, .val (.long z1), .second, .val (.long s1), .second, .val (.long e2), .second, .val (.long z2), .second, .val (.long s2), .second, .unset, .unset, .unset, .unset] [])) _
      refine st18 _ ?_
      show Steps p.tables e below (T18.setTop (mkF m 96 #[.val (.long qa), .second, .val (.long qb), .second, .val (.long qc), .second, .val (.long qd), .second, .val (.long qg), .second, .val (.int pf), .val (.long e1), .second, .val (.long z1), .second, .val (.long s1), .second, .val (.long e2), .second, .val (.long z2), .second, .val (.long s2), .second, .unset, .unset, .unset, .unset] [(.ref v1)])) _
      refine XS.dup X18.here hx rfl (hb hby at_96) rfl rfl ?_
      show Steps p.tables e below (T18.setTop (mkF m 97 #[.val (.long qa), .second, .val (.long qb), .second, .val (.long qc), .second, .val (.long qd), .second, .val (.long qg), .second, .val (.int pf), .val (.long e1), .second, .val (.long z1), .second, .val (.long s1), .second, .val (.long e2), .second, .val (.long z2), .second, .val (.long s2), .second, .unset, .unset, .unset, .unset] [(.ref v1), (.ref v1)])) _
      refine XS.lload X18.here hx rfl (hb hby at_97) rfl ?_
      show Steps p.tables e below (T18.setTop (mkF m 99 #[.val (.long qa), .second, .val (.long qb), .second, .val (.long qc), .second, .val (.long qd), .second, .val (.long qg), .second, .val (.int pf), .val (.long e1), .second, .val (.long z1), .second, .val (.long s1), .second, .val (.long e2), .second, .val (.long z2), .second, .val (.long s2), .second, .unset, .unset, .unset, .unset] [(.long e1), (.ref v1), (.ref v1)])) _
      refine XS.lload X18.here hx rfl (hb hby at_99) rfl ?_
      show Steps p.tables e below (T18.setTop (mkF m 101 #[.val (.long qa), .second, .val (.long qb), .second, .val (.long qc), .second, .val (.long qd), .second, .val (.long qg), .second, .val (.int pf), .val (.long e1), .second, .val (.long z1), .second, .val (.long s1), .second, .val (.long e2), .second, .val (.long z2), .second, .val (.long s2), .second, .unset, .unset, .unset, .unset] [(.long z1), (.long e1), (.ref v1), (.ref v1)])) _
      refine XS.lload X18.here hx rfl (hb hby at_101) rfl ?_
      show Steps p.tables e below (T18.setTop (mkF m 103 #[.val (.long qa), .second, .val (.long qb), .second, .val (.long qc), .second, .val (.long qd), .second, .val (.long qg), .second, .val (.int pf), .val (.long e1), .second, .val (.long z1), .second, .val (.long s1), .second, .val (.long e2), .second, .val (.long z2), .second, .val (.long s2), .second, .unset, .unset, .unset, .unset] [(.long s1), (.long z1), (.long e1), (.ref v1), (.ref v1)])) _
      refine st21.trans ?_
      show Steps p.tables e below (T21.setTop (mkF m 106 #[.val (.long qa), .second, .val (.long qb), .second, .val (.long qc), .second, .val (.long qd), .second, .val (.long qg), .second, .val (.int pf), .val (.long e1), .second, .val (.long z1), .second, .val (.long s1), .second, .val (.long e2), .second, .val (.long z2), .second, .val (.long s2), .second, .unset, .unset, .unset, .unset] [(.ref v1)])) _
      refine XS.astore X21.here hx rfl (hb hby at_106) rfl rfl (l' := #[.val (.long qa), .second, .val (.long qb), .second, .val (.long qc), .second, .val (.long qd), .second, .val (.long qg), .second, .val (.int pf), .val (.long e1), .second, .val (.long z1), .second, .val (.long s1), .second, .val (.long e2), .second, .val (.long z2), .second, .val (.long s2), .second, .val (.ref v1), .unset, .unset, .unset]) rfl ?_
      show Steps p.tables e below (T21.setTop (mkF m 108 #[.val (.long qa), .second, .val (.long qb), .second, .val (.long qc), .second, .val (.long qd), .second, .val (.long qg), .second, .val (.int pf), .val (.long e1), .second, .val (.long z1), .second, .val (.long s1), .second, .val (.long e2), .second, .val (.long z2), .second, .val (.long s2), .second, .val (.ref v1), .unset, .unset, .unset] [])) _
      refine st28 _ ?_
      show Steps p.tables e below (T28.setTop (mkF m 111 #[.val (.long qa), .second, .val (.long qb), .second, .val (.long qc), .second, .val (.long qd), .second, .val (.long qg), .second, .val (.int pf), .val (.long e1), .second, .val (.long z1), .second, .val (.long s1), .second, .val (.long e2), .second, .val (.long z2), .second, .val (.long s2), .second, .val (.ref v1), .unset, .unset, .unset] [(.ref v2)])) _
      refine XS.dup X28.here hx rfl (hb hby at_111) rfl rfl ?_
      show Steps p.tables e below (T28.setTop (mkF m 112 #[.val (.long qa), .second, .val (.long qb), .second, .val (.long qc), .second, .val (.long qd), .second, .val (.long qg), .second, .val (.int pf), .val (.long e1), .second, .val (.long z1), .second, .val (.long s1), .second, .val (.long e2), .second, .val (.long z2), .second, .val (.long s2), .second, .val (.ref v1), .unset, .unset, .unset] [(.ref v2), (.ref v2)])) _
      refine XS.lload X28.here hx rfl (hb hby at_112) rfl ?_
      show Steps p.tables e below (T28.setTop (mkF m 114 #[.val (.long qa), .second, .val (.long qb), .second, .val (.long qc), .second, .val (.long qd), .second, .val (.long qg), .second, .val (.int pf), .val (.long e1), .second, .val (.long z1), .second, .val (.long s1), .second, .val (.long e2), .second, .val (.long z2), .second, .val (.long s2), .second, .val (.ref v1), .unset, .unset, .unset] [(.long e2), (.ref v2), (.ref v2)])) _
      refine XS.lload X28.here hx rfl (hb hby at_114) rfl ?_
      show Steps p.tables e below (T28.setTop (mkF m 116 #[.val (.long qa), .second, .val (.long qb), .second, .val (.long qc), .second, .val (.long qd), .second, .val (.long qg), .second, .val (.int pf), .val (.long e1), .second, .val (.long z1), .second, .val (.long s1), .second, .val (.long e2), .second, .val (.long z2), .second, .val (.long s2), .second, .val (.ref v1), .unset, .unset, .unset] [(.long z2), (.long e2), (.ref v2), (.ref v2)])) _
      refine XS.lload X28.here hx rfl (hb hby at_116) rfl ?_
      show Steps p.tables e below (T28.setTop (mkF m 118 #[.val (.long qa), .second, .val (.long qb), .second, .val (.long qc), .second, .val (.long qd), .second, .val (.long qg), .second, .val (.int pf), .val (.long e1), .second, .val (.long z1), .second, .val (.long s1), .second, .val (.long e2), .second, .val (.long z2), .second, .val (.long s2), .second, .val (.ref v1), .unset, .unset, .unset] [(.long s2), (.long z2), (.long e2), (.ref v2), (.ref v2)])) _
      refine st35.trans ?_
      show Steps p.tables e below (T35.setTop (mkF m 121 #[.val (.long qa), .second, .val (.long qb), .second, .val (.long qc), .second, .val (.long qd), .second, .val (.long qg), .second, .val (.int pf), .val (.long e1), .second, .val (.long z1), .second, .val (.long s1), .second, .val (.long e2), .second, .val (.long z2), .second, .val (.long s2), .second, .val (.ref v1), .unset, .unset, .unset] [(.ref v2)])) _
      refine XS.astore X35.here hx rfl (hb hby at_121) rfl rfl (l' := #[.val (.long qa), .second, .val (.long qb), .second, .val (.long qc), .second, .val (.long qd), .second, .val (.long qg), .second, .val (.int pf), .val (.long e1), .second, .val (.long z1), .second, .val (.long s1), .second, .val (.long e2), .second, .val (.long z2), .second, .val (.long s2), .second, .val (.ref v1), .val (.ref v2), .unset, .unset]) rfl ?_
      show Steps p.tables e below (T35.setTop (mkF m 123 #[.val (.long qa), .second, .val (.long qb), .second, .val (.long qc), .second, .val (.long qd), .second, .val (.long qg), .second, .val (.int pf), .val (.long e1), .second, .val (.long z1), .second, .val (.long s1), .second, .val (.long e2), .second, .val (.long z2), .second, .val (.long s2), .second, .val (.ref v1), .val (.ref v2), .unset, .unset] [])) _
      refine XS.iload X35.here hx rfl (hb hby at_123) rfl ?_
      show Steps p.tables e below (T35.setTop (mkF m 125 #[.val (.long qa), .second, .val (.long qb), .second, .val (.long qc), .second, .val (.long qd), .second, .val (.long qg), .second, .val (.int pf), .val (.long e1), .second, .val (.long z1), .second, .val (.long s1), .second, .val (.long e2), .second, .val (.long z2), .second, .val (.long s2), .second, .val (.ref v1), .val (.ref v2), .unset, .unset] [(.int pf)])) _
      refine XS.iconst X35.here hx rfl (hb hby at_125) ?_
      show Steps p.tables e below (T35.setTop (mkF m 126 #[.val (.long qa), .second, .val (.long qb), .second, .val (.long qc), .second, .val (.long qd), .second, .val (.long qg), .second, .val (.int pf), .val (.long e1), .second, .val (.long z1), .second, .val (.long s1), .second, .val (.long e2), .second, .val (.long z2), .second, .val (.long s2), .second, .val (.ref v1), .val (.ref v2), .unset, .unset] [(.int (3 : Int32)), (.int pf)])) _
      refine XS.iushr X35.here hx rfl (hb hby at_126) rfl ?_
      show Steps p.tables e below (T35.setTop (mkF m 127 #[.val (.long qa), .second, .val (.long qb), .second, .val (.long qc), .second, .val (.long qd), .second, .val (.long qg), .second, .val (.int pf), .val (.long e1), .second, .val (.long z1), .second, .val (.long s1), .second, .val (.long e2), .second, .val (.long z2), .second, .val (.long s2), .second, .val (.ref v1), .val (.ref v2), .unset, .unset] [(.int ((pf.toUInt32 >>> ((3 : Int32) &&& 31).toUInt32).toInt32))])) _
      refine XS.iconst X35.here hx rfl (hb hby at_127) ?_
      show Steps p.tables e below (T35.setTop (mkF m 128 #[.val (.long qa), .second, .val (.long qb), .second, .val (.long qc), .second, .val (.long qd), .second, .val (.long qg), .second, .val (.int pf), .val (.long e1), .second, .val (.long z1), .second, .val (.long s1), .second, .val (.long e2), .second, .val (.long z2), .second, .val (.long s2), .second, .val (.ref v1), .val (.ref v2), .unset, .unset] [(.int (3 : Int32)), (.int ((pf.toUInt32 >>> ((3 : Int32) &&& 31).toUInt32).toInt32))])) _
      refine XS.iand X35.here hx rfl (hb hby at_128) rfl ?_
      exact kt
    obtain ⟨mo, h_mo⟩ : ∃ z : Int32, z = (((pf.toUInt32 >>> ((3 : Int32) &&& 31).toUInt32).toInt32) &&& (3 : Int32)) := ⟨_, rfl⟩
    have pre47 : ∀ t, Steps p.tables e below (T35.setTop (mkF m 129 #[.val (.long qa), .second, .val (.long qb), .second, .val (.long qc), .second, .val (.long qd), .second, .val (.long qg), .second, .val (.int pf), .val (.long e1), .second, .val (.long z1), .second, .val (.long s1), .second, .val (.long e2), .second, .val (.long z2), .second, .val (.long s2), .second, .val (.ref v1), .val (.ref v2), .unset, .unset] [(.int mo)])) t → Steps p.tables e below (s₁.setTop (entryFrame m #[(.long qa), (.long qb), (.long qc), (.long qd), (.long qg), (.int pf)] maxLocals)) t := by
      intro t kt
      rw [h_mo] at kt
      exact pre46 _ kt
    have pre48 : ∀ t, Steps p.tables e below (T35.setTop (mkF m 133 #[.val (.long qa), .second, .val (.long qb), .second, .val (.long qc), .second, .val (.long qd), .second, .val (.long qg), .second, .val (.int pf), .val (.long e1), .second, .val (.long z1), .second, .val (.long s1), .second, .val (.long e2), .second, .val (.long z2), .second, .val (.long s2), .second, .val (.ref v1), .val (.ref v2), .val (.int mo), .unset] [(.int mo)])) t → Steps p.tables e below (s₁.setTop (entryFrame m #[(.long qa), (.long qb), (.long qc), (.long qd), (.long qg), (.int pf)] maxLocals)) t := by
      intro t kt
      refine pre47 _ ?_
      show Steps p.tables e below (T35.setTop (mkF m 129 #[.val (.long qa), .second, .val (.long qb), .second, .val (.long qc), .second, .val (.long qd), .second, .val (.long qg), .second, .val (.int pf), .val (.long e1), .second, .val (.long z1), .second, .val (.long s1), .second, .val (.long e2), .second, .val (.long z2), .second, .val (.long s2), .second, .val (.ref v1), .val (.ref v2), .unset, .unset] [(.int mo)])) _
      refine XS.istore X35.here hx rfl (hb hby at_129) rfl (l' := #[.val (.long qa), .second, .val (.long qb), .second, .val (.long qc), .second, .val (.long qd), .second, .val (.long qg), .second, .val (.int pf), .val (.long e1), .second, .val (.long z1), .second, .val (.long s1), .second, .val (.long e2), .second, .val (.long z2), .second, .val (.long s2), .second, .val (.ref v1), .val (.ref v2), .val (.int mo), .unset]) rfl ?_
      show Steps p.tables e below (T35.setTop (mkF m 131 #[.val (.long qa), .second, .val (.long qb), .second, .val (.long qc), .second, .val (.long qd), .second, .val (.long qg), .second, .val (.int pf), .val (.long e1), .second, .val (.long z1), .second, .val (.long s1), .second, .val (.long e2), .second, .val (.long z2), .second, .val (.long s2), .second, .val (.ref v1), .val (.ref v2), .val (.int mo), .unset] [])) _
      refine XS.iload X35.here hx rfl (hb hby at_131) rfl ?_
      exact kt
    by_cases hc133_49 : mo = (0 : Int32)
    · skip
      have pre50 : ∀ t, Steps p.tables e below (T35.setTop (mkF m 141 #[.val (.long qa), .second, .val (.long qb), .second, .val (.long qc), .second, .val (.long qd), .second, .val (.long qg), .second, .val (.int pf), .val (.long e1), .second, .val (.long z1), .second, .val (.long s1), .second, .val (.long e2), .second, .val (.long z2), .second, .val (.long s2), .second, .val (.ref v1), .val (.ref v2), .val (.int mo), .unset] [(.int (XT.cmpL e1 e2))])) t → Steps p.tables e below (s₁.setTop (entryFrame m #[(.long qa), (.long qb), (.long qc), (.long qd), (.long qg), (.int pf)] maxLocals)) t := by
        intro t kt
        refine pre48 _ ?_
        show Steps p.tables e below (T35.setTop (mkF m 133 #[.val (.long qa), .second, .val (.long qb), .second, .val (.long qc), .second, .val (.long qd), .second, .val (.long qg), .second, .val (.int pf), .val (.long e1), .second, .val (.long z1), .second, .val (.long s1), .second, .val (.long e2), .second, .val (.long z2), .second, .val (.long s2), .second, .val (.ref v1), .val (.ref v2), .val (.int mo), .unset] [(.int mo)])) _
        refine XS.ifNo X35.here hx rfl (hb hby at_133) rfl (XT.i0_ne_f hc133_49) ?_
        show Steps p.tables e below (T35.setTop (mkF m 136 #[.val (.long qa), .second, .val (.long qb), .second, .val (.long qc), .second, .val (.long qd), .second, .val (.long qg), .second, .val (.int pf), .val (.long e1), .second, .val (.long z1), .second, .val (.long s1), .second, .val (.long e2), .second, .val (.long z2), .second, .val (.long s2), .second, .val (.ref v1), .val (.ref v2), .val (.int mo), .unset] [])) _
        refine XS.lload X35.here hx rfl (hb hby at_136) rfl ?_
        show Steps p.tables e below (T35.setTop (mkF m 138 #[.val (.long qa), .second, .val (.long qb), .second, .val (.long qc), .second, .val (.long qd), .second, .val (.long qg), .second, .val (.int pf), .val (.long e1), .second, .val (.long z1), .second, .val (.long s1), .second, .val (.long e2), .second, .val (.long z2), .second, .val (.long s2), .second, .val (.ref v1), .val (.ref v2), .val (.int mo), .unset] [(.long e1)])) _
        refine XS.lload X35.here hx rfl (hb hby at_138) rfl ?_
        show Steps p.tables e below (T35.setTop (mkF m 140 #[.val (.long qa), .second, .val (.long qb), .second, .val (.long qc), .second, .val (.long qd), .second, .val (.long qg), .second, .val (.int pf), .val (.long e1), .second, .val (.long z1), .second, .val (.long s1), .second, .val (.long e2), .second, .val (.long z2), .second, .val (.long s2), .second, .val (.ref v1), .val (.ref v2), .val (.int mo), .unset] [(.long e2), (.long e1)])) _
        refine XT.lcmp X35.here hx rfl (hb hby at_140) rfl ?_
        exact kt
      obtain ⟨ex, h_ex⟩ : ∃ z : Int32, z = (if e1 = e2 then (if z1 = z2 then (if s1 = s2 then (1 : Int32) else (0 : Int32)) else (0 : Int32)) else (0 : Int32)) := ⟨_, rfl⟩
      have pre54 : ∀ t, Steps p.tables e below (T35.setTop (mkF m 165 #[.val (.long qa), .second, .val (.long qb), .second, .val (.long qc), .second, .val (.long qd), .second, .val (.long qg), .second, .val (.int pf), .val (.long e1), .second, .val (.long z1), .second, .val (.long s1), .second, .val (.long e2), .second, .val (.long z2), .second, .val (.long s2), .second, .val (.ref v1), .val (.ref v2), .val (.int mo), .unset] [(.int ex)])) t → Steps p.tables e below (s₁.setTop (entryFrame m #[(.long qa), (.long qb), (.long qc), (.long qd), (.long qg), (.int pf)] maxLocals)) t := by
        intro t kt
        refine pre50 _ ?_
        by_cases hc141_51 : e1 = e2
        · skip
          show Steps p.tables e below (T35.setTop (mkF m 141 #[.val (.long qa), .second, .val (.long qb), .second, .val (.long qc), .second, .val (.long qd), .second, .val (.long qg), .second, .val (.int pf), .val (.long e1), .second, .val (.long z1), .second, .val (.long s1), .second, .val (.long e2), .second, .val (.long z2), .second, .val (.long s2), .second, .val (.ref v1), .val (.ref v2), .val (.int mo), .unset] [(.int (XT.cmpL e1 e2))])) _
          refine XS.ifNo X35.here hx rfl (hb hby at_141) rfl (XT.ll_ne_f hc141_51) ?_
          show Steps p.tables e below (T35.setTop (mkF m 144 #[.val (.long qa), .second, .val (.long qb), .second, .val (.long qc), .second, .val (.long qd), .second, .val (.long qg), .second, .val (.int pf), .val (.long e1), .second, .val (.long z1), .second, .val (.long s1), .second, .val (.long e2), .second, .val (.long z2), .second, .val (.long s2), .second, .val (.ref v1), .val (.ref v2), .val (.int mo), .unset] [])) _
          refine XS.lload X35.here hx rfl (hb hby at_144) rfl ?_
          show Steps p.tables e below (T35.setTop (mkF m 146 #[.val (.long qa), .second, .val (.long qb), .second, .val (.long qc), .second, .val (.long qd), .second, .val (.long qg), .second, .val (.int pf), .val (.long e1), .second, .val (.long z1), .second, .val (.long s1), .second, .val (.long e2), .second, .val (.long z2), .second, .val (.long s2), .second, .val (.ref v1), .val (.ref v2), .val (.int mo), .unset] [(.long z1)])) _
          refine XS.lload X35.here hx rfl (hb hby at_146) rfl ?_
          show Steps p.tables e below (T35.setTop (mkF m 148 #[.val (.long qa), .second, .val (.long qb), .second, .val (.long qc), .second, .val (.long qd), .second, .val (.long qg), .second, .val (.int pf), .val (.long e1), .second, .val (.long z1), .second, .val (.long s1), .second, .val (.long e2), .second, .val (.long z2), .second, .val (.long s2), .second, .val (.ref v1), .val (.ref v2), .val (.int mo), .unset] [(.long z2), (.long z1)])) _
          refine XT.lcmp X35.here hx rfl (hb hby at_148) rfl ?_
          by_cases hc149_52 : z1 = z2
          · skip
            show Steps p.tables e below (T35.setTop (mkF m 149 #[.val (.long qa), .second, .val (.long qb), .second, .val (.long qc), .second, .val (.long qd), .second, .val (.long qg), .second, .val (.int pf), .val (.long e1), .second, .val (.long z1), .second, .val (.long s1), .second, .val (.long e2), .second, .val (.long z2), .second, .val (.long s2), .second, .val (.ref v1), .val (.ref v2), .val (.int mo), .unset] [(.int (XT.cmpL z1 z2))])) _
            refine XS.ifNo X35.here hx rfl (hb hby at_149) rfl (XT.ll_ne_f hc149_52) ?_
            show Steps p.tables e below (T35.setTop (mkF m 152 #[.val (.long qa), .second, .val (.long qb), .second, .val (.long qc), .second, .val (.long qd), .second, .val (.long qg), .second, .val (.int pf), .val (.long e1), .second, .val (.long z1), .second, .val (.long s1), .second, .val (.long e2), .second, .val (.long z2), .second, .val (.long s2), .second, .val (.ref v1), .val (.ref v2), .val (.int mo), .unset] [])) _
            refine XS.lload X35.here hx rfl (hb hby at_152) rfl ?_
            show Steps p.tables e below (T35.setTop (mkF m 154 #[.val (.long qa), .second, .val (.long qb), .second, .val (.long qc), .second, .val (.long qd), .second, .val (.long qg), .second, .val (.int pf), .val (.long e1), .second, .val (.long z1), .second, .val (.long s1), .second, .val (.long e2), .second, .val (.long z2), .second, .val (.long s2), .second, .val (.ref v1), .val (.ref v2), .val (.int mo), .unset] [(.long s1)])) _
            refine XS.lload X35.here hx rfl (hb hby at_154) rfl ?_
            show Steps p.tables e below (T35.setTop (mkF m 156 #[.val (.long qa), .second, .val (.long qb), .second, .val (.long qc), .second, .val (.long qd), .second, .val (.long qg), .second, .val (.int pf), .val (.long e1), .second, .val (.long z1), .second, .val (.long s1), .second, .val (.long e2), .second, .val (.long z2), .second, .val (.long s2), .second, .val (.ref v1), .val (.ref v2), .val (.int mo), .unset] [(.long s2), (.long s1)])) _
            refine XT.lcmp X35.here hx rfl (hb hby at_156) rfl ?_
            by_cases hc157_53 : s1 = s2
            · skip
              have q_ex : ex = (1 : Int32) := by rw [h_ex, if_pos hc141_51, if_pos hc149_52, if_pos hc157_53]
              rw [q_ex] at kt
              show Steps p.tables e below (T35.setTop (mkF m 157 #[.val (.long qa), .second, .val (.long qb), .second, .val (.long qc), .second, .val (.long qd), .second, .val (.long qg), .second, .val (.int pf), .val (.long e1), .second, .val (.long z1), .second, .val (.long s1), .second, .val (.long e2), .second, .val (.long z2), .second, .val (.long s2), .second, .val (.ref v1), .val (.ref v2), .val (.int mo), .unset] [(.int (XT.cmpL s1 s2))])) _
              refine XS.ifNo X35.here hx rfl (hb hby at_157) rfl (XT.ll_ne_f hc157_53) ?_
              show Steps p.tables e below (T35.setTop (mkF m 160 #[.val (.long qa), .second, .val (.long qb), .second, .val (.long qc), .second, .val (.long qd), .second, .val (.long qg), .second, .val (.int pf), .val (.long e1), .second, .val (.long z1), .second, .val (.long s1), .second, .val (.long e2), .second, .val (.long z2), .second, .val (.long s2), .second, .val (.ref v1), .val (.ref v2), .val (.int mo), .unset] [])) _
              refine XS.iconst X35.here hx rfl (hb hby at_160) ?_
              show Steps p.tables e below (T35.setTop (mkF m 161 #[.val (.long qa), .second, .val (.long qb), .second, .val (.long qc), .second, .val (.long qd), .second, .val (.long qg), .second, .val (.int pf), .val (.long e1), .second, .val (.long z1), .second, .val (.long s1), .second, .val (.long e2), .second, .val (.long z2), .second, .val (.long s2), .second, .val (.ref v1), .val (.ref v2), .val (.int mo), .unset] [(.int (1 : Int32))])) _
              refine XS.goto X35.here hx rfl (pc0 := 161) (pc' := 165) rfl (hb hby at_161) (by decide) (by decide) ?_
              exact kt
            · skip
              have q_ex : ex = (0 : Int32) := by rw [h_ex, if_pos hc141_51, if_pos hc149_52, if_neg hc157_53]
              rw [q_ex] at kt
              show Steps p.tables e below (T35.setTop (mkF m 157 #[.val (.long qa), .second, .val (.long qb), .second, .val (.long qc), .second, .val (.long qd), .second, .val (.long qg), .second, .val (.int pf), .val (.long e1), .second, .val (.long z1), .second, .val (.long s1), .second, .val (.long e2), .second, .val (.long z2), .second, .val (.long s2), .second, .val (.ref v1), .val (.ref v2), .val (.int mo), .unset] [(.int (XT.cmpL s1 s2))])) _
              refine XS.ifYes X35.here hx rfl (pc0 := 157) (pc' := 164) rfl (hb hby at_157) rfl (XT.ll_ne_t hc157_53) (by decide) (by decide) ?_
              show Steps p.tables e below (T35.setTop (mkF m 164 #[.val (.long qa), .second, .val (.long qb), .second, .val (.long qc), .second, .val (.long qd), .second, .val (.long qg), .second, .val (.int pf), .val (.long e1), .second, .val (.long z1), .second, .val (.long s1), .second, .val (.long e2), .second, .val (.long z2), .second, .val (.long s2), .second, .val (.ref v1), .val (.ref v2), .val (.int mo), .unset] [])) _
              refine XS.iconst X35.here hx rfl (hb hby at_164) ?_
              exact kt
          · skip
            have q_ex : ex = (0 : Int32) := by rw [h_ex, if_pos hc141_51, if_neg hc149_52]
            rw [q_ex] at kt
            show Steps p.tables e below (T35.setTop (mkF m 149 #[.val (.long qa), .second, .val (.long qb), .second, .val (.long qc), .second, .val (.long qd), .second, .val (.long qg), .second, .val (.int pf), .val (.long e1), .second, .val (.long z1), .second, .val (.long s1), .second, .val (.long e2), .second, .val (.long z2), .second, .val (.long s2), .second, .val (.ref v1), .val (.ref v2), .val (.int mo), .unset] [(.int (XT.cmpL z1 z2))])) _
            refine XS.ifYes X35.here hx rfl (pc0 := 149) (pc' := 164) rfl (hb hby at_149) rfl (XT.ll_ne_t hc149_52) (by decide) (by decide) ?_
            show Steps p.tables e below (T35.setTop (mkF m 164 #[.val (.long qa), .second, .val (.long qb), .second, .val (.long qc), .second, .val (.long qd), .second, .val (.long qg), .second, .val (.int pf), .val (.long e1), .second, .val (.long z1), .second, .val (.long s1), .second, .val (.long e2), .second, .val (.long z2), .second, .val (.long s2), .second, .val (.ref v1), .val (.ref v2), .val (.int mo), .unset] [])) _
            refine XS.iconst X35.here hx rfl (hb hby at_164) ?_
            exact kt
        · skip
          have q_ex : ex = (0 : Int32) := by rw [h_ex, if_neg hc141_51]
          rw [q_ex] at kt
          show Steps p.tables e below (T35.setTop (mkF m 141 #[.val (.long qa), .second, .val (.long qb), .second, .val (.long qc), .second, .val (.long qd), .second, .val (.long qg), .second, .val (.int pf), .val (.long e1), .second, .val (.long z1), .second, .val (.long s1), .second, .val (.long e2), .second, .val (.long z2), .second, .val (.long s2), .second, .val (.ref v1), .val (.ref v2), .val (.int mo), .unset] [(.int (XT.cmpL e1 e2))])) _
          refine XS.ifYes X35.here hx rfl (pc0 := 141) (pc' := 164) rfl (hb hby at_141) rfl (XT.ll_ne_t hc141_51) (by decide) (by decide) ?_
          show Steps p.tables e below (T35.setTop (mkF m 164 #[.val (.long qa), .second, .val (.long qb), .second, .val (.long qc), .second, .val (.long qd), .second, .val (.long qg), .second, .val (.int pf), .val (.long e1), .second, .val (.long z1), .second, .val (.long s1), .second, .val (.long e2), .second, .val (.long z2), .second, .val (.long s2), .second, .val (.ref v1), .val (.ref v2), .val (.int mo), .unset] [])) _
          refine XS.iconst X35.here hx rfl (hb hby at_164) ?_
          exact kt
      obtain ⟨cq55, kq55, q55a, q55b, q55c⟩ := isOf hZ rfl f37
      obtain ⟨_, _, ⟨T55, L55, k55, n55⟩, -, X55, ⟨Lc55, hQ55, l55, y55, z55⟩, st55⟩ := X35.virtualBack hx (y := (⟨"com/example/quorumvote/quorumvote/election/Vote", "equals", "(Ljava/lang/Object;)Z"⟩ : MethodName)) (z := (⟨"com/example/quorumvote/quorumvote/election/Vote", "equals", "(Ljava/lang/Object;)Z"⟩ : MethodName)) hown (mvT hZ (hw _ (List.mem_of_getElem? (i := 34) rfl))) (mvT hZ (hw _ (List.mem_of_getElem? (i := 35) rfl))) (notFace_of_selects (args := #[]) (mvT hZ (hw _ (List.mem_of_getElem? (i := 37) rfl)))) (mvT hZ (hw _ (List.mem_of_getElem? (i := 37) rfl))) (mvT hZ (hw _ (List.mem_of_getElem? (i := 36) rfl))) (by decide) (backOf (W := 0) (rm7v l Z a0 hw [] v1 v2 e1 z1 s1 e2 z2 s2 T35.heap n0 Z45 p35_0 f38 f39 f40 p35_1 p35_2 p35_3) hZ (hw _ (List.mem_of_getElem? (i := 38) rfl)) (hw _ (List.mem_of_getElem? (i := 8) rfl)) (by decide) (by decide)) q55a q55c (g := (mkF m 171 #[.val (.long qa), .second, .val (.long qb), .second, .val (.long qc), .second, .val (.long qd), .second, .val (.long qg), .second, .val (.int pf), .val (.long e1), .second, .val (.long z1), .second, .val (.long s1), .second, .val (.long e2), .second, .val (.long z2), .second, .val (.long s2), .second, .val (.ref v1), .val (.ref v2), .val (.int mo), .val (.int ex)] [(.ref v2), (.ref v1)])) rfl (by rw [hml]; rfl) (Steps.refl _) (argsL := [(.ref v2)]) (rest := []) (lenOf pd_5 rfl) rfl (by show 2 * 0 + _ ≤ _; exact Nat.le_of_eq rfl) (hb hby at_171) (fun _ _ => ⟨rfl, rfl, (by decide : 2 + 0 ≤ _), (by decide : 6 + 0 ≤ _)⟩)
      dsimp only [Pt.U, Pt.locs, Pt.cells, Pt.slots] at X55 l55 y55 z55 st55 hQ55
      subst l55 y55 z55
      obtain ⟨rfl, N55q, hE55⟩ := hQ55
      have N55 := Fr.app N35 N55q
      have pre56 : ∀ t, Steps p.tables e below (T55.setTop (mkF m 176 #[.val (.long qa), .second, .val (.long qb), .second, .val (.long qc), .second, .val (.long qd), .second, .val (.long qg), .second, .val (.int pf), .val (.long e1), .second, .val (.long z1), .second, .val (.long s1), .second, .val (.long e2), .second, .val (.long z2), .second, .val (.long s2), .second, .val (.ref v1), .val (.ref v2), .val (.int mo), .val (.int ex)] [(.int ex), (.int (fn7v v1 v2 e1 z1 s1 e2 z2 s2))])) t → Steps p.tables e below (s₁.setTop (entryFrame m #[(.long qa), (.long qb), (.long qc), (.long qd), (.long qg), (.int pf)] maxLocals)) t := by
        intro t kt
        refine pre54 _ ?_
        show Steps p.tables e below (T35.setTop (mkF m 165 #[.val (.long qa), .second, .val (.long qb), .second, .val (.long qc), .second, .val (.long qd), .second, .val (.long qg), .second, .val (.int pf), .val (.long e1), .second, .val (.long z1), .second, .val (.long s1), .second, .val (.long e2), .second, .val (.long z2), .second, .val (.long s2), .second, .val (.ref v1), .val (.ref v2), .val (.int mo), .unset] [(.int ex)])) _
        refine XS.istore X35.here hx rfl (hb hby at_165) rfl (l' := #[.val (.long qa), .second, .val (.long qb), .second, .val (.long qc), .second, .val (.long qd), .second, .val (.long qg), .second, .val (.int pf), .val (.long e1), .second, .val (.long z1), .second, .val (.long s1), .second, .val (.long e2), .second, .val (.long z2), .second, .val (.long s2), .second, .val (.ref v1), .val (.ref v2), .val (.int mo), .val (.int ex)]) rfl ?_
        show Steps p.tables e below (T35.setTop (mkF m 167 #[.val (.long qa), .second, .val (.long qb), .second, .val (.long qc), .second, .val (.long qd), .second, .val (.long qg), .second, .val (.int pf), .val (.long e1), .second, .val (.long z1), .second, .val (.long s1), .second, .val (.long e2), .second, .val (.long z2), .second, .val (.long s2), .second, .val (.ref v1), .val (.ref v2), .val (.int mo), .val (.int ex)] [])) _
        refine XS.aload X35.here hx rfl (hb hby at_167) rfl rfl ?_
        show Steps p.tables e below (T35.setTop (mkF m 169 #[.val (.long qa), .second, .val (.long qb), .second, .val (.long qc), .second, .val (.long qd), .second, .val (.long qg), .second, .val (.int pf), .val (.long e1), .second, .val (.long z1), .second, .val (.long s1), .second, .val (.long e2), .second, .val (.long z2), .second, .val (.long s2), .second, .val (.ref v1), .val (.ref v2), .val (.int mo), .val (.int ex)] [(.ref v1)])) _
        refine XS.aload X35.here hx rfl (hb hby at_169) rfl rfl ?_
        show Steps p.tables e below (T35.setTop (mkF m 171 #[.val (.long qa), .second, .val (.long qb), .second, .val (.long qc), .second, .val (.long qd), .second, .val (.long qg), .second, .val (.int pf), .val (.long e1), .second, .val (.long z1), .second, .val (.long s1), .second, .val (.long e2), .second, .val (.long z2), .second, .val (.long s2), .second, .val (.ref v1), .val (.ref v2), .val (.int mo), .val (.int ex)] [(.ref v2), (.ref v1)])) _
        refine st55.trans ?_
        show Steps p.tables e below (T55.setTop (mkF m 174 #[.val (.long qa), .second, .val (.long qb), .second, .val (.long qc), .second, .val (.long qd), .second, .val (.long qg), .second, .val (.int pf), .val (.long e1), .second, .val (.long z1), .second, .val (.long s1), .second, .val (.long e2), .second, .val (.long z2), .second, .val (.long s2), .second, .val (.ref v1), .val (.ref v2), .val (.int mo), .val (.int ex)] [(.int (fn7v v1 v2 e1 z1 s1 e2 z2 s2))])) _
        refine XS.iload X55.here hx rfl (hb hby at_174) rfl ?_
        exact kt
      by_cases hc176_57 : (fn7v v1 v2 e1 z1 s1 e2 z2 s2) = ex
      · skip
        obtain ⟨cq58, kq58, q58a, q58b, q58c⟩ := isOf hZ hE55 p35_0
        obtain ⟨_, _, ⟨T58, L58, k58, n58⟩, -, X58, ⟨Lc58, hQ58, l58, y58, z58⟩, st58⟩ := X55.virtualBack hx (y := (⟨"com/example/quorumvote/quorumvote/election/Vote", "equals", "(Ljava/lang/Object;)Z"⟩ : MethodName)) (z := (⟨"com/example/quorumvote/quorumvote/election/Vote", "equals", "(Ljava/lang/Object;)Z"⟩ : MethodName)) hown (mvT hZ (hw _ (List.mem_of_getElem? (i := 34) rfl))) (mvT hZ (hw _ (List.mem_of_getElem? (i := 35) rfl))) (notFace_of_selects (args := #[]) (mvT hZ (hw _ (List.mem_of_getElem? (i := 37) rfl)))) (mvT hZ (hw _ (List.mem_of_getElem? (i := 37) rfl))) (mvT hZ (hw _ (List.mem_of_getElem? (i := 36) rfl))) (by decide) (backOf (W := 0) (rm7v l Z a0 hw [] v2 v1 e2 z2 s2 e1 z1 s1 T35.heap n0 Z45 f37 p35_1 p35_2 p35_3 f38 f39 f40) hZ (hw _ (List.mem_of_getElem? (i := 38) rfl)) (hw _ (List.mem_of_getElem? (i := 8) rfl)) (by decide) (by decide)) q58a q58c (g := (mkF m 183 #[.val (.long qa), .second, .val (.long qb), .second, .val (.long qc), .second, .val (.long qd), .second, .val (.long qg), .second, .val (.int pf), .val (.long e1), .second, .val (.long z1), .second, .val (.long s1), .second, .val (.long e2), .second, .val (.long z2), .second, .val (.long s2), .second, .val (.ref v1), .val (.ref v2), .val (.int mo), .val (.int ex)] [(.ref v1), (.ref v2)])) rfl (by rw [hml]; rfl) (Steps.refl _) (argsL := [(.ref v1)]) (rest := []) (lenOf pd_5 rfl) rfl (by show 2 * 0 + _ ≤ _; exact Nat.le_of_eq rfl) (hb hby at_183) (fun _ _ => ⟨rfl, hE55, (by decide : 2 + 0 ≤ _), (by decide : 6 + 0 ≤ _)⟩)
        dsimp only [Pt.U, Pt.locs, Pt.cells, Pt.slots] at X58 l58 y58 z58 st58 hQ58
        subst l58 y58 z58
        obtain ⟨rfl, N58q, hE58⟩ := hQ58
        have N58 := Fr.app N55 N58q
        have pre59 : ∀ t, Steps p.tables e below (T58.setTop (mkF m 188 #[.val (.long qa), .second, .val (.long qb), .second, .val (.long qc), .second, .val (.long qd), .second, .val (.long qg), .second, .val (.int pf), .val (.long e1), .second, .val (.long z1), .second, .val (.long s1), .second, .val (.long e2), .second, .val (.long z2), .second, .val (.long s2), .second, .val (.ref v1), .val (.ref v2), .val (.int mo), .val (.int ex)] [(.int ex), (.int (fn7v v2 v1 e2 z2 s2 e1 z1 s1))])) t → Steps p.tables e below (s₁.setTop (entryFrame m #[(.long qa), (.long qb), (.long qc), (.long qd), (.long qg), (.int pf)] maxLocals)) t := by
          intro t kt
          refine pre56 _ ?_
          show Steps p.tables e below (T55.setTop (mkF m 176 #[.val (.long qa), .second, .val (.long qb), .second, .val (.long qc), .second, .val (.long qd), .second, .val (.long qg), .second, .val (.int pf), .val (.long e1), .second, .val (.long z1), .second, .val (.long s1), .second, .val (.long e2), .second, .val (.long z2), .second, .val (.long s2), .second, .val (.ref v1), .val (.ref v2), .val (.int mo), .val (.int ex)] [(.int ex), (.int (fn7v v1 v2 e1 z1 s1 e2 z2 s2))])) _
          refine XS.icmpNo X55.here hx rfl (hb hby at_176) rfl (XT.ii_ne_f hc176_57) ?_
          show Steps p.tables e below (T55.setTop (mkF m 179 #[.val (.long qa), .second, .val (.long qb), .second, .val (.long qc), .second, .val (.long qd), .second, .val (.long qg), .second, .val (.int pf), .val (.long e1), .second, .val (.long z1), .second, .val (.long s1), .second, .val (.long e2), .second, .val (.long z2), .second, .val (.long s2), .second, .val (.ref v1), .val (.ref v2), .val (.int mo), .val (.int ex)] [])) _
          refine XS.aload X55.here hx rfl (hb hby at_179) rfl rfl ?_
          show Steps p.tables e below (T55.setTop (mkF m 181 #[.val (.long qa), .second, .val (.long qb), .second, .val (.long qc), .second, .val (.long qd), .second, .val (.long qg), .second, .val (.int pf), .val (.long e1), .second, .val (.long z1), .second, .val (.long s1), .second, .val (.long e2), .second, .val (.long z2), .second, .val (.long s2), .second, .val (.ref v1), .val (.ref v2), .val (.int mo), .val (.int ex)] [(.ref v2)])) _
          refine XS.aload X55.here hx rfl (hb hby at_181) rfl rfl ?_
          show Steps p.tables e below (T55.setTop (mkF m 183 #[.val (.long qa), .second, .val (.long qb), .second, .val (.long qc), .second, .val (.long qd), .second, .val (.long qg), .second, .val (.int pf), .val (.long e1), .second, .val (.long z1), .second, .val (.long s1), .second, .val (.long e2), .second, .val (.long z2), .second, .val (.long s2), .second, .val (.ref v1), .val (.ref v2), .val (.int mo), .val (.int ex)] [(.ref v1), (.ref v2)])) _
          refine st58.trans ?_
          show Steps p.tables e below (T58.setTop (mkF m 186 #[.val (.long qa), .second, .val (.long qb), .second, .val (.long qc), .second, .val (.long qd), .second, .val (.long qg), .second, .val (.int pf), .val (.long e1), .second, .val (.long z1), .second, .val (.long s1), .second, .val (.long e2), .second, .val (.long z2), .second, .val (.long s2), .second, .val (.ref v1), .val (.ref v2), .val (.int mo), .val (.int ex)] [(.int (fn7v v2 v1 e2 z2 s2 e1 z1 s1))])) _
          refine XS.iload X58.here hx rfl (hb hby at_186) rfl ?_
          exact kt
        by_cases hc188_60 : (fn7v v2 v1 e2 z2 s2 e1 z1 s1) = ex
        · skip
          have pre61 : ∀ t, Steps p.tables e below (T58.setTop (mkF m 196 #[.val (.long qa), .second, .val (.long qb), .second, .val (.long qc), .second, .val (.long qd), .second, .val (.long qg), .second, .val (.int pf), .val (.long e1), .second, .val (.long z1), .second, .val (.long s1), .second, .val (.long e2), .second, .val (.long z2), .second, .val (.long s2), .second, .val (.ref v1), .val (.ref v2), .val (.int mo), .val (.int ex)] [(.int (1 : Int32))])) t → Steps p.tables e below (s₁.setTop (entryFrame m #[(.long qa), (.long qb), (.long qc), (.long qd), (.long qg), (.int pf)] maxLocals)) t := by
            intro t kt
            refine pre59 _ ?_
            show Steps p.tables e below (T58.setTop (mkF m 188 #[.val (.long qa), .second, .val (.long qb), .second, .val (.long qc), .second, .val (.long qd), .second, .val (.long qg), .second, .val (.int pf), .val (.long e1), .second, .val (.long z1), .second, .val (.long s1), .second, .val (.long e2), .second, .val (.long z2), .second, .val (.long s2), .second, .val (.ref v1), .val (.ref v2), .val (.int mo), .val (.int ex)] [(.int ex), (.int (fn7v v2 v1 e2 z2 s2 e1 z1 s1))])) _
            refine XS.icmpNo X58.here hx rfl (hb hby at_188) rfl (XT.ii_ne_f hc188_60) ?_
            show Steps p.tables e below (T58.setTop (mkF m 191 #[.val (.long qa), .second, .val (.long qb), .second, .val (.long qc), .second, .val (.long qd), .second, .val (.long qg), .second, .val (.int pf), .val (.long e1), .second, .val (.long z1), .second, .val (.long s1), .second, .val (.long e2), .second, .val (.long z2), .second, .val (.long s2), .second, .val (.ref v1), .val (.ref v2), .val (.int mo), .val (.int ex)] [])) _
            refine XS.iconst X58.here hx rfl (hb hby at_191) ?_
            show Steps p.tables e below (T58.setTop (mkF m 192 #[.val (.long qa), .second, .val (.long qb), .second, .val (.long qc), .second, .val (.long qd), .second, .val (.long qg), .second, .val (.int pf), .val (.long e1), .second, .val (.long z1), .second, .val (.long s1), .second, .val (.long e2), .second, .val (.long z2), .second, .val (.long s2), .second, .val (.ref v1), .val (.ref v2), .val (.int mo), .val (.int ex)] [(.int (1 : Int32))])) _
            refine XS.goto X58.here hx rfl (pc0 := 192) (pc' := 196) rfl (hb hby at_192) (by decide) (by decide) ?_
            exact kt
          obtain ⟨fs, hr, hrun, hended, hW, hsame⟩ := X58.leave (v := some (.int (1 : Int32))) (fun h => by rw [Bd.returns] at h; cases h)
          refine ⟨_, _, pre61 _ ?_, hrun, hended, _, _, rfl, ?_, ⟨_, rfl⟩, hW, hsame.mono (by decide) (by decide)⟩
          · show Steps p.tables e below (T58.setTop (mkF m 196 #[.val (.long qa), .second, .val (.long qb), .second, .val (.long qc), .second, .val (.long qd), .second, .val (.long qg), .second, .val (.int pf), .val (.long e1), .second, .val (.long z1), .second, .val (.long s1), .second, .val (.long e2), .second, .val (.long z2), .second, .val (.long s2), .second, .val (.ref v1), .val (.ref v2), .val (.int mo), .val (.int ex)] [(.int (1 : Int32))])) _
            exact retN X58 hx (t := .boolean) Bd.returns (by simp) (hb hby at_196) hr
          · show Q0 Z qa qb qc qd qg pf ac fc h0 n0 _ T58.heap _
            rw [hE58]
            exact ⟨rfl, N58⟩
        · skip
          exact absurd (own_eq2 _ _ e1 z1 s1 e2 z2 s2 ex h_ex) hc188_60
      · skip
        exact absurd (own_eq _ _ e1 z1 s1 e2 z2 s2 ex h_ex) hc176_57
    · skip
      have pre62 : ∀ t, Steps p.tables e below (T35.setTop (mkF m 200 #[.val (.long qa), .second, .val (.long qb), .second, .val (.long qc), .second, .val (.long qd), .second, .val (.long qg), .second, .val (.int pf), .val (.long e1), .second, .val (.long z1), .second, .val (.long s1), .second, .val (.long e2), .second, .val (.long z2), .second, .val (.long s2), .second, .val (.ref v1), .val (.ref v2), .val (.int mo), .unset] [(.int (1 : Int32)), (.int mo)])) t → Steps p.tables e below (s₁.setTop (entryFrame m #[(.long qa), (.long qb), (.long qc), (.long qd), (.long qg), (.int pf)] maxLocals)) t := by
        intro t kt
        refine pre48 _ ?_
        show Steps p.tables e below (T35.setTop (mkF m 133 #[.val (.long qa), .second, .val (.long qb), .second, .val (.long qc), .second, .val (.long qd), .second, .val (.long qg), .second, .val (.int pf), .val (.long e1), .second, .val (.long z1), .second, .val (.long s1), .second, .val (.long e2), .second, .val (.long z2), .second, .val (.long s2), .second, .val (.ref v1), .val (.ref v2), .val (.int mo), .unset] [(.int mo)])) _
        refine XS.ifYes X35.here hx rfl (pc0 := 133) (pc' := 197) rfl (hb hby at_133) rfl (XT.i0_ne_t hc133_49) (by decide) (by decide) ?_
        show Steps p.tables e below (T35.setTop (mkF m 197 #[.val (.long qa), .second, .val (.long qb), .second, .val (.long qc), .second, .val (.long qd), .second, .val (.long qg), .second, .val (.int pf), .val (.long e1), .second, .val (.long z1), .second, .val (.long s1), .second, .val (.long e2), .second, .val (.long z2), .second, .val (.long s2), .second, .val (.ref v1), .val (.ref v2), .val (.int mo), .unset] [])) _
        refine XS.iload X35.here hx rfl (hb hby at_197) rfl ?_
        show Steps p.tables e below (T35.setTop (mkF m 199 #[.val (.long qa), .second, .val (.long qb), .second, .val (.long qc), .second, .val (.long qd), .second, .val (.long qg), .second, .val (.int pf), .val (.long e1), .second, .val (.long z1), .second, .val (.long s1), .second, .val (.long e2), .second, .val (.long z2), .second, .val (.long s2), .second, .val (.ref v1), .val (.ref v2), .val (.int mo), .unset] [(.int mo)])) _
        refine XS.iconst X35.here hx rfl (hb hby at_199) ?_
        exact kt
      by_cases hc200_63 : mo = (1 : Int32)
      · skip
        obtain ⟨cq64, kq64, q64a, q64b, q64c⟩ := isOf hZ rfl f37
        obtain ⟨_, _, ⟨T64, L64, k64, n64⟩, -, X64, ⟨Lc64, hQ64, l64, y64, z64⟩, st64⟩ := X35.virtualBack hx (y := (⟨"com/example/quorumvote/quorumvote/election/Vote", "equals", "(Ljava/lang/Object;)Z"⟩ : MethodName)) (z := (⟨"com/example/quorumvote/quorumvote/election/Vote", "equals", "(Ljava/lang/Object;)Z"⟩ : MethodName)) hown (mvT hZ (hw _ (List.mem_of_getElem? (i := 34) rfl))) (mvT hZ (hw _ (List.mem_of_getElem? (i := 35) rfl))) (notFace_of_selects (args := #[]) (mvT hZ (hw _ (List.mem_of_getElem? (i := 37) rfl)))) (mvT hZ (hw _ (List.mem_of_getElem? (i := 37) rfl))) (mvT hZ (hw _ (List.mem_of_getElem? (i := 36) rfl))) (by decide) (backOf (W := 0) (rm7n l Z a0 hw [] v1 T35.heap n0 Z45) hZ (hw _ (List.mem_of_getElem? (i := 38) rfl)) (hw _ (List.mem_of_getElem? (i := 8) rfl)) (by decide) (by decide)) q64a q64c (g := (mkF m 210 #[.val (.long qa), .second, .val (.long qb), .second, .val (.long qc), .second, .val (.long qd), .second, .val (.long qg), .second, .val (.int pf), .val (.long e1), .second, .val (.long z1), .second, .val (.long s1), .second, .val (.long e2), .second, .val (.long z2), .second, .val (.long s2), .second, .val (.ref v1), .val (.ref v2), .val (.int mo), .val .null] [.null, (.ref v1)])) rfl (by rw [hml]; rfl) (Steps.refl _) (argsL := [.null]) (rest := []) (lenOf pd_5 rfl) rfl (by show 2 * 0 + _ ≤ _; exact Nat.le_of_eq rfl) (hb hby at_210) (fun _ _ => ⟨rfl, rfl, (by decide : 2 + 0 ≤ _), (by decide : 6 + 0 ≤ _)⟩)
        dsimp only [Pt.U, Pt.locs, Pt.cells, Pt.slots] at X64 l64 y64 z64 st64 hQ64
        subst l64 y64 z64
        obtain ⟨rfl, N64q, hE64⟩ := hQ64
        have N64 := Fr.app N35 N64q
        have pre65 : ∀ t, Steps p.tables e below (T64.setTop (mkF m 221 #[.val (.long qa), .second, .val (.long qb), .second, .val (.long qc), .second, .val (.long qd), .second, .val (.long qg), .second, .val (.int pf), .val (.long e1), .second, .val (.long z1), .second, .val (.long s1), .second, .val (.long e2), .second, .val (.long z2), .second, .val (.long s2), .second, .val (.ref v1), .val (.ref v2), .val (.int mo), .val .null] [(.int (1 : Int32))])) t → Steps p.tables e below (s₁.setTop (entryFrame m #[(.long qa), (.long qb), (.long qc), (.long qd), (.long qg), (.int pf)] maxLocals)) t := by
          intro t kt
          refine pre62 _ ?_
          show Steps p.tables e below (T35.setTop (mkF m 200 #[.val (.long qa), .second, .val (.long qb), .second, .val (.long qc), .second, .val (.long qd), .second, .val (.long qg), .second, .val (.int pf), .val (.long e1), .second, .val (.long z1), .second, .val (.long s1), .second, .val (.long e2), .second, .val (.long z2), .second, .val (.long s2), .second, .val (.ref v1), .val (.ref v2), .val (.int mo), .unset] [(.int (1 : Int32)), (.int mo)])) _
          refine XS.icmpNo X35.here hx rfl (hb hby at_200) rfl (XT.ii_ne_f hc200_63) ?_
          show Steps p.tables e below (T35.setTop (mkF m 203 #[.val (.long qa), .second, .val (.long qb), .second, .val (.long qc), .second, .val (.long qd), .second, .val (.long qg), .second, .val (.int pf), .val (.long e1), .second, .val (.long z1), .second, .val (.long s1), .second, .val (.long e2), .second, .val (.long z2), .second, .val (.long s2), .second, .val (.ref v1), .val (.ref v2), .val (.int mo), .unset] [])) _
          refine XS.aconstNull X35.here hx rfl (hb hby at_203) ?_
          show Steps p.tables e below (T35.setTop (mkF m 204 #[.val (.long qa), .second, .val (.long qb), .second, .val (.long qc), .second, .val (.long qd), .second, .val (.long qg), .second, .val (.int pf), .val (.long e1), .second, .val (.long z1), .second, .val (.long s1), .second, .val (.long e2), .second, .val (.long z2), .second, .val (.long s2), .second, .val (.ref v1), .val (.ref v2), .val (.int mo), .unset] [.null])) _
          refine XS.astore X35.here hx rfl (hb hby at_204) rfl rfl (l' := #[.val (.long qa), .second, .val (.long qb), .second, .val (.long qc), .second, .val (.long qd), .second, .val (.long qg), .second, .val (.int pf), .val (.long e1), .second, .val (.long z1), .second, .val (.long s1), .second, .val (.long e2), .second, .val (.long z2), .second, .val (.long s2), .second, .val (.ref v1), .val (.ref v2), .val (.int mo), .val .null]) rfl ?_
          show Steps p.tables e below (T35.setTop (mkF m 206 #[.val (.long qa), .second, .val (.long qb), .second, .val (.long qc), .second, .val (.long qd), .second, .val (.long qg), .second, .val (.int pf), .val (.long e1), .second, .val (.long z1), .second, .val (.long s1), .second, .val (.long e2), .second, .val (.long z2), .second, .val (.long s2), .second, .val (.ref v1), .val (.ref v2), .val (.int mo), .val .null] [])) _
          refine XS.aload X35.here hx rfl (hb hby at_206) rfl rfl ?_
          show Steps p.tables e below (T35.setTop (mkF m 208 #[.val (.long qa), .second, .val (.long qb), .second, .val (.long qc), .second, .val (.long qd), .second, .val (.long qg), .second, .val (.int pf), .val (.long e1), .second, .val (.long z1), .second, .val (.long s1), .second, .val (.long e2), .second, .val (.long z2), .second, .val (.long s2), .second, .val (.ref v1), .val (.ref v2), .val (.int mo), .val .null] [(.ref v1)])) _
          refine XS.aload X35.here hx rfl (hb hby at_208) rfl rfl ?_
          show Steps p.tables e below (T35.setTop (mkF m 210 #[.val (.long qa), .second, .val (.long qb), .second, .val (.long qc), .second, .val (.long qd), .second, .val (.long qg), .second, .val (.int pf), .val (.long e1), .second, .val (.long z1), .second, .val (.long s1), .second, .val (.long e2), .second, .val (.long z2), .second, .val (.long s2), .second, .val (.ref v1), .val (.ref v2), .val (.int mo), .val .null] [.null, (.ref v1)])) _
          refine st64.trans ?_
          show Steps p.tables e below (T64.setTop (mkF m 213 #[.val (.long qa), .second, .val (.long qb), .second, .val (.long qc), .second, .val (.long qd), .second, .val (.long qg), .second, .val (.int pf), .val (.long e1), .second, .val (.long z1), .second, .val (.long s1), .second, .val (.long e2), .second, .val (.long z2), .second, .val (.long s2), .second, .val (.ref v1), .val (.ref v2), .val (.int mo), .val .null] [(.int (0 : Int32))])) _
          refine XS.ifNo X64.here hx rfl (hb hby at_213) rfl (XT.i0_ne_f (by decide)) ?_
          show Steps p.tables e below (T64.setTop (mkF m 216 #[.val (.long qa), .second, .val (.long qb), .second, .val (.long qc), .second, .val (.long qd), .second, .val (.long qg), .second, .val (.int pf), .val (.long e1), .second, .val (.long z1), .second, .val (.long s1), .second, .val (.long e2), .second, .val (.long z2), .second, .val (.long s2), .second, .val (.ref v1), .val (.ref v2), .val (.int mo), .val .null] [])) _
          refine XS.iconst X64.here hx rfl (hb hby at_216) ?_
          show Steps p.tables e below (T64.setTop (mkF m 217 #[.val (.long qa), .second, .val (.long qb), .second, .val (.long qc), .second, .val (.long qd), .second, .val (.long qg), .second, .val (.int pf), .val (.long e1), .second, .val (.long z1), .second, .val (.long s1), .second, .val (.long e2), .second, .val (.long z2), .second, .val (.long s2), .second, .val (.ref v1), .val (.ref v2), .val (.int mo), .val .null] [(.int (1 : Int32))])) _
          refine XS.goto X64.here hx rfl (pc0 := 217) (pc' := 221) rfl (hb hby at_217) (by decide) (by decide) ?_
          exact kt
        obtain ⟨fs, hr, hrun, hended, hW, hsame⟩ := X64.leave (v := some (.int (1 : Int32))) (fun h => by rw [Bd.returns] at h; cases h)
        refine ⟨_, _, pre65 _ ?_, hrun, hended, _, _, rfl, ?_, ⟨_, rfl⟩, hW, hsame.mono (by decide) (by decide)⟩
        · show Steps p.tables e below (T64.setTop (mkF m 221 #[.val (.long qa), .second, .val (.long qb), .second, .val (.long qc), .second, .val (.long qd), .second, .val (.long qg), .second, .val (.int pf), .val (.long e1), .second, .val (.long z1), .second, .val (.long s1), .second, .val (.long e2), .second, .val (.long z2), .second, .val (.long s2), .second, .val (.ref v1), .val (.ref v2), .val (.int mo), .val .null] [(.int (1 : Int32))])) _
          exact retN X64 hx (t := .boolean) Bd.returns (by simp) (hb hby at_221) hr
        · show Q0 Z qa qb qc qd qg pf ac fc h0 n0 _ T64.heap _
          rw [hE64]
          exact ⟨rfl, N64⟩
      · skip
        have pre66 : ∀ t, Steps p.tables e below (T35.setTop (mkF m 225 #[.val (.long qa), .second, .val (.long qb), .second, .val (.long qc), .second, .val (.long qd), .second, .val (.long qg), .second, .val (.int pf), .val (.long e1), .second, .val (.long z1), .second, .val (.long s1), .second, .val (.long e2), .second, .val (.long z2), .second, .val (.long s2), .second, .val (.ref v1), .val (.ref v2), .val (.int mo), .unset] [(.int (2 : Int32)), (.int mo)])) t → Steps p.tables e below (s₁.setTop (entryFrame m #[(.long qa), (.long qb), (.long qc), (.long qd), (.long qg), (.int pf)] maxLocals)) t := by
          intro t kt
          refine pre62 _ ?_
          show Steps p.tables e below (T35.setTop (mkF m 200 #[.val (.long qa), .second, .val (.long qb), .second, .val (.long qc), .second, .val (.long qd), .second, .val (.long qg), .second, .val (.int pf), .val (.long e1), .second, .val (.long z1), .second, .val (.long s1), .second, .val (.long e2), .second, .val (.long z2), .second, .val (.long s2), .second, .val (.ref v1), .val (.ref v2), .val (.int mo), .unset] [(.int (1 : Int32)), (.int mo)])) _
          refine XS.icmpYes X35.here hx rfl (pc0 := 200) (pc' := 222) rfl (hb hby at_200) rfl (XT.ii_ne_t hc200_63) (by decide) (by decide) ?_
          show Steps p.tables e below (T35.setTop (mkF m 222 #[.val (.long qa), .second, .val (.long qb), .second, .val (.long qc), .second, .val (.long qd), .second, .val (.long qg), .second, .val (.int pf), .val (.long e1), .second, .val (.long z1), .second, .val (.long s1), .second, .val (.long e2), .second, .val (.long z2), .second, .val (.long s2), .second, .val (.ref v1), .val (.ref v2), .val (.int mo), .unset] [])) _
          refine XS.iload X35.here hx rfl (hb hby at_222) rfl ?_
          show Steps p.tables e below (T35.setTop (mkF m 224 #[.val (.long qa), .second, .val (.long qb), .second, .val (.long qc), .second, .val (.long qd), .second, .val (.long qg), .second, .val (.int pf), .val (.long e1), .second, .val (.long z1), .second, .val (.long s1), .second, .val (.long e2), .second, .val (.long z2), .second, .val (.long s2), .second, .val (.ref v1), .val (.ref v2), .val (.int mo), .unset] [(.int mo)])) _
          refine XS.iconst X35.here hx rfl (hb hby at_224) ?_
          exact kt
        by_cases hc225_67 : mo = (2 : Int32)
        · skip
          obtain ⟨_, _, ⟨T68, L68, k68, n68⟩, -, X68, ⟨Lc68, hQ68, l68, y68, z68⟩, st68⟩ := Jvm.LawKit.callS X35 hx (y := (⟨"java/lang/Long", "valueOf", "(J)Ljava/lang/Long;"⟩ : MethodName)) hown (mvT hZ (hw _ (List.mem_of_getElem? (i := 41) rfl))) (mvT hZ (hw _ (List.mem_of_getElem? (i := 42) rfl))) (mvT hZ (hw _ (List.mem_of_getElem? (i := 43) rfl))) (mvT hZ (hw _ (List.mem_of_getElem? (i := 44) rfl))) (by decide) (backOf (W := 0) (rm8 l Z a0 hw [] e1 ac fc T35.heap n0 Z45 (S0.ext f36.2) (A0.ext f36.2) (fun k hk => (HE0 k hk).ext f36.2)) hZ (hw _ (List.mem_of_getElem? (i := 44) rfl)) (hw _ (List.mem_of_getElem? (i := 43) rfl)) (by decide) (by decide)) (g := (mkF m 230 #[.val (.long qa), .second, .val (.long qb), .second, .val (.long qc), .second, .val (.long qd), .second, .val (.long qg), .second, .val (.int pf), .val (.long e1), .second, .val (.long z1), .second, .val (.long s1), .second, .val (.long e2), .second, .val (.long z2), .second, .val (.long s2), .second, .val (.ref v1), .val (.ref v2), .val (.int mo), .unset] [(.long e1)])) rfl (by rw [hml]; rfl) (argsL := [(.long e1)]) (rest := []) (lenOf pd_6 rfl) rfl (by show 2 * 0 + _ ≤ _; exact Nat.le_of_eq rfl) (hb hby at_230) (fun _ _ => ⟨rfl, rfl, (by decide : 2 + 1 ≤ _), (by decide : 6 + 1 ≤ _)⟩)
          dsimp only [Pt.U, Pt.locs, Pt.cells, Pt.slots] at X68 l68 y68 z68 st68 hQ68
          subst l68 y68 z68
          obtain ⟨bv, rfl, N68q, K68, E_bv⟩ := hQ68
          have N68 := Fr.app N35 N68q
          have f69 := f36.keep K68 all0
          have f70 := f37.keep K68
          have f71 := f38.keep K68 nin0
          have f72 := f39.keep K68 nin0
          have f73 := f40.keep K68 nin0
          have f74 := p35_0.keep K68
          have f75 := p35_1.keep K68 nin0
          have f76 := p35_2.keep K68 nin0
          have f77 := p35_3.keep K68 nin0
          have Z78 := Nat.le_trans Z45 K68.1
          obtain ⟨cq79, kq79, q79a, q79b, q79c⟩ := isOf hZ rfl f70
          obtain ⟨_, _, ⟨T79, L79, k79, n79⟩, -, X79, ⟨Lc79, hQ79, l79, y79, z79⟩, st79⟩ := X68.virtualBack hx (y := (⟨"com/example/quorumvote/quorumvote/election/Vote", "equals", "(Ljava/lang/Object;)Z"⟩ : MethodName)) (z := (⟨"com/example/quorumvote/quorumvote/election/Vote", "equals", "(Ljava/lang/Object;)Z"⟩ : MethodName)) hown (mvT hZ (hw _ (List.mem_of_getElem? (i := 34) rfl))) (mvT hZ (hw _ (List.mem_of_getElem? (i := 35) rfl))) (notFace_of_selects (args := #[]) (mvT hZ (hw _ (List.mem_of_getElem? (i := 37) rfl)))) (mvT hZ (hw _ (List.mem_of_getElem? (i := 37) rfl))) (mvT hZ (hw _ (List.mem_of_getElem? (i := 36) rfl))) (by decide) (backOf (W := 0) (rm7l l Z a0 hw [] v1 bv T68.heap n0 Z78 E_bv) hZ (hw _ (List.mem_of_getElem? (i := 38) rfl)) (hw _ (List.mem_of_getElem? (i := 8) rfl)) (by decide) (by decide)) q79a q79c (g := (mkF m 239 #[.val (.long qa), .second, .val (.long qb), .second, .val (.long qc), .second, .val (.long qd), .second, .val (.long qg), .second, .val (.int pf), .val (.long e1), .second, .val (.long z1), .second, .val (.long s1), .second, .val (.long e2), .second, .val (.long z2), .second, .val (.long s2), .second, .val (.ref v1), .val (.ref v2), .val (.int mo), .val (.ref bv)] [(.ref bv), (.ref v1)])) rfl (by rw [hml]; rfl) (Steps.refl _) (argsL := [(.ref bv)]) (rest := []) (lenOf pd_5 rfl) rfl (by show 2 * 0 + _ ≤ _; exact Nat.le_of_eq rfl) (hb hby at_239) (fun _ _ => ⟨rfl, rfl, (by decide : 3 + 0 ≤ _), (by decide : 7 + 0 ≤ _)⟩)
          dsimp only [Pt.U, Pt.locs, Pt.cells, Pt.slots] at X79 l79 y79 z79 st79 hQ79
          subst l79 y79 z79
          obtain ⟨rfl, N79q, hE79⟩ := hQ79
          have N79 := Fr.app N68 N79q
          have pre80 : ∀ t, Steps p.tables e below (T79.setTop (mkF m 250 #[.val (.long qa), .second, .val (.long qb), .second, .val (.long qc), .second, .val (.long qd), .second, .val (.long qg), .second, .val (.int pf), .val (.long e1), .second, .val (.long z1), .second, .val (.long s1), .second, .val (.long e2), .second, .val (.long z2), .second, .val (.long s2), .second, .val (.ref v1), .val (.ref v2), .val (.int mo), .val (.ref bv)] [(.int (1 : Int32))])) t → Steps p.tables e below (s₁.setTop (entryFrame m #[(.long qa), (.long qb), (.long qc), (.long qd), (.long qg), (.int pf)] maxLocals)) t := by
            intro t kt
            refine pre66 _ ?_
            show Steps p.tables e below (T35.setTop (mkF m 225 #[.val (.long qa), .second, .val (.long qb), .second, .val (.long qc), .second, .val (.long qd), .second, .val (.long qg), .second, .val (.int pf), .val (.long e1), .second, .val (.long z1), .second, .val (.long s1), .second, .val (.long e2), .second, .val (.long z2), .second, .val (.long s2), .second, .val (.ref v1), .val (.ref v2), .val (.int mo), .unset] [(.int (2 : Int32)), (.int mo)])) _
            refine XS.icmpNo X35.here hx rfl (hb hby at_225) rfl (XT.ii_ne_f hc225_67) ?_
            show Steps p.tables e below (T35.setTop (mkF m 228 #[.val (.long qa), .second, .val (.long qb), .second, .val (.long qc), .second, .val (.long qd), .second, .val (.long qg), .second, .val (.int pf), .val (.long e1), .second, .val (.long z1), .second, .val (.long s1), .second, .val (.long e2), .second, .val (.long z2), .second, .val (.long s2), .second, .val (.ref v1), .val (.ref v2), .val (.int mo), .unset] [])) _
            refine XS.lload X35.here hx rfl (hb hby at_228) rfl ?_
            show Steps p.tables e below (T35.setTop (mkF m 230 #[.val (.long qa), .second, .val (.long qb), .second, .val (.long qc), .second, .val (.long qd), .second, .val (.long qg), .second, .val (.int pf), .val (.long e1), .second, .val (.long z1), .second, .val (.long s1), .second, .val (.long e2), .second, .val (.long z2), .second, .val (.long s2), .second, .val (.ref v1), .val (.ref v2), .val (.int mo), .unset] [(.long e1)])) _
            refine st68 _ ?_
            show Steps p.tables e below (T68.setTop (mkF m 233 #[.val (.long qa), .second, .val (.long qb), .second, .val (.long qc), .second, .val (.long qd), .second, .val (.long qg), .second, .val (.int pf), .val (.long e1), .second, .val (.long z1), .second, .val (.long s1), .second, .val (.long e2), .second, .val (.long z2), .second, .val (.long s2), .second, .val (.ref v1), .val (.ref v2), .val (.int mo), .unset] [(.ref bv)])) _
            refine XS.astore X68.here hx rfl (hb hby at_233) rfl rfl (l' := #[.val (.long qa), .second, .val (.long qb), .second, .val (.long qc), .second, .val (.long qd), .second, .val (.long qg), .second, .val (.int pf), .val (.long e1), .second, .val (.long z1), .second, .val (.long s1), .second, .val (.long e2), .second, .val (.long z2), .second, .val (.long s2), .second, .val (.ref v1), .val (.ref v2), .val (.int mo), .val (.ref bv)]) rfl ?_
            show Steps p.tables e below (T68.setTop (mkF m 235 #[.val (.long qa), .second, .val (.long qb), .second, .val (.long qc), .second, .val (.long qd), .second, .val (.long qg), .second, .val (.int pf), .val (.long e1), .second, .val (.long z1), .second, .val (.long s1), .second, .val (.long e2), .second, .val (.long z2), .second, .val (.long s2), .second, .val (.ref v1), .val (.ref v2), .val (.int mo), .val (.ref bv)] [])) _
            refine XS.aload X68.here hx rfl (hb hby at_235) rfl rfl ?_
            show Steps p.tables e below (T68.setTop (mkF m 237 #[.val (.long qa), .second, .val (.long qb), .second, .val (.long qc), .second, .val (.long qd), .second, .val (.long qg), .second, .val (.int pf), .val (.long e1), .second, .val (.long z1), .second, .val (.long s1), .second, .val (.long e2), .second, .val (.long z2), .second, .val (.long s2), .second, .val (.ref v1), .val (.ref v2), .val (.int mo), .val (.ref bv)] [(.ref v1)])) _
            refine XS.aload X68.here hx rfl (hb hby at_237) rfl rfl ?_
            show Steps p.tables e below (T68.setTop (mkF m 239 #[.val (.long qa), .second, .val (.long qb), .second, .val (.long qc), .second, .val (.long qd), .second, .val (.long qg), .second, .val (.int pf), .val (.long e1), .second, .val (.long z1), .second, .val (.long s1), .second, .val (.long e2), .second, .val (.long z2), .second, .val (.long s2), .second, .val (.ref v1), .val (.ref v2), .val (.int mo), .val (.ref bv)] [(.ref bv), (.ref v1)])) _
            refine st79.trans ?_
            show Steps p.tables e below (T79.setTop (mkF m 242 #[.val (.long qa), .second, .val (.long qb), .second, .val (.long qc), .second, .val (.long qd), .second, .val (.long qg), .second, .val (.int pf), .val (.long e1), .second, .val (.long z1), .second, .val (.long s1), .second, .val (.long e2), .second, .val (.long z2), .second, .val (.long s2), .second, .val (.ref v1), .val (.ref v2), .val (.int mo), .val (.ref bv)] [(.int (0 : Int32))])) _
            refine XS.ifNo X79.here hx rfl (hb hby at_242) rfl (XT.i0_ne_f (by decide)) ?_
            show Steps p.tables e below (T79.setTop (mkF m 245 #[.val (.long qa), .second, .val (.long qb), .second, .val (.long qc), .second, .val (.long qd), .second, .val (.long qg), .second, .val (.int pf), .val (.long e1), .second, .val (.long z1), .second, .val (.long s1), .second, .val (.long e2), .second, .val (.long z2), .second, .val (.long s2), .second, .val (.ref v1), .val (.ref v2), .val (.int mo), .val (.ref bv)] [])) _
            refine XS.iconst X79.here hx rfl (hb hby at_245) ?_
            show Steps p.tables e below (T79.setTop (mkF m 246 #[.val (.long qa), .second, .val (.long qb), .second, .val (.long qc), .second, .val (.long qd), .second, .val (.long qg), .second, .val (.int pf), .val (.long e1), .second, .val (.long z1), .second, .val (.long s1), .second, .val (.long e2), .second, .val (.long z2), .second, .val (.long s2), .second, .val (.ref v1), .val (.ref v2), .val (.int mo), .val (.ref bv)] [(.int (1 : Int32))])) _
            refine XS.goto X79.here hx rfl (pc0 := 246) (pc' := 250) rfl (hb hby at_246) (by decide) (by decide) ?_
            exact kt
          obtain ⟨fs, hr, hrun, hended, hW, hsame⟩ := X79.leave (v := some (.int (1 : Int32))) (fun h => by rw [Bd.returns] at h; cases h)
          refine ⟨_, _, pre80 _ ?_, hrun, hended, _, _, rfl, ?_, ⟨_, rfl⟩, hW, hsame.mono (by decide) (by decide)⟩
          · show Steps p.tables e below (T79.setTop (mkF m 250 #[.val (.long qa), .second, .val (.long qb), .second, .val (.long qc), .second, .val (.long qd), .second, .val (.long qg), .second, .val (.int pf), .val (.long e1), .second, .val (.long z1), .second, .val (.long s1), .second, .val (.long e2), .second, .val (.long z2), .second, .val (.long s2), .second, .val (.ref v1), .val (.ref v2), .val (.int mo), .val (.ref bv)] [(.int (1 : Int32))])) _
            exact retN X79 hx (t := .boolean) Bd.returns (by simp) (hb hby at_250) hr
          · show Q0 Z qa qb qc qd qg pf ac fc h0 n0 _ T79.heap _
            rw [hE79]
            exact ⟨rfl, N79⟩
        · skip
          obtain ⟨cq81, kq81, q81a, q81b, q81c⟩ := isOf hZ rfl f37
          obtain ⟨_, _, ⟨T81, L81, k81, n81⟩, -, X81, ⟨Lc81, hQ81, l81, y81, z81⟩, st81⟩ := X35.virtualBack hx (y := (⟨"com/example/quorumvote/quorumvote/election/Vote", "equals", "(Ljava/lang/Object;)Z"⟩ : MethodName)) (z := (⟨"com/example/quorumvote/quorumvote/election/Vote", "equals", "(Ljava/lang/Object;)Z"⟩ : MethodName)) hown (mvT hZ (hw _ (List.mem_of_getElem? (i := 34) rfl))) (mvT hZ (hw _ (List.mem_of_getElem? (i := 35) rfl))) (notFace_of_selects (args := #[]) (mvT hZ (hw _ (List.mem_of_getElem? (i := 37) rfl)))) (mvT hZ (hw _ (List.mem_of_getElem? (i := 37) rfl))) (mvT hZ (hw _ (List.mem_of_getElem? (i := 36) rfl))) (by decide) (backOf (W := 0) (rm7v l Z a0 hw [] v1 v1 e1 z1 s1 e1 z1 s1 T35.heap n0 Z45 f37 f38 f39 f40 f38 f39 f40) hZ (hw _ (List.mem_of_getElem? (i := 38) rfl)) (hw _ (List.mem_of_getElem? (i := 8) rfl)) (by decide) (by decide)) q81a q81c (g := (mkF m 259 #[.val (.long qa), .second, .val (.long qb), .second, .val (.long qc), .second, .val (.long qd), .second, .val (.long qg), .second, .val (.int pf), .val (.long e1), .second, .val (.long z1), .second, .val (.long s1), .second, .val (.long e2), .second, .val (.long z2), .second, .val (.long s2), .second, .val (.ref v1), .val (.ref v2), .val (.int mo), .val (.ref v1)] [(.ref v1), (.ref v1)])) rfl (by rw [hml]; rfl) (Steps.refl _) (argsL := [(.ref v1)]) (rest := []) (lenOf pd_5 rfl) rfl (by show 2 * 0 + _ ≤ _; exact Nat.le_of_eq rfl) (hb hby at_259) (fun _ _ => ⟨rfl, rfl, (by decide : 2 + 0 ≤ _), (by decide : 6 + 0 ≤ _)⟩)
          dsimp only [Pt.U, Pt.locs, Pt.cells, Pt.slots] at X81 l81 y81 z81 st81 hQ81
          subst l81 y81 z81
          obtain ⟨rfl, N81q, hE81⟩ := hQ81
          have N81 := Fr.app N35 N81q
          have hself := own_self v1 v1 e1 z1 s1
          have pre82 : ∀ t, Steps p.tables e below (T81.setTop (mkF m 262 #[.val (.long qa), .second, .val (.long qb), .second, .val (.long qc), .second, .val (.long qd), .second, .val (.long qg), .second, .val (.int pf), .val (.long e1), .second, .val (.long z1), .second, .val (.long s1), .second, .val (.long e2), .second, .val (.long z2), .second, .val (.long s2), .second, .val (.ref v1), .val (.ref v2), .val (.int mo), .val (.ref v1)] [(.int (fn7v v1 v1 e1 z1 s1 e1 z1 s1))])) t → Steps p.tables e below (s₁.setTop (entryFrame m #[(.long qa), (.long qb), (.long qc), (.long qd), (.long qg), (.int pf)] maxLocals)) t := by
            intro t kt
            refine pre66 _ ?_
            show Steps p.tables e below (T35.setTop (mkF m 225 #[.val (.long qa), .second, .val (.long qb), .second, .val (.long qc), .second, .val (.long qd), .second, .val (.long qg), .second, .val (.int pf), .val (.long e1), .second, .val (.long z1), .second, .val (.long s1), .second, .val (.long e2), .second, .val (.long z2), .second, .val (.long s2), .second, .val (.ref v1), .val (.ref v2), .val (.int mo), .unset] [(.int (2 : Int32)), (.int mo)])) _
            refine XS.icmpYes X35.here hx rfl (pc0 := 225) (pc' := 251) rfl (hb hby at_225) rfl (XT.ii_ne_t hc225_67) (by decide) (by decide) ?_
            show Steps p.tables e below (T35.setTop (mkF m 251 #[.val (.long qa), .second, .val (.long qb), .second, .val (.long qc), .second, .val (.long qd), .second, .val (.long qg), .second, .val (.int pf), .val (.long e1), .second, .val (.long z1), .second, .val (.long s1), .second, .val (.long e2), .second, .val (.long z2), .second, .val (.long s2), .second, .val (.ref v1), .val (.ref v2), .val (.int mo), .unset] [])) _
            refine XS.aload X35.here hx rfl (hb hby at_251) rfl rfl ?_
            show Steps p.tables e below (T35.setTop (mkF m 253 #[.val (.long qa), .second, .val (.long qb), .second, .val (.long qc), .second, .val (.long qd), .second, .val (.long qg), .second, .val (.int pf), .val (.long e1), .second, .val (.long z1), .second, .val (.long s1), .second, .val (.long e2), .second, .val (.long z2), .second, .val (.long s2), .second, .val (.ref v1), .val (.ref v2), .val (.int mo), .unset] [(.ref v1)])) _
            refine XS.astore X35.here hx rfl (hb hby at_253) rfl rfl (l' := #[.val (.long qa), .second, .val (.long qb), .second, .val (.long qc), .second, .val (.long qd), .second, .val (.long qg), .second, .val (.int pf), .val (.long e1), .second, .val (.long z1), .second, .val (.long s1), .second, .val (.long e2), .second, .val (.long z2), .second, .val (.long s2), .second, .val (.ref v1), .val (.ref v2), .val (.int mo), .val (.ref v1)]) rfl ?_
            show Steps p.tables e below (T35.setTop (mkF m 255 #[.val (.long qa), .second, .val (.long qb), .second, .val (.long qc), .second, .val (.long qd), .second, .val (.long qg), .second, .val (.int pf), .val (.long e1), .second, .val (.long z1), .second, .val (.long s1), .second, .val (.long e2), .second, .val (.long z2), .second, .val (.long s2), .second, .val (.ref v1), .val (.ref v2), .val (.int mo), .val (.ref v1)] [])) _
            refine XS.aload X35.here hx rfl (hb hby at_255) rfl rfl ?_
            show Steps p.tables e below (T35.setTop (mkF m 257 #[.val (.long qa), .second, .val (.long qb), .second, .val (.long qc), .second, .val (.long qd), .second, .val (.long qg), .second, .val (.int pf), .val (.long e1), .second, .val (.long z1), .second, .val (.long s1), .second, .val (.long e2), .second, .val (.long z2), .second, .val (.long s2), .second, .val (.ref v1), .val (.ref v2), .val (.int mo), .val (.ref v1)] [(.ref v1)])) _
            refine XS.aload X35.here hx rfl (hb hby at_257) rfl rfl ?_
            show Steps p.tables e below (T35.setTop (mkF m 259 #[.val (.long qa), .second, .val (.long qb), .second, .val (.long qc), .second, .val (.long qd), .second, .val (.long qg), .second, .val (.int pf), .val (.long e1), .second, .val (.long z1), .second, .val (.long s1), .second, .val (.long e2), .second, .val (.long z2), .second, .val (.long s2), .second, .val (.ref v1), .val (.ref v2), .val (.int mo), .val (.ref v1)] [(.ref v1), (.ref v1)])) _
            refine st81.trans ?_
            exact kt
          have pre83 : ∀ t, Steps p.tables e below (T81.setTop (mkF m 262 #[.val (.long qa), .second, .val (.long qb), .second, .val (.long qc), .second, .val (.long qd), .second, .val (.long qg), .second, .val (.int pf), .val (.long e1), .second, .val (.long z1), .second, .val (.long s1), .second, .val (.long e2), .second, .val (.long z2), .second, .val (.long s2), .second, .val (.ref v1), .val (.ref v2), .val (.int mo), .val (.ref v1)] [(.int (1 : Int32))])) t → Steps p.tables e below (s₁.setTop (entryFrame m #[(.long qa), (.long qb), (.long qc), (.long qd), (.long qg), (.int pf)] maxLocals)) t := by
            intro t kt
            rw [← hself] at kt
            exact pre82 _ kt
          obtain ⟨fs, hr, hrun, hended, hW, hsame⟩ := X81.leave (v := some (.int (1 : Int32))) (fun h => by rw [Bd.returns] at h; cases h)
          refine ⟨_, _, pre83 _ ?_, hrun, hended, _, _, rfl, ?_, ⟨_, rfl⟩, hW, hsame.mono (by decide) (by decide)⟩
          · show Steps p.tables e below (T81.setTop (mkF m 262 #[.val (.long qa), .second, .val (.long qb), .second, .val (.long qc), .second, .val (.long qd), .second, .val (.long qg), .second, .val (.int pf), .val (.long e1), .second, .val (.long z1), .second, .val (.long s1), .second, .val (.long e2), .second, .val (.long z2), .second, .val (.long s2), .second, .val (.ref v1), .val (.ref v2), .val (.int mo), .val (.ref v1)] [(.int (1 : Int32))])) _
            exact retN X81 hx (t := .boolean) Bd.returns (by simp) (hb hby at_262) hr
          · show Q0 Z qa qb qc qd qg pf ac fc h0 n0 _ T81.heap _
            rw [hE81]
            exact ⟨rfl, N81⟩
  · skip
    obtain ⟨_, _, ⟨T84, L84, k84, n84⟩, -, X84, ⟨Lc84, hQ84, l84, y84, z84⟩, st84⟩ := Jvm.LawKit.callS X5 hx (y := (⟨"java/lang/Math", "max", "(JJ)J"⟩ : MethodName)) hown (mvT hZ (hw _ (List.mem_of_getElem? (i := 2) rfl))) (mvT hZ (hw _ (List.mem_of_getElem? (i := 3) rfl))) (mvT hZ (hw _ (List.mem_of_getElem? (i := 4) rfl))) (mvT hZ (hw _ (List.mem_of_getElem? (i := 5) rfl))) (by decide) (backOf (W := 0) (rm1 l Z a0 hw [] (1 : Int64) ((qd ^^^ qg) &&& (9223372036854775807 : Int64)) h0 n0 Z0) hZ (hw _ (List.mem_of_getElem? (i := 5) rfl)) (hw _ (List.mem_of_getElem? (i := 4) rfl)) (by decide) (by decide)) (g := (mkF m 83 #[.val (.long qa), .second, .val (.long qb), .second, .val (.long qc), .second, .val (.long qd), .second, .val (.long qg), .second, .val (.int pf), .val (.long e1), .second, .val (.long z1), .second, .val (.long s1), .second, .val (.long e2), .second, .val (.long z2), .second, .unset, .unset, .unset, .unset, .unset, .unset] [(.long ((qd ^^^ qg) &&& (9223372036854775807 : Int64))), (.long (1 : Int64))])) rfl (by rw [hml]; rfl) (argsL := [(.long (1 : Int64)), (.long ((qd ^^^ qg) &&& (9223372036854775807 : Int64)))]) (rest := []) (lenOf pd_3 rfl) rfl (by show 2 * 0 + _ ≤ _; exact Nat.le_of_eq rfl) (hb hby at_83) (fun _ _ => ⟨rfl, hE5, (by decide : 0 + 0 ≤ _), (by decide : 0 + 0 ≤ _)⟩)
    dsimp only [Pt.U, Pt.locs, Pt.cells, Pt.slots] at X84 l84 y84 z84 st84 hQ84
    subst l84 y84 z84
    obtain ⟨rfl, N84q, hE84⟩ := hQ84
    have N84 := Fr.app N5 N84q
    have pre85 : ∀ t, Steps p.tables e below (T84.setTop (mkF m 91 #[.val (.long qa), .second, .val (.long qb), .second, .val (.long qc), .second, .val (.long qd), .second, .val (.long qg), .second, .val (.int pf), .val (.long e1), .second, .val (.long z1), .second, .val (.long s1), .second, .val (.long e2), .second, .val (.long z2), .second, .unset, .unset, .unset, .unset, .unset, .unset] [(.long (fn1 (1 : Int64) ((qd ^^^ qg) &&& (9223372036854775807 : Int64))))])) t → Steps p.tables e below (s₁.setTop (entryFrame m #[(.long qa), (.long qb), (.long qc), (.long qd), (.long qg), (.int pf)] maxLocals)) t := by
      intro t kt
      refine pre14 _ ?_
      show Steps p.tables e below (T5.setTop (mkF m 70 #[.val (.long qa), .second, .val (.long qb), .second, .val (.long qc), .second, .val (.long qd), .second, .val (.long qg), .second, .val (.int pf), .val (.long e1), .second, .val (.long z1), .second, .val (.long s1), .second, .val (.long e2), .second, .val (.long z2), .second, .unset, .unset, .unset, .unset, .unset, .unset] [(.int (pf &&& (4 : Int32)))])) _
      refine XS.ifNo X5.here hx rfl (hb hby at_70) rfl (XT.i0_eq_f hc70_15) ?_
      show Steps p.tables e below (T5.setTop (mkF m 73 #[.val (.long qa), .second, .val (.long qb), .second, .val (.long qc), .second, .val (.long qd), .second, .val (.long qg), .second, .val (.int pf), .val (.long e1), .second, .val (.long z1), .second, .val (.long s1), .second, .val (.long e2), .second, .val (.long z2), .second, .unset, .unset, .unset, .unset, .unset, .unset] [])) _
      refine XS.lconst X5.here hx rfl (hb hby at_73) ?_
      show Steps p.tables e below (T5.setTop (mkF m 74 #[.val (.long qa), .second, .val (.long qb), .second, .val (.long qc), .second, .val (.long qd), .second, .val (.long qg), .second, .val (.int pf), .val (.long e1), .second, .val (.long z1), .second, .val (.long s1), .second, .val (.long e2), .second, .val (.long z2), .second, .unset, .unset, .unset, .unset, .unset, .unset] [(.long (1 : Int64))])) _
      refine XS.lload X5.here hx rfl (hb hby at_74) rfl ?_
      show Steps p.tables e below (T5.setTop (mkF m 76 #[.val (.long qa), .second, .val (.long qb), .second, .val (.long qc), .second, .val (.long qd), .second, .val (.long qg), .second, .val (.int pf), .val (.long e1), .second, .val (.long z1), .second, .val (.long s1), .second, .val (.long e2), .second, .val (.long z2), .second, .unset, .unset, .unset, .unset, .unset, .unset] [(.long qd), (.long (1 : Int64))])) _
      refine XS.lload X5.here hx rfl (hb hby at_76) rfl ?_
      show Steps p.tables e below (T5.setTop (mkF m 78 #[.val (.long qa), .second, .val (.long qb), .second, .val (.long qc), .second, .val (.long qd), .second, .val (.long qg), .second, .val (.int pf), .val (.long e1), .second, .val (.long z1), .second, .val (.long s1), .second, .val (.long e2), .second, .val (.long z2), .second, .unset, .unset, .unset, .unset, .unset, .unset] [(.long qg), (.long qd), (.long (1 : Int64))])) _
      refine XS.lxor X5.here hx rfl (hb hby at_78) rfl ?_
      show Steps p.tables e below (T5.setTop (mkF m 79 #[.val (.long qa), .second, .val (.long qb), .second, .val (.long qc), .second, .val (.long qd), .second, .val (.long qg), .second, .val (.int pf), .val (.long e1), .second, .val (.long z1), .second, .val (.long s1), .second, .val (.long e2), .second, .val (.long z2), .second, .unset, .unset, .unset, .unset, .unset, .unset] [(.long (qd ^^^ qg)), (.long (1 : Int64))])) _
      refine Stand.ldc2J (g := (mkF m 79 #[.val (.long qa), .second, .val (.long qb), .second, .val (.long qc), .second, .val (.long qd), .second, .val (.long qg), .second, .val (.int pf), .val (.long e1), .second, .val (.long z1), .second, .val (.long s1), .second, .val (.long e2), .second, .val (.long z2), .second, .unset, .unset, .unset, .unset, .unset, .unset] [(.long (qd ^^^ qg)), (.long (1 : Int64))])) X5 hx hown (mvT hZ (hw _ (List.mem_of_getElem? (i := 1) rfl))) rfl (hb hby at_79) ?_
      show Steps p.tables e below (T5.setTop (mkF m 82 #[.val (.long qa), .second, .val (.long qb), .second, .val (.long qc), .second, .val (.long qd), .second, .val (.long qg), .second, .val (.int pf), .val (.long e1), .second, .val (.long z1), .second, .val (.long s1), .second, .val (.long e2), .second, .val (.long z2), .second, .unset, .unset, .unset, .unset, .unset, .unset] [(.long (9223372036854775807 : Int64)), (.long (qd ^^^ qg)), (.long (1 : Int64))])) _
      refine XS.land X5.here hx rfl (hb hby at_82) rfl ?_
      show Steps p.tables e below (T5.setTop (mkF m 83 #[.val (.long qa), .second, .val (.long qb), .second, .val (.long qc), .second, .val (.long qd), .second, .val (.long qg), .second, .val (.int pf), .val (.long e1), .second, .val (.long z1), .second, .val (.long s1), .second, .val (.long e2), .second, .val (.long z2), .second, .unset, .unset, .unset, .unset, .unset, .unset] [(.long ((qd ^^^ qg) &&& (9223372036854775807 : Int64))), (.long (1 : Int64))])) _
      refine st84 _ ?_
      show Steps p.tables e below (T84.setTop (mkF m 86 #[.val (.long qa), .second, .val (.long qb), .second, .val (.long qc), .second, .val (.long qd), .second, .val (.long qg), .second, .val (.int pf), .val (.long e1), .second, .val (.long z1), .second, .val (.long s1), .second, .val (.long e2), .second, .val (.long z2), .second, .unset, .unset, .unset, .unset, .unset, .unset] [(.long (fn1 (1 : Int64) ((qd ^^^ qg) &&& (9223372036854775807 : Int64))))])) _
      refine XS.goto X84.here hx rfl (pc0 := 86) (pc' := 91) rfl (hb hby at_86) (by decide) (by decide) ?_
      exact kt
    obtain ⟨s2, h_s2⟩ : ∃ z : Int64, z = (fn1 (1 : Int64) ((qd ^^^ qg) &&& (9223372036854775807 : Int64))) := ⟨_, rfl⟩
    have pre86 : ∀ t, Steps p.tables e below (T84.setTop (mkF m 91 #[.val (.long qa), .second, .val (.long qb), .second, .val (.long qc), .second, .val (.long qd), .second, .val (.long qg), .second, .val (.int pf), .val (.long e1), .second, .val (.long z1), .second, .val (.long s1), .second, .val (.long e2), .second, .val (.long z2), .second, .unset, .unset, .unset, .unset, .unset, .unset] [(.long s2)])) t → Steps p.tables e below (s₁.setTop (entryFrame m #[(.long qa), (.long qb), (.long qc), (.long qd), (.long qg), (.int pf)] maxLocals)) t := by
      intro t kt
      rw [h_s2] at kt
      exact pre85 _ kt
    obtain ⟨T87, gh87, X87, hE87, E87, A87, D87, -, st87⟩ := newO X84 hx hZ hown (hw _ (List.mem_of_getElem? (i := 6) rfl)) (hw _ (List.mem_of_getElem? (i := 7) rfl)) (hw _ (List.mem_of_getElem? (i := 8) rfl)) hE84 (g := (mkF m 93 #[.val (.long qa), .second, .val (.long qb), .second, .val (.long qc), .second, .val (.long qd), .second, .val (.long qg), .second, .val (.int pf), .val (.long e1), .second, .val (.long z1), .second, .val (.long s1), .second, .val (.long e2), .second, .val (.long z2), .second, .val (.long s2), .second, .unset, .unset, .unset, .unset] [])) rfl (hb hby at_93) (by decide) (by decide)
    obtain ⟨v1, g87⟩ : ∃ z, z = h0.size := ⟨_, rfl⟩
    rw [← g87] at A87 D87 st87
    have g_v1 : n0 ≤ v1 := Nat.le_trans Z0 (Nat.le_of_eq g87.symm)
    have f88 := O0.ext E87
    have Z89 := Nat.le_trans Z0 E87.1
    have F_epoch_v1 : Fld Z gh87 v1 "com/example/quorumvote/quorumvote/election/Vote" "epoch" "J" (.long (0 : Int64)) := D87 (Or.inr (hw _ (List.mem_of_getElem? (i := 29) rfl))) (ty := .long) (by decide)
    have F_zxid_v1 : Fld Z gh87 v1 "com/example/quorumvote/quorumvote/election/Vote" "zxid" "J" (.long (0 : Int64)) := D87 (Or.inr (hw _ (List.mem_of_getElem? (i := 31) rfl))) (ty := .long) (by decide)
    have F_serverId_v1 : Fld Z gh87 v1 "com/example/quorumvote/quorumvote/election/Vote" "serverId" "J" (.long (0 : Int64)) := D87 (Or.inr (hw _ (List.mem_of_getElem? (i := 33) rfl))) (ty := .long) (by decide)
    obtain ⟨_, _, ⟨T90, L90, k90, n90⟩, -, X90, ⟨Lc90, hQ90, l90, y90, z90⟩, st90⟩ := X87.specialBack hx (y := (⟨"com/example/quorumvote/quorumvote/election/Vote", "<init>", "(JJJ)V"⟩ : MethodName)) rfl hown (mvT hZ (hw _ (List.mem_of_getElem? (i := 9) rfl))) (mvT hZ (hw _ (List.mem_of_getElem? (i := 10) rfl))) (mvT hZ (hw _ (List.mem_of_getElem? (i := 11) rfl))) (by decide) (backOf (W := 1) (rm2 l Z a0 hw [] v1 e1 z1 s1 gh87 n0 Z89 A87 F_epoch_v1 F_zxid_v1 F_serverId_v1 g_v1 (own_e0 _ _ h_e1) (own_e9 _ _ h_e1) (own_z0 _ _ h_z1) (own_s0 _ _ h_s1)) hZ (hw _ (List.mem_of_getElem? (i := 11) rfl)) (hw _ (List.mem_of_getElem? (i := 8) rfl)) (by decide) (by decide)) (g := (mkF m 103 #[.val (.long qa), .second, .val (.long qb), .second, .val (.long qc), .second, .val (.long qd), .second, .val (.long qg), .second, .val (.int pf), .val (.long e1), .second, .val (.long z1), .second, .val (.long s1), .second, .val (.long e2), .second, .val (.long z2), .second, .val (.long s2), .second, .unset, .unset, .unset, .unset] [(.long s1), (.long z1), (.long e1), (.ref v1), (.ref v1)])) rfl (by rw [hml]; rfl) (Steps.refl _) (a := v1) (argsL := [(.long e1), (.long z1), (.long s1)]) (rest := [(.ref v1)]) (lenOf pd_4 rfl) rfl (by show 2 * 0 + _ ≤ _; exact Nat.le_of_eq rfl) (hb hby at_103) (fun _ _ => ⟨rfl, hE87, (by decide : 1 + 0 ≤ _), (by decide : 3 + 0 ≤ _)⟩)
    dsimp only [Pt.U, Pt.locs, Pt.cells, Pt.slots] at X90 l90 y90 z90 st90 hQ90
    subst l90 y90 z90
    obtain ⟨rfl, N90q, K90, p90_0, p90_1, p90_2, p90_3⟩ := hQ90
    have N90 := Fr.app N84 N90q
    have f91 := f88.keep K90 (allS g_v1 all0)
    have f92 := A87.keep K90
    have Z96 := Nat.le_trans Z89 K90.1
    obtain ⟨T97, gh97, X97, hE97, E97, A97, D97, -, st97⟩ := newO X90 hx hZ hown (hw _ (List.mem_of_getElem? (i := 6) rfl)) (hw _ (List.mem_of_getElem? (i := 7) rfl)) (hw _ (List.mem_of_getElem? (i := 8) rfl)) rfl (g := (mkF m 108 #[.val (.long qa), .second, .val (.long qb), .second, .val (.long qc), .second, .val (.long qd), .second, .val (.long qg), .second, .val (.int pf), .val (.long e1), .second, .val (.long z1), .second, .val (.long s1), .second, .val (.long e2), .second, .val (.long z2), .second, .val (.long s2), .second, .val (.ref v1), .unset, .unset, .unset] [])) rfl (hb hby at_108) (by decide) (by decide)
    obtain ⟨v2, g97⟩ : ∃ z, z = T90.heap.size := ⟨_, rfl⟩
    rw [← g97] at A97 D97 st97
    have ne_v1_v2 : v1 ≠ v2 := Nat.ne_of_lt (Nat.lt_of_lt_of_le p90_0.lt (Nat.le_of_eq g97.symm))
    have g_v2 : n0 ≤ v2 := Nat.le_trans Z96 (Nat.le_of_eq g97.symm)
    have f98 := f91.ext E97
    have f99 := p90_0.ext E97
    have f100 := p90_1.ext E97
    have f101 := p90_2.ext E97
    have f102 := p90_3.ext E97
    have Z103 := Nat.le_trans Z96 E97.1
    have F_epoch_v2 : Fld Z gh97 v2 "com/example/quorumvote/quorumvote/election/Vote" "epoch" "J" (.long (0 : Int64)) := D97 (Or.inr (hw _ (List.mem_of_getElem? (i := 29) rfl))) (ty := .long) (by decide)
    have F_zxid_v2 : Fld Z gh97 v2 "com/example/quorumvote/quorumvote/election/Vote" "zxid" "J" (.long (0 : Int64)) := D97 (Or.inr (hw _ (List.mem_of_getElem? (i := 31) rfl))) (ty := .long) (by decide)
    have F_serverId_v2 : Fld Z gh97 v2 "com/example/quorumvote/quorumvote/election/Vote" "serverId" "J" (.long (0 : Int64)) := D97 (Or.inr (hw _ (List.mem_of_getElem? (i := 33) rfl))) (ty := .long) (by decide)
    obtain ⟨_, _, ⟨T104, L104, k104, n104⟩, -, X104, ⟨Lc104, hQ104, l104, y104, z104⟩, st104⟩ := X97.specialBack hx (y := (⟨"com/example/quorumvote/quorumvote/election/Vote", "<init>", "(JJJ)V"⟩ : MethodName)) rfl hown (mvT hZ (hw _ (List.mem_of_getElem? (i := 9) rfl))) (mvT hZ (hw _ (List.mem_of_getElem? (i := 10) rfl))) (mvT hZ (hw _ (List.mem_of_getElem? (i := 11) rfl))) (by decide) (backOf (W := 1) (rm2 l Z a0 hw [] v2 e2 z2 s2 gh97 n0 Z103 A97 F_epoch_v2 F_zxid_v2 F_serverId_v2 g_v2 (own_e20 _ _ _ _ _ h_e1 h_e2) (own_e29 _ _ _ _ _ h_e1 h_e2) (own_z20 _ _ _ _ _ h_z1 h_z2) (by first | exact own_s0 _ _ (h_s2.trans h_s1) | exact own_s0 _ _ h_s2)) hZ (hw _ (List.mem_of_getElem? (i := 11) rfl)) (hw _ (List.mem_of_getElem? (i := 8) rfl)) (by decide) (by decide)) (g := (mkF m 118 #[.val (.long qa), .second, .val (.long qb), .second, .val (.long qc), .second, .val (.long qd), .second, .val (.long qg), .second, .val (.int pf), .val (.long e1), .second, .val (.long z1), .second, .val (.long s1), .second, .val (.long e2), .second, .val (.long z2), .second, .val (.long s2), .second, .val (.ref v1), .unset, .unset, .unset] [(.long s2), (.long z2), (.long e2), (.ref v2), (.ref v2)])) rfl (by rw [hml]; rfl) (Steps.refl _) (a := v2) (argsL := [(.long e2), (.long z2), (.long s2)]) (rest := [(.ref v2)]) (lenOf pd_4 rfl) rfl (by show 2 * 0 + _ ≤ _; exact Nat.le_of_eq rfl) (hb hby at_118) (fun _ _ => ⟨rfl, hE97, (by decide : 2 + 0 ≤ _), (by decide : 6 + 0 ≤ _)⟩)
    dsimp only [Pt.U, Pt.locs, Pt.cells, Pt.slots] at X104 l104 y104 z104 st104 hQ104
    subst l104 y104 z104
    obtain ⟨rfl, N104q, K104, p104_0, p104_1, p104_2, p104_3⟩ := hQ104
    have N104 := Fr.app N90 N104q
    have f105 := f98.keep K104 (allS g_v2 all0)
    have f106 := f99.keep K104
    have f107 := f100.keep K104 (ninS ne_v1_v2 nin0)
    have f108 := f101.keep K104 (ninS ne_v1_v2 nin0)
    have f109 := f102.keep K104 (ninS ne_v1_v2 nin0)
    have f110 := A97.keep K104
    have Z114 := Nat.le_trans Z103 K104.1
    have pre115 : ∀ t, Steps p.tables e below (T104.setTop (mkF m 129 #[.val (.long qa), .second, .val (.long qb), .second, .val (.long qc), .second, .val (.long qd), .second, .val (.long qg), .second, .val (.int pf), .val (.long e1), .second, .val (.long z1), .second, .val (.long s1), .second, .val (.long e2), .second, .val (.long z2), .second, .val (.long s2), .second, .val (.ref v1), .val (.ref v2), .unset, .unset] [(.int (((pf.toUInt32 >>> ((3 : Int32) &&& 31).toUInt32).toInt32) &&& (3 : Int32)))])) t → Steps p.tables e below (s₁.setTop (entryFrame m #[(.long qa), (.long qb), (.long qc), (.long qd), (.long qg), (.int pf)] maxLocals)) t := by
      intro t kt
      refine pre86 _ ?_
      show Steps p.tables e below (T84.setTop (mkF m 91 #[.val (.long qa), .second, .val (.long qb), .second, .val (.long qc), .second, .val (.long qd), .second, .val (.long qg), .second, .val (.int pf), .val (.long e1), .second, .val (.long z1), .second, .val (.long s1), .second, .val (.long e2), .second, .val (.long z2), .second, .unset, .unset, .unset, .unset, .unset, .unset] [(.long s2)])) _
      refine XS.lstore X84.here hx rfl (hb hby at_91) rfl (l' := #[.val (.long qa), .second, .val (.long qb), .second, .val (.long qc), .second, .val (.long qd), .second, .val (.long qg), .second, .val (.int pf), .val (.long e1), .second, .val (.long z1), .second, .val (.long s1), .second, .val (.long e2), .second, .val (.long z2), .second, .val (.long s2), .second, .unset, .unset, .unset, .unset]) rfl ?_
      show Steps p.tables e below (T84.setTop (mkF m 93 #[.val (.long qa), .second, .val (.long qb), .second, .val (.long qc), .second, .val (.long qd), .second, .val (.long qg), .second, .val (.int pf), .val (.long e1), .second, .val (.long z1), .second, .val (.long s1), .second, .val (.long e2), .second, .val (.long z2), .second, .val (.long s2), .second, .unset, .unset, .unset, .unset] [])) _
      refine st87 _ ?_
      show Steps p.tables e below (T87.setTop (mkF m 96 #[.val (.long qa), .second, .val (.long qb), .second, .val (.long qc), .second, .val (.long qd), .second, .val (.long qg), .second, .val (.int pf), .val (.long e1), .second, .val (.long z1), .second, .val (.long s1), .second, .val (.long e2), .second, .val (.long z2), .second, .val (.long s2), .second, .unset, .unset, .unset, .unset] [(.ref v1)])) _
      refine XS.dup X87.here hx rfl (hb hby at_96) rfl rfl ?_
      show Steps p.tables e below (T87.setTop (mkF m 97 #[.val (.long qa), .second, .val (.long qb), .second, .val (.long qc), .second, .val (.long qd), .second, .val (.long qg), .second, .val (.int pf), .val (.long e1), .second, .val (.long z1), .second, .val (.long s1), .second, .val (.long e2), .second, .val (.long z2), .second, .val (.long s2), .second, .unset, .unset, .unset, .unset] [(.ref v1), (.ref v1)])) _
      refine XS.lload X87.here hx rfl (hb hby at_97) rfl ?_
      show Steps p.tables e below (T87.setTop (mkF m 99 #[.val (.long qa), .second, .val (.long qb), .second, .val (.long qc), .second, .val (.long qd), .second, .val (.long qg), .second, .val (.int pf), .val (.long e1), .second, .val (.long z1), .second, .val (.long s1), .second, .val (.long e2), .second, .val (.long z2), .second, .val (.long s2), .second, .unset, .unset, .unset, .unset] [(.long e1), (.ref v1), (.ref v1)])) _
      refine XS.lload X87.here hx rfl (hb hby at_99) rfl ?_
      show Steps p.tables e below (T87.setTop (mkF m 101 #[.val (.long qa), .second, .val (.long qb), .second, .val (.long qc), .second, .val (.long qd), .second, .val (.long qg), .second, .val (.int pf), .val (.long e1), .second, .val (.long z1), .second, .val (.long s1), .second, .val (.long e2), .second, .val (.long z2), .second, .val (.long s2), .second, .unset, .unset, .unset, .unset] [(.long z1), (.long e1), (.ref v1), (.ref v1)])) _
      refine XS.lload X87.here hx rfl (hb hby at_101) rfl ?_
      show Steps p.tables e below (T87.setTop (mkF m 103 #[.val (.long qa), .second, .val (.long qb), .second, .val (.long qc), .second, .val (.long qd), .second, .val (.long qg), .second, .val (.int pf), .val (.long e1), .second, .val (.long z1), .second, .val (.long s1), .second, .val (.long e2), .second, .val (.long z2), .second, .val (.long s2), .second, .unset, .unset, .unset, .unset] [(.long s1), (.long z1), (.long e1), (.ref v1), (.ref v1)])) _
      refine st90.trans ?_
      show Steps p.tables e below (T90.setTop (mkF m 106 #[.val (.long qa), .second, .val (.long qb), .second, .val (.long qc), .second, .val (.long qd), .second, .val (.long qg), .second, .val (.int pf), .val (.long e1), .second, .val (.long z1), .second, .val (.long s1), .second, .val (.long e2), .second, .val (.long z2), .second, .val (.long s2), .second, .unset, .unset, .unset, .unset] [(.ref v1)])) _
      refine XS.astore X90.here hx rfl (hb hby at_106) rfl rfl (l' := #[.val (.long qa), .second, .val (.long qb), .second, .val (.long qc), .second, .val (.long qd), .second, .val (.long qg), .second, .val (.int pf), .val (.long e1), .second, .val (.long z1), .second, .val (.long s1), .second, .val (.long e2), .second, .val (.long z2), .second, .val (.long s2), .second, .val (.ref v1), .unset, .unset, .unset]) rfl ?_
      show Steps p.tables e below (T90.setTop (mkF m 108 #[.val (.long qa), .second, .val (.long qb), .second, .val (.long qc), .second, .val (.long qd), .second, .val (.long qg), .second, .val (.int pf), .val (.long e1), .second, .val (.long z1), .second, .val (.long s1), .second, .val (.long e2), .second, .val (.long z2), .second, .val (.long s2), .second, .val (.ref v1), .unset, .unset, .unset] [])) _
      refine st97 _ ?_
      show Steps p.tables e below (T97.setTop (mkF m 111 #[.val (.long qa), .second, .val (.long qb), .second, .val (.long qc), .second, .val (.long qd), .second, .val (.long qg), .second, .val (.int pf), .val (.long e1), .second, .val (.long z1), .second, .val (.long s1), .second, .val (.long e2), .second, .val (.long z2), .second, .val (.long s2), .second, .val (.ref v1), .unset, .unset, .unset] [(.ref v2)])) _
      refine XS.dup X97.here hx rfl (hb hby at_111) rfl rfl ?_
      show Steps p.tables e below (T97.setTop (mkF m 112 #[.val (.long qa), .second, .val (.long qb), .second, .val (.long qc), .second, .val (.long qd), .second, .val (.long qg), .second, .val (.int pf), .val (.long e1), .second, .val (.long z1), .second, .val (.long s1), .second, .val (.long e2), .second, .val (.long z2), .second, .val (.long s2), .second, .val (.ref v1), .unset, .unset, .unset] [(.ref v2), (.ref v2)])) _
      refine XS.lload X97.here hx rfl (hb hby at_112) rfl ?_
      show Steps p.tables e below (T97.setTop (mkF m 114 #[.val (.long qa), .second, .val (.long qb), .second, .val (.long qc), .second, .val (.long qd), .second, .val (.long qg), .second, .val (.int pf), .val (.long e1), .second, .val (.long z1), .second, .val (.long s1), .second, .val (.long e2), .second, .val (.long z2), .second, .val (.long s2), .second, .val (.ref v1), .unset, .unset, .unset] [(.long e2), (.ref v2), (.ref v2)])) _
      refine XS.lload X97.here hx rfl (hb hby at_114) rfl ?_
      show Steps p.tables e below (T97.setTop (mkF m 116 #[.val (.long qa), .second, .val (.long qb), .second, .val (.long qc), .second, .val (.long qd), .second, .val (.long qg), .second, .val (.int pf), .val (.long e1), .second, .val (.long z1), .second, .val (.long s1), .second, .val (.long e2), .second, .val (.long z2), .second, .val (.long s2), .second, .val (.ref v1), .unset, .unset, .unset] [(.long z2), (.long e2), (.ref v2), (.ref v2)])) _
      refine XS.lload X97.here hx rfl (hb hby at_116) rfl ?_
      show Steps p.tables e below (T97.setTop (mkF m 118 #[.val (.long qa), .second, .val (.long qb), .second, .val (.long qc), .second, .val (.long qd), .second, .val (.long qg), .second, .val (.int pf), .val (.long e1), .second, .val (.long z1), .second, .val (.long s1), .second, .val (.long e2), .second, .val (.long z2), .second, .val (.long s2), .second, .val (.ref v1), .unset, .unset, .unset] [(.long s2), (.long z2), (.long e2), (.ref v2), (.ref v2)])) _
      refine st104.trans ?_
      show Steps p.tables e below (T104.setTop (mkF m 121 #[.val (.long qa), .second, .val (.long qb), .second, .val (.long qc), .second, .val (.long qd), .second, .val (.long qg), .second, .val (.int pf), .val (.long e1), .second, .val (.long z1), .second, .val (.long s1), .second, .val (.long e2), .second, .val (.long z2), .second, .val (.long s2), .second, .val (.ref v1), .unset, .unset, .unset] [(.ref v2)])) _
      refine XS.astore X104.here hx rfl (hb hby at_121) rfl rfl (l' := #[.val (.long qa), .second, .val (.long qb), .second, .val (.long qc), .second, .val (.long qd), .second, .val (.long qg), .second, .val (.int pf), .val (.long e1), .second, .val (.long z1), .second, .val (.long s1), .second, .val (.long e2), .second, .val (.long z2), .second, .val (.long s2), .second, .val (.ref v1), .val (.ref v2), .unset, .unset]) rfl ?_
      show Steps p.tables e below (T104.setTop (mkF m 123 #[.val (.long qa), .second, .val (.long qb), .second, .val (.long qc), .second, .val (.long qd), .second, .val (.long qg), .second, .val (.int pf), .val (.long e1), .second, .val (.long z1), .second, .val (.long s1), .second, .val (.long e2), .second, .val (.long z2), .second, .val (.long s2), .second, .val (.ref v1), .val (.ref v2), .unset, .unset] [])) _
      refine XS.iload X104.here hx rfl (hb hby at_123) rfl ?_
      show Steps p.tables e below (T104.setTop (mkF m 125 #[.val (.long qa), .second, .val (.long qb), .second, .val (.long qc), .second, .val (.long qd), .second, .val (.long qg), .second, .val (.int pf), .val (.long e1), .second, .val (.long z1), .second, .val (.long s1), .second, .val (.long e2), .second, .val (.long z2), .second, .val (.long s2), .second, .val (.ref v1), .val (.ref v2), .unset, .unset] [(.int pf)])) _
      refine XS.iconst X104.here hx rfl (hb hby at_125) ?_
      show Steps p.tables e below (T104.setTop (mkF m 126 #[.val (.long qa), .second, .val (.long qb), .second, .val (.long qc), .second, .val (.long qd), .second, .val (.long qg), .second, .val (.int pf), .val (.long e1), .second, .val (.long z1), .second, .val (.long s1), .second, .val (.long e2), .second, .val (.long z2), .second, .val (.long s2), .second, .val (.ref v1), .val (.ref v2), .unset, .unset] [(.int (3 : Int32)), (.int pf)])) _
      refine XS.iushr X104.here hx rfl (hb hby at_126) rfl ?_
      show Steps p.tables e below (T104.setTop (mkF m 127 #[.val (.long qa), .second, .val (.long qb), .second, .val (.long qc), .second, .val (.long qd), .second, .val (.long qg), .second, .val (.int pf), .val (.long e1), .second, .val (.long z1), .second, .val (.long s1), .second, .val (.long e2), .second, .val (.long z2), .second, .val (.long s2), .second, .val (.ref v1), .val (.ref v2), .unset, .unset] [(.int ((pf.toUInt32 >>> ((3 : Int32) &&& 31).toUInt32).toInt32))])) _
      refine XS.iconst X104.here hx rfl (hb hby at_127) ?_
      show Steps p.tables e below (T104.setTop (mkF m 128 #[.val (.long qa), .second, .val (.long qb), .second, .val (.long qc), .second, .val (.long qd), .second, .val (.long qg), .second, .val (.int pf), .val (.long e1), .second, .val (.long z1), .second, .val (.long s1), .second, .val (.long e2), .second, .val (.long z2), .second, .val (.long s2), .second, .val (.ref v1), .val (.ref v2), .unset, .unset] [(.int (3 : Int32)), (.int ((pf.toUInt32 >>> ((3 : Int32) &&& 31).toUInt32).toInt32))])) _
      refine XS.iand X104.here hx rfl (hb hby at_128) rfl ?_
      exact kt
    obtain ⟨mo, h_mo⟩ : ∃ z : Int32, z = (((pf.toUInt32 >>> ((3 : Int32) &&& 31).toUInt32).toInt32) &&& (3 : Int32)) := ⟨_, rfl⟩
    have pre116 : ∀ t, Steps p.tables e below (T104.setTop (mkF m 129 #[.val (.long qa), .second, .val (.long qb), .second, .val (.long qc), .second, .val (.long qd), .second, .val (.long qg), .second, .val (.int pf), .val (.long e1), .second, .val (.long z1), .second, .val (.long s1), .second, .val (.long e2), .second, .val (.long z2), .second, .val (.long s2), .second, .val (.ref v1), .val (.ref v2), .unset, .unset] [(.int mo)])) t → Steps p.tables e below (s₁.setTop (entryFrame m #[(.long qa), (.long qb), (.long qc), (.long qd), (.long qg), (.int pf)] maxLocals)) t := by
      intro t kt
      rw [h_mo] at kt
      exact pre115 _ kt
    have pre117 : ∀ t, Steps p.tables e below (T104.setTop (mkF m 133 #[.val (.long qa), .second, .val (.long qb), .second, .val (.long qc), .second, .val (.long qd), .second, .val (.long qg), .second, .val (.int pf), .val (.long e1), .second, .val (.long z1), .second, .val (.long s1), .second, .val (.long e2), .second, .val (.long z2), .second, .val (.long s2), .second, .val (.ref v1), .val (.ref v2), .val (.int mo), .unset] [(.int mo)])) t → Steps p.tables e below (s₁.setTop (entryFrame m #[(.long qa), (.long qb), (.long qc), (.long qd), (.long qg), (.int pf)] maxLocals)) t := by
      intro t kt
      refine pre116 _ ?_
      show Steps p.tables e below (T104.setTop (mkF m 129 #[.val (.long qa), .second, .val (.long qb), .second, .val (.long qc), .second, .val (.long qd), .second, .val (.long qg), .second, .val (.int pf), .val (.long e1), .second, .val (.long z1), .second, .val (.long s1), .second, .val (.long e2), .second, .val (.long z2), .second, .val (.long s2), .second, .val (.ref v1), .val (.ref v2), .unset, .unset] [(.int mo)])) _
      refine XS.istore X104.here hx rfl (hb hby at_129) rfl (l' := #[.val (.long qa), .second, .val (.long qb), .second, .val (.long qc), .second, .val (.long qd), .second, .val (.long qg), .second, .val (.int pf), .val (.long e1), .second, .val (.long z1), .second, .val (.long s1), .second, .val (.long e2), .second, .val (.long z2), .second, .val (.long s2), .second, .val (.ref v1), .val (.ref v2), .val (.int mo), .unset]) rfl ?_
      show Steps p.tables e below (T104.setTop (mkF m 131 #[.val (.long qa), .second, .val (.long qb), .second, .val (.long qc), .second, .val (.long qd), .second, .val (.long qg), .second, .val (.int pf), .val (.long e1), .second, .val (.long z1), .second, .val (.long s1), .second, .val (.long e2), .second, .val (.long z2), .second, .val (.long s2), .second, .val (.ref v1), .val (.ref v2), .val (.int mo), .unset] [])) _
      refine XS.iload X104.here hx rfl (hb hby at_131) rfl ?_
      exact kt
    by_cases hc133_118 : mo = (0 : Int32)
    · skip
      have pre119 : ∀ t, Steps p.tables e below (T104.setTop (mkF m 141 #[.val (.long qa), .second, .val (.long qb), .second, .val (.long qc), .second, .val (.long qd), .second, .val (.long qg), .second, .val (.int pf), .val (.long e1), .second, .val (.long z1), .second, .val (.long s1), .second, .val (.long e2), .second, .val (.long z2), .second, .val (.long s2), .second, .val (.ref v1), .val (.ref v2), .val (.int mo), .unset] [(.int (XT.cmpL e1 e2))])) t → Steps p.tables e below (s₁.setTop (entryFrame m #[(.long qa), (.long qb), (.long qc), (.long qd), (.long qg), (.int pf)] maxLocals)) t := by
        intro t kt
        refine pre117 _ ?_
        show Steps p.tables e below (T104.setTop (mkF m 133 #[.val (.long qa), .second, .val (.long qb), .second, .val (.long qc), .second, .val (.long qd), .second, .val (.long qg), .second, .val (.int pf), .val (.long e1), .second, .val (.long z1), .second, .val (.long s1), .second, .val (.long e2), .second, .val (.long z2), .second, .val (.long s2), .second, .val (.ref v1), .val (.ref v2), .val (.int mo), .unset] [(.int mo)])) _
        refine XS.ifNo X104.here hx rfl (hb hby at_133) rfl (XT.i0_ne_f hc133_118) ?_
        show Steps p.tables e below (T104.setTop (mkF m 136 #[.val (.long qa), .second, .val (.long qb), .second, .val (.long qc), .second, .val (.long qd), .second, .val (.long qg), .second, .val (.int pf), .val (.long e1), .second, .val (.long z1), .second, .val (.long s1), .second, .val (.long e2), .second, .val (.long z2), .second, .val (.long s2), .second, .val (.ref v1), .val (.ref v2), .val (.int mo), .unset] [])) _
        refine XS.lload X104.here hx rfl (hb hby at_136) rfl ?_
        show Steps p.tables e below (T104.setTop (mkF m 138 #[.val (.long qa), .second, .val (.long qb), .second, .val (.long qc), .second, .val (.long qd), .second, .val (.long qg), .second, .val (.int pf), .val (.long e1), .second, .val (.long z1), .second, .val (.long s1), .second, .val (.long e2), .second, .val (.long z2), .second, .val (.long s2), .second, .val (.ref v1), .val (.ref v2), .val (.int mo), .unset] [(.long e1)])) _
        refine XS.lload X104.here hx rfl (hb hby at_138) rfl ?_
        show Steps p.tables e below (T104.setTop (mkF m 140 #[.val (.long qa), .second, .val (.long qb), .second, .val (.long qc), .second, .val (.long qd), .second, .val (.long qg), .second, .val (.int pf), .val (.long e1), .second, .val (.long z1), .second, .val (.long s1), .second, .val (.long e2), .second, .val (.long z2), .second, .val (.long s2), .second, .val (.ref v1), .val (.ref v2), .val (.int mo), .unset] [(.long e2), (.long e1)])) _
        refine XT.lcmp X104.here hx rfl (hb hby at_140) rfl ?_
        exact kt
      obtain ⟨ex, h_ex⟩ : ∃ z : Int32, z = (if e1 = e2 then (if z1 = z2 then (if s1 = s2 then (1 : Int32) else (0 : Int32)) else (0 : Int32)) else (0 : Int32)) := ⟨_, rfl⟩
      have pre123 : ∀ t, Steps p.tables e below (T104.setTop (mkF m 165 #[.val (.long qa), .second, .val (.long qb), .second, .val (.long qc), .second, .val (.long qd), .second, .val (.long qg), .second, .val (.int pf), .val (.long e1), .second, .val (.long z1), .second, .val (.long s1), .second, .val (.long e2), .second, .val (.long z2), .second, .val (.long s2), .second, .val (.ref v1), .val (.ref v2), .val (.int mo), .unset] [(.int ex)])) t → Steps p.tables e below (s₁.setTop (entryFrame m #[(.long qa), (.long qb), (.long qc), (.long qd), (.long qg), (.int pf)] maxLocals)) t := by
        intro t kt
        refine pre119 _ ?_
        by_cases hc141_120 : e1 = e2
        · skip
          show Steps p.tables e below (T104.setTop (mkF m 141 #[.val (.long qa), .second, .val (.long qb), .second, .val (.long qc), .second, .val (.long qd), .second, .val (.long qg), .second, .val (.int pf), .val (.long e1), .second, .val (.long z1), .second, .val (.long s1), .second, .val (.long e2), .second, .val (.long z2), .second, .val (.long s2), .second, .val (.ref v1), .val (.ref v2), .val (.int mo), .unset] [(.int (XT.cmpL e1 e2))])) _
          refine XS.ifNo X104.here hx rfl (hb hby at_141) rfl (XT.ll_ne_f hc141_120) ?_
          show Steps p.tables e below (T104.setTop (mkF m 144 #[.val (.long qa), .second, .val (.long qb), .second, .val (.long qc), .second, .val (.long qd), .second, .val (.long qg), .second, .val (.int pf), .val (.long e1), .second, .val (.long z1), .second, .val (.long s1), .second, .val (.long e2), .second, .val (.long z2), .second, .val (.long s2), .second, .val (.ref v1), .val (.ref v2), .val (.int mo), .unset] [])) _
          refine XS.lload X104.here hx rfl (hb hby at_144) rfl ?_
          show Steps p.tables e below (T104.setTop (mkF m 146 #[.val (.long qa), .second, .val (.long qb), .second, .val (.long qc), .second, .val (.long qd), .second, .val (.long qg), .second, .val (.int pf), .val (.long e1), .second, .val (.long z1), .second, .val (.long s1), .second, .val (.long e2), .second, .val (.long z2), .second, .val (.long s2), .second, .val (.ref v1), .val (.ref v2), .val (.int mo), .unset] [(.long z1)])) _
          refine XS.lload X104.here hx rfl (hb hby at_146) rfl ?_
          show Steps p.tables e below (T104.setTop (mkF m 148 #[.val (.long qa), .second, .val (.long qb), .second, .val (.long qc), .second, .val (.long qd), .second, .val (.long qg), .second, .val (.int pf), .val (.long e1), .second, .val (.long z1), .second, .val (.long s1), .second, .val (.long e2), .second, .val (.long z2), .second, .val (.long s2), .second, .val (.ref v1), .val (.ref v2), .val (.int mo), .unset] [(.long z2), (.long z1)])) _
          refine XT.lcmp X104.here hx rfl (hb hby at_148) rfl ?_
          by_cases hc149_121 : z1 = z2
          · skip
            show Steps p.tables e below (T104.setTop (mkF m 149 #[.val (.long qa), .second, .val (.long qb), .second, .val (.long qc), .second, .val (.long qd), .second, .val (.long qg), .second, .val (.int pf), .val (.long e1), .second, .val (.long z1), .second, .val (.long s1), .second, .val (.long e2), .second, .val (.long z2), .second, .val (.long s2), .second, .val (.ref v1), .val (.ref v2), .val (.int mo), .unset] [(.int (XT.cmpL z1 z2))])) _
            refine XS.ifNo X104.here hx rfl (hb hby at_149) rfl (XT.ll_ne_f hc149_121) ?_
            show Steps p.tables e below (T104.setTop (mkF m 152 #[.val (.long qa), .second, .val (.long qb), .second, .val (.long qc), .second, .val (.long qd), .second, .val (.long qg), .second, .val (.int pf), .val (.long e1), .second, .val (.long z1), .second, .val (.long s1), .second, .val (.long e2), .second, .val (.long z2), .second, .val (.long s2), .second, .val (.ref v1), .val (.ref v2), .val (.int mo), .unset] [])) _
            refine XS.lload X104.here hx rfl (hb hby at_152) rfl ?_
            show Steps p.tables e below (T104.setTop (mkF m 154 #[.val (.long qa), .second, .val (.long qb), .second, .val (.long qc), .second, .val (.long qd), .second, .val (.long qg), .second, .val (.int pf), .val (.long e1), .second, .val (.long z1), .second, .val (.long s1), .second, .val (.long e2), .second, .val (.long z2), .second, .val (.long s2), .second, .val (.ref v1), .val (.ref v2), .val (.int mo), .unset] [(.long s1)])) _
            refine XS.lload X104.here hx rfl (hb hby at_154) rfl ?_
            show Steps p.tables e below (T104.setTop (mkF m 156 #[.val (.long qa), .second, .val (.long qb), .second, .val (.long qc), .second, .val (.long qd), .second, .val (.long qg), .second, .val (.int pf), .val (.long e1), .second, .val (.long z1), .second, .val (.long s1), .second, .val (.long e2), .second, .val (.long z2), .second, .val (.long s2), .second, .val (.ref v1), .val (.ref v2), .val (.int mo), .unset] [(.long s2), (.long s1)])) _
            refine XT.lcmp X104.here hx rfl (hb hby at_156) rfl ?_
            by_cases hc157_122 : s1 = s2
            · skip
              have q_ex : ex = (1 : Int32) := by rw [h_ex, if_pos hc141_120, if_pos hc149_121, if_pos hc157_122]
              rw [q_ex] at kt
              show Steps p.tables e below (T104.setTop (mkF m 157 #[.val (.long qa), .second, .val (.long qb), .second, .val (.long qc), .second, .val (.long qd), .second, .val (.long qg), .second, .val (.int pf), .val (.long e1), .second, .val (.long z1), .second, .val (.long s1), .second, .val (.long e2), .second, .val (.long z2), .second, .val (.long s2), .second, .val (.ref v1), .val (.ref v2), .val (.int mo), .unset] [(.int (XT.cmpL s1 s2))])) _
              refine XS.ifNo X104.here hx rfl (hb hby at_157) rfl (XT.ll_ne_f hc157_122) ?_
              show Steps p.tables e below (T104.setTop (mkF m 160 #[.val (.long qa), .second, .val (.long qb), .second, .val (.long qc), .second, .val (.long qd), .second, .val (.long qg), .second, .val (.int pf), .val (.long e1), .second, .val (.long z1), .second, .val (.long s1), .second, .val (.long e2), .second, .val (.long z2), .second, .val (.long s2), .second, .val (.ref v1), .val (.ref v2), .val (.int mo), .unset] [])) _
              refine XS.iconst X104.here hx rfl (hb hby at_160) ?_
              show Steps p.tables e below (T104.setTop (mkF m 161 #[.val (.long qa), .second, .val (.long qb), .second, .val (.long qc), .second, .val (.long qd), .second, .val (.long qg), .second, .val (.int pf), .val (.long e1), .second, .val (.long z1), .second, .val (.long s1), .second, .val (.long e2), .second, .val (.long z2), .second, .val (.long s2), .second, .val (.ref v1), .val (.ref v2), .val (.int mo), .unset] [(.int (1 : Int32))])) _
              refine XS.goto X104.here hx rfl (pc0 := 161) (pc' := 165) rfl (hb hby at_161) (by decide) (by decide) ?_
              exact kt
            · skip
              have q_ex : ex = (0 : Int32) := by rw [h_ex, if_pos hc141_120, if_pos hc149_121, if_neg hc157_122]
              rw [q_ex] at kt
              show Steps p.tables e below (T104.setTop (mkF m 157 #[.val (.long qa), .second, .val (.long qb), .second, .val (.long qc), .second, .val (.long qd), .second, .val (.long qg), .second, .val (.int pf), .val (.long e1), .second, .val (.long z1), .second, .val (.long s1), .second, .val (.long e2), .second, .val (.long z2), .second, .val (.long s2), .second, .val (.ref v1), .val (.ref v2), .val (.int mo), .unset] [(.int (XT.cmpL s1 s2))])) _
              refine XS.ifYes X104.here hx rfl (pc0 := 157) (pc' := 164) rfl (hb hby at_157) rfl (XT.ll_ne_t hc157_122) (by decide) (by decide) ?_
              show Steps p.tables e below (T104.setTop (mkF m 164 #[.val (.long qa), .second, .val (.long qb), .second, .val (.long qc), .second, .val (.long qd), .second, .val (.long qg), .second, .val (.int pf), .val (.long e1), .second, .val (.long z1), .second, .val (.long s1), .second, .val (.long e2), .second, .val (.long z2), .second, .val (.long s2), .second, .val (.ref v1), .val (.ref v2), .val (.int mo), .unset] [])) _
              refine XS.iconst X104.here hx rfl (hb hby at_164) ?_
              exact kt
          · skip
            have q_ex : ex = (0 : Int32) := by rw [h_ex, if_pos hc141_120, if_neg hc149_121]
            rw [q_ex] at kt
            show Steps p.tables e below (T104.setTop (mkF m 149 #[.val (.long qa), .second, .val (.long qb), .second, .val (.long qc), .second, .val (.long qd), .second, .val (.long qg), .second, .val (.int pf), .val (.long e1), .second, .val (.long z1), .second, .val (.long s1), .second, .val (.long e2), .second, .val (.long z2), .second, .val (.long s2), .second, .val (.ref v1), .val (.ref v2), .val (.int mo), .unset] [(.int (XT.cmpL z1 z2))])) _
            refine XS.ifYes X104.here hx rfl (pc0 := 149) (pc' := 164) rfl (hb hby at_149) rfl (XT.ll_ne_t hc149_121) (by decide) (by decide) ?_
            show Steps p.tables e below (T104.setTop (mkF m 164 #[.val (.long qa), .second, .val (.long qb), .second, .val (.long qc), .second, .val (.long qd), .second, .val (.long qg), .second, .val (.int pf), .val (.long e1), .second, .val (.long z1), .second, .val (.long s1), .second, .val (.long e2), .second, .val (.long z2), .second, .val (.long s2), .second, .val (.ref v1), .val (.ref v2), .val (.int mo), .unset] [])) _
            refine XS.iconst X104.here hx rfl (hb hby at_164) ?_
            exact kt
        · skip
          have q_ex : ex = (0 : Int32) := by rw [h_ex, if_neg hc141_120]
          rw [q_ex] at kt
          show Steps p.tables e below (T104.setTop (mkF m 141 #[.val (.long qa), .second, .val (.long qb), .second, .val (.long qc), .second, .val (.long qd), .second, .val (.long qg), .second, .val (.int pf), .val (.long e1), .second, .val (.long z1), .second, .val (.long s1), .second, .val (.long e2), .second, .val (.long z2), .second, .val (.long s2), .second, .val (.ref v1), .val (.ref v2), .val (.int mo), .unset] [(.int (XT.cmpL e1 e2))])) _
          refine XS.ifYes X104.here hx rfl (pc0 := 141) (pc' := 164) rfl (hb hby at_141) rfl (XT.ll_ne_t hc141_120) (by decide) (by decide) ?_
          show Steps p.tables e below (T104.setTop (mkF m 164 #[.val (.long qa), .second, .val (.long qb), .second, .val (.long qc), .second, .val (.long qd), .second, .val (.long qg), .second, .val (.int pf), .val (.long e1), .second, .val (.long z1), .second, .val (.long s1), .second, .val (.long e2), .second, .val (.long z2), .second, .val (.long s2), .second, .val (.ref v1), .val (.ref v2), .val (.int mo), .unset] [])) _
          refine XS.iconst X104.here hx rfl (hb hby at_164) ?_
          exact kt
      obtain ⟨cq124, kq124, q124a, q124b, q124c⟩ := isOf hZ rfl f106
      obtain ⟨_, _, ⟨T124, L124, k124, n124⟩, -, X124, ⟨Lc124, hQ124, l124, y124, z124⟩, st124⟩ := X104.virtualBack hx (y := (⟨"com/example/quorumvote/quorumvote/election/Vote", "equals", "(Ljava/lang/Object;)Z"⟩ : MethodName)) (z := (⟨"com/example/quorumvote/quorumvote/election/Vote", "equals", "(Ljava/lang/Object;)Z"⟩ : MethodName)) hown (mvT hZ (hw _ (List.mem_of_getElem? (i := 34) rfl))) (mvT hZ (hw _ (List.mem_of_getElem? (i := 35) rfl))) (notFace_of_selects (args := #[]) (mvT hZ (hw _ (List.mem_of_getElem? (i := 37) rfl)))) (mvT hZ (hw _ (List.mem_of_getElem? (i := 37) rfl))) (mvT hZ (hw _ (List.mem_of_getElem? (i := 36) rfl))) (by decide) (backOf (W := 0) (rm7v l Z a0 hw [] v1 v2 e1 z1 s1 e2 z2 s2 T104.heap n0 Z114 p104_0 f107 f108 f109 p104_1 p104_2 p104_3) hZ (hw _ (List.mem_of_getElem? (i := 38) rfl)) (hw _ (List.mem_of_getElem? (i := 8) rfl)) (by decide) (by decide)) q124a q124c (g := (mkF m 171 #[.val (.long qa), .second, .val (.long qb), .second, .val (.long qc), .second, .val (.long qd), .second, .val (.long qg), .second, .val (.int pf), .val (.long e1), .second, .val (.long z1), .second, .val (.long s1), .second, .val (.long e2), .second, .val (.long z2), .second, .val (.long s2), .second, .val (.ref v1), .val (.ref v2), .val (.int mo), .val (.int ex)] [(.ref v2), (.ref v1)])) rfl (by rw [hml]; rfl) (Steps.refl _) (argsL := [(.ref v2)]) (rest := []) (lenOf pd_5 rfl) rfl (by show 2 * 0 + _ ≤ _; exact Nat.le_of_eq rfl) (hb hby at_171) (fun _ _ => ⟨rfl, rfl, (by decide : 2 + 0 ≤ _), (by decide : 6 + 0 ≤ _)⟩)
      dsimp only [Pt.U, Pt.locs, Pt.cells, Pt.slots] at X124 l124 y124 z124 st124 hQ124
      subst l124 y124 z124
      obtain ⟨rfl, N124q, hE124⟩ := hQ124
      have N124 := Fr.app N104 N124q
      have pre125 : ∀ t, Steps p.tables e below (T124.setTop (mkF m 176 #[.val (.long qa), .second, .val (.long qb), .second, .val (.long qc), .second, .val (.long qd), .second, .val (.long qg), .second, .val (.int pf), .val (.long e1), .second, .val (.long z1), .second, .val (.long s1), .second, .val (.long e2), .second, .val (.long z2), .second, .val (.long s2), .second, .val (.ref v1), .val (.ref v2), .val (.int mo), .val (.int ex)] [(.int ex), (.int (fn7v v1 v2 e1 z1 s1 e2 z2 s2))])) t → Steps p.tables e below (s₁.setTop (entryFrame m #[(.long qa), (.long qb), (.long qc), (.long qd), (.long qg), (.int pf)] maxLocals)) t := by
        intro t kt
        refine pre123 _ ?_
        show Steps p.tables e below (T104.setTop (mkF m 165 #[.val (.long qa), .second, .val (.long qb), .second, .val (.long qc), .second, .val (.long qd), .second, .val (.long qg), .second, .val (.int pf), .val (.long e1), .second, .val (.long z1), .second, .val (.long s1), .second, .val (.long e2), .second, .val (.long z2), .second, .val (.long s2), .second, .val (.ref v1), .val (.ref v2), .val (.int mo), .unset] [(.int ex)])) _
        refine XS.istore X104.here hx rfl (hb hby at_165) rfl (l' := #[.val (.long qa), .second, .val (.long qb), .second, .val (.long qc), .second, .val (.long qd), .second, .val (.long qg), .second, .val (.int pf), .val (.long e1), .second, .val (.long z1), .second, .val (.long s1), .second, .val (.long e2), .second, .val (.long z2), .second, .val (.long s2), .second, .val (.ref v1), .val (.ref v2), .val (.int mo), .val (.int ex)]) rfl ?_
        show Steps p.tables e below (T104.setTop (mkF m 167 #[.val (.long qa), .second, .val (.long qb), .second, .val (.long qc), .second, .val (.long qd), .second, .val (.long qg), .second, .val (.int pf), .val (.long e1), .second, .val (.long z1), .second, .val (.long s1), .second, .val (.long e2), .second, .val (.long z2), .second, .val (.long s2), .second, .val (.ref v1), .val (.ref v2), .val (.int mo), .val (.int ex)] [])) _
        refine XS.aload X104.here hx rfl (hb hby at_167) rfl rfl ?_
        show Steps p.tables e below (T104.setTop (mkF m 169 #[.val (.long qa), .second, .val (.long qb), .second, .val (.long qc), .second, .val (.long qd), .second, .val (.long qg), .second, .val (.int pf), .val (.long e1), .second, .val (.long z1), .second, .val (.long s1), .second, .val (.long e2), .second, .val (.long z2), .second, .val (.long s2), .second, .val (.ref v1), .val (.ref v2), .val (.int mo), .val (.int ex)] [(.ref v1)])) _
        refine XS.aload X104.here hx rfl (hb hby at_169) rfl rfl ?_
        show Steps p.tables e below (T104.setTop (mkF m 171 #[.val (.long qa), .second, .val (.long qb), .second, .val (.long qc), .second, .val (.long qd), .second, .val (.long qg), .second, .val (.int pf), .val (.long e1), .second, .val (.long z1), .second, .val (.long s1), .second, .val (.long e2), .second, .val (.long z2), .second, .val (.long s2), .second, .val (.ref v1), .val (.ref v2), .val (.int mo), .val (.int ex)] [(.ref v2), (.ref v1)])) _
        refine st124.trans ?_
        show Steps p.tables e below (T124.setTop (mkF m 174 #[.val (.long qa), .second, .val (.long qb), .second, .val (.long qc), .second, .val (.long qd), .second, .val (.long qg), .second, .val (.int pf), .val (.long e1), .second, .val (.long z1), .second, .val (.long s1), .second, .val (.long e2), .second, .val (.long z2), .second, .val (.long s2), .second, .val (.ref v1), .val (.ref v2), .val (.int mo), .val (.int ex)] [(.int (fn7v v1 v2 e1 z1 s1 e2 z2 s2))])) _
        refine XS.iload X124.here hx rfl (hb hby at_174) rfl ?_
        exact kt
      by_cases hc176_126 : (fn7v v1 v2 e1 z1 s1 e2 z2 s2) = ex
      · skip
        obtain ⟨cq127, kq127, q127a, q127b, q127c⟩ := isOf hZ hE124 p104_0
        obtain ⟨_, _, ⟨T127, L127, k127, n127⟩, -, X127, ⟨Lc127, hQ127, l127, y127, z127⟩, st127⟩ := X124.virtualBack hx (y := (⟨"com/example/quorumvote/quorumvote/election/Vote", "equals", "(Ljava/lang/Object;)Z"⟩ : MethodName)) (z := (⟨"com/example/quorumvote/quorumvote/election/Vote", "equals", "(Ljava/lang/Object;)Z"⟩ : MethodName)) hown (mvT hZ (hw _ (List.mem_of_getElem? (i := 34) rfl))) (mvT hZ (hw _ (List.mem_of_getElem? (i := 35) rfl))) (notFace_of_selects (args := #[]) (mvT hZ (hw _ (List.mem_of_getElem? (i := 37) rfl)))) (mvT hZ (hw _ (List.mem_of_getElem? (i := 37) rfl))) (mvT hZ (hw _ (List.mem_of_getElem? (i := 36) rfl))) (by decide) (backOf (W := 0) (rm7v l Z a0 hw [] v2 v1 e2 z2 s2 e1 z1 s1 T104.heap n0 Z114 f106 p104_1 p104_2 p104_3 f107 f108 f109) hZ (hw _ (List.mem_of_getElem? (i := 38) rfl)) (hw _ (List.mem_of_getElem? (i := 8) rfl)) (by decide) (by decide)) q127a q127c (g := (mkF m 183 #[.val (.long qa), .second, .val (.long qb), .second, .val (.long qc), .second, .val (.long qd), .second, .val (.long qg), .second, .val (.int pf), .val (.long e1), .second, .val (.long z1), .second, .val (.long s1), .second, .val (.long e2), .second, .val (.long z2), .second, .val (.long s2), .second, .val (.ref v1), .val (.ref v2), .val (.int mo), .val (.int ex)] [(.ref v1), (.ref v2)])) rfl (by rw [hml]; rfl) (Steps.refl _) (argsL := [(.ref v1)]) (rest := []) (lenOf pd_5 rfl) rfl (by show 2 * 0 + _ ≤ _; exact Nat.le_of_eq rfl) (hb hby at_183) (fun _ _ => ⟨rfl, hE124, (by decide : 2 + 0 ≤ _), (by decide : 6 + 0 ≤ _)⟩)
        dsimp only [Pt.U, Pt.locs, Pt.cells, Pt.slots] at X127 l127 y127 z127 st127 hQ127
        subst l127 y127 z127
        obtain ⟨rfl, N127q, hE127⟩ := hQ127
        have N127 := Fr.app N124 N127q
        have pre128 : ∀ t, Steps p.tables e below (T127.setTop (mkF m 188 #[.val (.long qa), .second, .val (.long qb), .second, .val (.long qc), .second, .val (.long qd), .second, .val (.long qg), .second, .val (.int pf), .val (.long e1), .second, .val (.long z1), .second, .val (.long s1), .second, .val (.long e2), .second, .val (.long z2), .second, .val (.long s2), .second, .val (.ref v1), .val (.ref v2), .val (.int mo), .val (.int ex)] [(.int ex), (.int (fn7v v2 v1 e2 z2 s2 e1 z1 s1))])) t → Steps p.tables e below (s₁.setTop (entryFrame m #[(.long qa), (.long qb), (.long qc), (.long qd), (.long qg), (.int pf)] maxLocals)) t := by
          intro t kt
          refine pre125 _ ?_
          show Steps p.tables e below (T124.setTop (mkF m 176 #[.val (.long qa), .second, .val (.long qb), .second, .val (.long qc), .second, .val (.long qd), .second, .val (.long qg), .second, .val (.int pf), .val (.long e1), .second, .val (.long z1), .second, .val (.long s1), .second, .val (.long e2), .second, .val (.long z2), .second, .val (.long s2), .second, .val (.ref v1), .val (.ref v2), .val (.int mo), .val (.int ex)] [(.int ex), (.int (fn7v v1 v2 e1 z1 s1 e2 z2 s2))])) _
          refine XS.icmpNo X124.here hx rfl (hb hby at_176) rfl (XT.ii_ne_f hc176_126) ?_
          show Steps p.tables e below (T124.setTop (mkF m 179 #[.val (.long qa), .second, .val (.long qb), .second, .val (.long qc), .second, .val (.long qd), .second, .val (.long qg), .second, .val (.int pf), .val (.long e1), .second, .val (.long z1), .second, .val (.long s1), .second, .val (.long e2), .second, .val (.long z2), .second, .val (.long s2), .second, .val (.ref v1), .val (.ref v2), .val (.int mo), .val (.int ex)] [])) _
          refine XS.aload X124.here hx rfl (hb hby at_179) rfl rfl ?_
          show Steps p.tables e below (T124.setTop (mkF m 181 #[.val (.long qa), .second, .val (.long qb), .second, .val (.long qc), .second, .val (.long qd), .second, .val (.long qg), .second, .val (.int pf), .val (.long e1), .second, .val (.long z1), .second, .val (.long s1), .second, .val (.long e2), .second, .val (.long z2), .second, .val (.long s2), .second, .val (.ref v1), .val (.ref v2), .val (.int mo), .val (.int ex)] [(.ref v2)])) _
          refine XS.aload X124.here hx rfl (hb hby at_181) rfl rfl ?_
          show Steps p.tables e below (T124.setTop (mkF m 183 #[.val (.long qa), .second, .val (.long qb), .second, .val (.long qc), .second, .val (.long qd), .second, .val (.long qg), .second, .val (.int pf), .val (.long e1), .second, .val (.long z1), .second, .val (.long s1), .second, .val (.long e2), .second, .val (.long z2), .second, .val (.long s2), .second, .val (.ref v1), .val (.ref v2), .val (.int mo), .val (.int ex)] [(.ref v1), (.ref v2)])) _
          refine st127.trans ?_
          show Steps p.tables e below (T127.setTop (mkF m 186 #[.val (.long qa), .second, .val (.long qb), .second, .val (.long qc), .second, .val (.long qd), .second, .val (.long qg), .second, .val (.int pf), .val (.long e1), .second, .val (.long z1), .second, .val (.long s1), .second, .val (.long e2), .second, .val (.long z2), .second, .val (.long s2), .second, .val (.ref v1), .val (.ref v2), .val (.int mo), .val (.int ex)] [(.int (fn7v v2 v1 e2 z2 s2 e1 z1 s1))])) _
          refine XS.iload X127.here hx rfl (hb hby at_186) rfl ?_
          exact kt
        by_cases hc188_129 : (fn7v v2 v1 e2 z2 s2 e1 z1 s1) = ex
        · skip
          have pre130 : ∀ t, Steps p.tables e below (T127.setTop (mkF m 196 #[.val (.long qa), .second, .val (.long qb), .second, .val (.long qc), .second, .val (.long qd), .second, .val (.long qg), .second, .val (.int pf), .val (.long e1), .second, .val (.long z1), .second, .val (.long s1), .second, .val (.long e2), .second, .val (.long z2), .second, .val (.long s2), .second, .val (.ref v1), .val (.ref v2), .val (.int mo), .val (.int ex)] [(.int (1 : Int32))])) t → Steps p.tables e below (s₁.setTop (entryFrame m #[(.long qa), (.long qb), (.long qc), (.long qd), (.long qg), (.int pf)] maxLocals)) t := by
            intro t kt
            refine pre128 _ ?_
            show Steps p.tables e below (T127.setTop (mkF m 188 #[.val (.long qa), .second, .val (.long qb), .second, .val (.long qc), .second, .val (.long qd), .second, .val (.long qg), .second, .val (.int pf), .val (.long e1), .second, .val (.long z1), .second, .val (.long s1), .second, .val (.long e2), .second, .val (.long z2), .second, .val (.long s2), .second, .val (.ref v1), .val (.ref v2), .val (.int mo), .val (.int ex)] [(.int ex), (.int (fn7v v2 v1 e2 z2 s2 e1 z1 s1))])) _
            refine XS.icmpNo X127.here hx rfl (hb hby at_188) rfl (XT.ii_ne_f hc188_129) ?_
            show Steps p.tables e below (T127.setTop (mkF m 191 #[.val (.long qa), .second, .val (.long qb), .second, .val (.long qc), .second, .val (.long qd), .second, .val (.long qg), .second, .val (.int pf), .val (.long e1), .second, .val (.long z1), .second, .val (.long s1), .second, .val (.long e2), .second, .val (.long z2), .second, .val (.long s2), .second, .val (.ref v1), .val (.ref v2), .val (.int mo), .val (.int ex)] [])) _
            refine XS.iconst X127.here hx rfl (hb hby at_191) ?_
            show Steps p.tables e below (T127.setTop (mkF m 192 #[.val (.long qa), .second, .val (.long qb), .second, .val (.long qc), .second, .val (.long qd), .second, .val (.long qg), .second, .val (.int pf), .val (.long e1), .second, .val (.long z1), .second, .val (.long s1), .second, .val (.long e2), .second, .val (.long z2), .second, .val (.long s2), .second, .val (.ref v1), .val (.ref v2), .val (.int mo), .val (.int ex)] [(.int (1 : Int32))])) _
            refine XS.goto X127.here hx rfl (pc0 := 192) (pc' := 196) rfl (hb hby at_192) (by decide) (by decide) ?_
            exact kt
          obtain ⟨fs, hr, hrun, hended, hW, hsame⟩ := X127.leave (v := some (.int (1 : Int32))) (fun h => by rw [Bd.returns] at h; cases h)
          refine ⟨_, _, pre130 _ ?_, hrun, hended, _, _, rfl, ?_, ⟨_, rfl⟩, hW, hsame.mono (by decide) (by decide)⟩
          · show Steps p.tables e below (T127.setTop (mkF m 196 #[.val (.long qa), .second, .val (.long qb), .second, .val (.long qc), .second, .val (.long qd), .second, .val (.long qg), .second, .val (.int pf), .val (.long e1), .second, .val (.long z1), .second, .val (.long s1), .second, .val (.long e2), .second, .val (.long z2), .second, .val (.long s2), .second, .val (.ref v1), .val (.ref v2), .val (.int mo), .val (.int ex)] [(.int (1 : Int32))])) _
            exact retN X127 hx (t := .boolean) Bd.returns (by simp) (hb hby at_196) hr
          · show Q0 Z qa qb qc qd qg pf ac fc h0 n0 _ T127.heap _
            rw [hE127]
            exact ⟨rfl, N127⟩
        · skip
          exact absurd (own_eq2 _ _ e1 z1 s1 e2 z2 s2 ex h_ex) hc188_129
      · skip
        exact absurd (own_eq _ _ e1 z1 s1 e2 z2 s2 ex h_ex) hc176_126
    · skip
      have pre131 : ∀ t, Steps p.tables e below (T104.setTop (mkF m 200 #[.val (.long qa), .second, .val (.long qb), .second, .val (.long qc), .second, .val (.long qd), .second, .val (.long qg), .second, .val (.int pf), .val (.long e1), .second, .val (.long z1), .second, .val (.long s1), .second, .val (.long e2), .second, .val (.long z2), .second, .val (.long s2), .second, .val (.ref v1), .val (.ref v2), .val (.int mo), .unset] [(.int (1 : Int32)), (.int mo)])) t → Steps p.tables e below (s₁.setTop (entryFrame m #[(.long qa), (.long qb), (.long qc), (.long qd), (.long qg), (.int pf)] maxLocals)) t := by
        intro t kt
        refine pre117 _ ?_
        show Steps p.tables e below (T104.setTop (mkF m 133 #[.val (.long qa), .second, .val (.long qb), .second, .val (.long qc), .second, .val (.long qd), .second, .val (.long qg), .second, .val (.int pf), .val (.long e1), .second, .val (.long z1), .second, .val (.long s1), .second, .val (.long e2), .second, .val (.long z2), .second, .val (.long s2), .second, .val (.ref v1), .val (.ref v2), .val (.int mo), .unset] [(.int mo)])) _
        refine XS.ifYes X104.here hx rfl (pc0 := 133) (pc' := 197) rfl (hb hby at_133) rfl (XT.i0_ne_t hc133_118) (by decide) (by decide) ?_
        show Steps p.tables e below (T104.setTop (mkF m 197 #[.val (.long qa), .second, .val (.long qb), .second, .val (.long qc), .second, .val (.long qd), .second, .val (.long qg), .second, .val (.int pf), .val (.long e1), .second, .val (.long z1), .second, .val (.long s1), .second, .val (.long e2), .second, .val (.long z2), .second, .val (.long s2), .second, .val (.ref v1), .val (.ref v2), .val (.int mo), .unset] [])) _
        refine XS.iload X104.here hx rfl (hb hby at_197) rfl ?_
        show Steps p.tables e below (T104.setTop (mkF m 199 #[.val (.long qa), .second, .val (.long qb), .second, .val (.long qc), .second, .val (.long qd), .second, .val (.long qg), .second, .val (.int pf), .val (.long e1), .second, .val (.long z1), .second, .val (.long s1), .second, .val (.long e2), .second, .val (.long z2), .second, .val (.long s2), .second, .val (.ref v1), .val (.ref v2), .val (.int mo), .unset] [(.int mo)])) _
        refine XS.iconst X104.here hx rfl (hb hby at_199) ?_
        exact kt
      by_cases hc200_132 : mo = (1 : Int32)
      · skip
        obtain ⟨cq133, kq133, q133a, q133b, q133c⟩ := isOf hZ rfl f106
        obtain ⟨_, _, ⟨T133, L133, k133, n133⟩, -, X133, ⟨Lc133, hQ133, l133, y133, z133⟩, st133⟩ := X104.virtualBack hx (y := (⟨"com/example/quorumvote/quorumvote/election/Vote", "equals", "(Ljava/lang/Object;)Z"⟩ : MethodName)) (z := (⟨"com/example/quorumvote/quorumvote/election/Vote", "equals", "(Ljava/lang/Object;)Z"⟩ : MethodName)) hown (mvT hZ (hw _ (List.mem_of_getElem? (i := 34) rfl))) (mvT hZ (hw _ (List.mem_of_getElem? (i := 35) rfl))) (notFace_of_selects (args := #[]) (mvT hZ (hw _ (List.mem_of_getElem? (i := 37) rfl)))) (mvT hZ (hw _ (List.mem_of_getElem? (i := 37) rfl))) (mvT hZ (hw _ (List.mem_of_getElem? (i := 36) rfl))) (by decide) (backOf (W := 0) (rm7n l Z a0 hw [] v1 T104.heap n0 Z114) hZ (hw _ (List.mem_of_getElem? (i := 38) rfl)) (hw _ (List.mem_of_getElem? (i := 8) rfl)) (by decide) (by decide)) q133a q133c (g := (mkF m 210 #[.val (.long qa), .second, .val (.long qb), .second, .val (.long qc), .second, .val (.long qd), .second, .val (.long qg), .second, .val (.int pf), .val (.long e1), .second, .val (.long z1), .second, .val (.long s1), .second, .val (.long e2), .second, .val (.long z2), .second, .val (.long s2), .second, .val (.ref v1), .val (.ref v2), .val (.int mo), .val .null] [.null, (.ref v1)])) rfl (by rw [hml]; rfl) (Steps.refl _) (argsL := [.null]) (rest := []) (lenOf pd_5 rfl) rfl (by show 2 * 0 + _ ≤ _; exact Nat.le_of_eq rfl) (hb hby at_210) (fun _ _ => ⟨rfl, rfl, (by decide : 2 + 0 ≤ _), (by decide : 6 + 0 ≤ _)⟩)
        dsimp only [Pt.U, Pt.locs, Pt.cells, Pt.slots] at X133 l133 y133 z133 st133 hQ133
        subst l133 y133 z133
        obtain ⟨rfl, N133q, hE133⟩ := hQ133
        have N133 := Fr.app N104 N133q
        have pre134 : ∀ t, Steps p.tables e below (T133.setTop (mkF m 221 #[.val (.long qa), .second, .val (.long qb), .second, .val (.long qc), .second, .val (.long qd), .second, .val (.long qg), .second, .val (.int pf), .val (.long e1), .second, .val (.long z1), .second, .val (.long s1), .second, .val (.long e2), .second, .val (.long z2), .second, .val (.long s2), .second, .val (.ref v1), .val (.ref v2), .val (.int mo), .val .null] [(.int (1 : Int32))])) t → Steps p.tables e below (s₁.setTop (entryFrame m #[(.long qa), (.long qb), (.long qc), (.long qd), (.long qg), (.int pf)] maxLocals)) t := by
          intro t kt
          refine pre131 _ ?_
          show Steps p.tables e below (T104.setTop (mkF m 200 #[.val (.long qa), .second, .val (.long qb), .second, .val (.long qc), .second, .val (.long qd), .second, .val (.long qg), .second, .val (.int pf), .val (.long e1), .second, .val (.long z1), .second, .val (.long s1), .second, .val (.long e2), .second, .val (.long z2), .second, .val (.long s2), .second, .val (.ref v1), .val (.ref v2), .val (.int mo), .unset] [(.int (1 : Int32)), (.int mo)])) _
          refine XS.icmpNo X104.here hx rfl (hb hby at_200) rfl (XT.ii_ne_f hc200_132) ?_
          show Steps p.tables e below (T104.setTop (mkF m 203 #[.val (.long qa), .second, .val (.long qb), .second, .val (.long qc), .second, .val (.long qd), .second, .val (.long qg), .second, .val (.int pf), .val (.long e1), .second, .val (.long z1), .second, .val (.long s1), .second, .val (.long e2), .second, .val (.long z2), .second, .val (.long s2), .second, .val (.ref v1), .val (.ref v2), .val (.int mo), .unset] [])) _
          refine XS.aconstNull X104.here hx rfl (hb hby at_203) ?_
          show Steps p.tables e below (T104.setTop (mkF m 204 #[.val (.long qa), .second, .val (.long qb), .second, .val (.long qc), .second, .val (.long qd), .second, .val (.long qg), .second, .val (.int pf), .val (.long e1), .second, .val (.long z1), .second, .val (.long s1), .second, .val (.long e2), .second, .val (.long z2), .second, .val (.long s2), .second, .val (.ref v1), .val (.ref v2), .val (.int mo), .unset] [.null])) _
          refine XS.astore X104.here hx rfl (hb hby at_204) rfl rfl (l' := #[.val (.long qa), .second, .val (.long qb), .second, .val (.long qc), .second, .val (.long qd), .second, .val (.long qg), .second, .val (.int pf), .val (.long e1), .second, .val (.long z1), .second, .val (.long s1), .second, .val (.long e2), .second, .val (.long z2), .second, .val (.long s2), .second, .val (.ref v1), .val (.ref v2), .val (.int mo), .val .null]) rfl ?_
          show Steps p.tables e below (T104.setTop (mkF m 206 #[.val (.long qa), .second, .val (.long qb), .second, .val (.long qc), .second, .val (.long qd), .second, .val (.long qg), .second, .val (.int pf), .val (.long e1), .second, .val (.long z1), .second, .val (.long s1), .second, .val (.long e2), .second, .val (.long z2), .second, .val (.long s2), .second, .val (.ref v1), .val (.ref v2), .val (.int mo), .val .null] [])) _
          refine XS.aload X104.here hx rfl (hb hby at_206) rfl rfl ?_
          show Steps p.tables e below (T104.setTop (mkF m 208 #[.val (.long qa), .second, .val (.long qb), .second, .val (.long qc), .second, .val (.long qd), .second, .val (.long qg), .second, .val (.int pf), .val (.long e1), .second, .val (.long z1), .second, .val (.long s1), .second, .val (.long e2), .second, .val (.long z2), .second, .val (.long s2), .second, .val (.ref v1), .val (.ref v2), .val (.int mo), .val .null] [(.ref v1)])) _
          refine XS.aload X104.here hx rfl (hb hby at_208) rfl rfl ?_
          show Steps p.tables e below (T104.setTop (mkF m 210 #[.val (.long qa), .second, .val (.long qb), .second, .val (.long qc), .second, .val (.long qd), .second, .val (.long qg), .second, .val (.int pf), .val (.long e1), .second, .val (.long z1), .second, .val (.long s1), .second, .val (.long e2), .second, .val (.long z2), .second, .val (.long s2), .second, .val (.ref v1), .val (.ref v2), .val (.int mo), .val .null] [.null, (.ref v1)])) _
          refine st133.trans ?_
          show Steps p.tables e below (T133.setTop (mkF m 213 #[.val (.long qa), .second, .val (.long qb), .second, .val (.long qc), .second, .val (.long qd), .second, .val (.long qg), .second, .val (.int pf), .val (.long e1), .second, .val (.long z1), .second, .val (.long s1), .second, .val (.long e2), .second, .val (.long z2), .second, .val (.long s2), .second, .val (.ref v1), .val (.ref v2), .val (.int mo), .val .null] [(.int (0 : Int32))])) _
          refine XS.ifNo X133.here hx rfl (hb hby at_213) rfl (XT.i0_ne_f (by decide)) ?_
          show Steps p.tables e below (T133.setTop (mkF m 216 #[.val (.long qa), .second, .val (.long qb), .second, .val (.long qc), .second, .val (.long qd), .second, .val (.long qg), .second, .val (.int pf), .val (.long e1), .second, .val (.long z1), .second, .val (.long s1), .second, .val (.long e2), .second, .val (.long z2), .second, .val (.long s2), .second, .val (.ref v1), .val (.ref v2), .val (.int mo), .val .null] [])) _
          refine XS.iconst X133.here hx rfl (hb hby at_216) ?_
          show Steps p.tables e below (T133.setTop (mkF m 217 #[.val (.long qa), .second, .val (.long qb), .second, .val (.long qc), .second, .val (.long qd), .second, .val (.long qg), .second, .val (.int pf), .val (.long e1), .second, .val (.long z1), .second, .val (.long s1), .second, .val (.long e2), .second, .val (.long z2), .second, .val (.long s2), .second, .val (.ref v1), .val (.ref v2), .val (.int mo), .val .null] [(.int (1 : Int32))])) _
          refine XS.goto X133.here hx rfl (pc0 := 217) (pc' := 221) rfl (hb hby at_217) (by decide) (by decide) ?_
          exact kt
        obtain ⟨fs, hr, hrun, hended, hW, hsame⟩ := X133.leave (v := some (.int (1 : Int32))) (fun h => by rw [Bd.returns] at h; cases h)
        refine ⟨_, _, pre134 _ ?_, hrun, hended, _, _, rfl, ?_, ⟨_, rfl⟩, hW, hsame.mono (by decide) (by decide)⟩
        · show Steps p.tables e below (T133.setTop (mkF m 221 #[.val (.long qa), .second, .val (.long qb), .second, .val (.long qc), .second, .val (.long qd), .second, .val (.long qg), .second, .val (.int pf), .val (.long e1), .second, .val (.long z1), .second, .val (.long s1), .second, .val (.long e2), .second, .val (.long z2), .second, .val (.long s2), .second, .val (.ref v1), .val (.ref v2), .val (.int mo), .val .null] [(.int (1 : Int32))])) _
          exact retN X133 hx (t := .boolean) Bd.returns (by simp) (hb hby at_221) hr
        · show Q0 Z qa qb qc qd qg pf ac fc h0 n0 _ T133.heap _
          rw [hE133]
          exact ⟨rfl, N133⟩
      · skip
        have pre135 : ∀ t, Steps p.tables e below (T104.setTop (mkF m 225 #[.val (.long qa), .second, .val (.long qb), .second, .val (.long qc), .second, .val (.long qd), .second, .val (.long qg), .second, .val (.int pf), .val (.long e1), .second, .val (.long z1), .second, .val (.long s1), .second, .val (.long e2), .second, .val (.long z2), .second, .val (.long s2), .second, .val (.ref v1), .val (.ref v2), .val (.int mo), .unset] [(.int (2 : Int32)), (.int mo)])) t → Steps p.tables e below (s₁.setTop (entryFrame m #[(.long qa), (.long qb), (.long qc), (.long qd), (.long qg), (.int pf)] maxLocals)) t := by
          intro t kt
          refine pre131 _ ?_
          show Steps p.tables e below (T104.setTop (mkF m 200 #[.val (.long qa), .second, .val (.long qb), .second, .val (.long qc), .second, .val (.long qd), .second, .val (.long qg), .second, .val (.int pf), .val (.long e1), .second, .val (.long z1), .second, .val (.long s1), .second, .val (.long e2), .second, .val (.long z2), .second, .val (.long s2), .second, .val (.ref v1), .val (.ref v2), .val (.int mo), .unset] [(.int (1 : Int32)), (.int mo)])) _
          refine XS.icmpYes X104.here hx rfl (pc0 := 200) (pc' := 222) rfl (hb hby at_200) rfl (XT.ii_ne_t hc200_132) (by decide) (by decide) ?_
          show Steps p.tables e below (T104.setTop (mkF m 222 #[.val (.long qa), .second, .val (.long qb), .second, .val (.long qc), .second, .val (.long qd), .second, .val (.long qg), .second, .val (.int pf), .val (.long e1), .second, .val (.long z1), .second, .val (.long s1), .second, .val (.long e2), .second, .val (.long z2), .second, .val (.long s2), .second, .val (.ref v1), .val (.ref v2), .val (.int mo), .unset] [])) _
          refine XS.iload X104.here hx rfl (hb hby at_222) rfl ?_
          show Steps p.tables e below (T104.setTop (mkF m 224 #[.val (.long qa), .second, .val (.long qb), .second, .val (.long qc), .second, .val (.long qd), .second, .val (.long qg), .second, .val (.int pf), .val (.long e1), .second, .val (.long z1), .second, .val (.long s1), .second, .val (.long e2), .second, .val (.long z2), .second, .val (.long s2), .second, .val (.ref v1), .val (.ref v2), .val (.int mo), .unset] [(.int mo)])) _
          refine XS.iconst X104.here hx rfl (hb hby at_224) ?_
          exact kt
        by_cases hc225_136 : mo = (2 : Int32)
        · skip
          obtain ⟨_, _, ⟨T137, L137, k137, n137⟩, -, X137, ⟨Lc137, hQ137, l137, y137, z137⟩, st137⟩ := Jvm.LawKit.callS X104 hx (y := (⟨"java/lang/Long", "valueOf", "(J)Ljava/lang/Long;"⟩ : MethodName)) hown (mvT hZ (hw _ (List.mem_of_getElem? (i := 41) rfl))) (mvT hZ (hw _ (List.mem_of_getElem? (i := 42) rfl))) (mvT hZ (hw _ (List.mem_of_getElem? (i := 43) rfl))) (mvT hZ (hw _ (List.mem_of_getElem? (i := 44) rfl))) (by decide) (backOf (W := 0) (rm8 l Z a0 hw [] e1 ac fc T104.heap n0 Z114 (S0.ext f105.2) (A0.ext f105.2) (fun k hk => (HE0 k hk).ext f105.2)) hZ (hw _ (List.mem_of_getElem? (i := 44) rfl)) (hw _ (List.mem_of_getElem? (i := 43) rfl)) (by decide) (by decide)) (g := (mkF m 230 #[.val (.long qa), .second, .val (.long qb), .second, .val (.long qc), .second, .val (.long qd), .second, .val (.long qg), .second, .val (.int pf), .val (.long e1), .second, .val (.long z1), .second, .val (.long s1), .second, .val (.long e2), .second, .val (.long z2), .second, .val (.long s2), .second, .val (.ref v1), .val (.ref v2), .val (.int mo), .unset] [(.long e1)])) rfl (by rw [hml]; rfl) (argsL := [(.long e1)]) (rest := []) (lenOf pd_6 rfl) rfl (by show 2 * 0 + _ ≤ _; exact Nat.le_of_eq rfl) (hb hby at_230) (fun _ _ => ⟨rfl, rfl, (by decide : 2 + 1 ≤ _), (by decide : 6 + 1 ≤ _)⟩)
          dsimp only [Pt.U, Pt.locs, Pt.cells, Pt.slots] at X137 l137 y137 z137 st137 hQ137
          subst l137 y137 z137
          obtain ⟨bv, rfl, N137q, K137, E_bv⟩ := hQ137
          have N137 := Fr.app N104 N137q
          have f138 := f105.keep K137 all0
          have f139 := f106.keep K137
          have f140 := f107.keep K137 nin0
          have f141 := f108.keep K137 nin0
          have f142 := f109.keep K137 nin0
          have f143 := p104_0.keep K137
          have f144 := p104_1.keep K137 nin0
          have f145 := p104_2.keep K137 nin0
          have f146 := p104_3.keep K137 nin0
          have Z147 := Nat.le_trans Z114 K137.1
          obtain ⟨cq148, kq148, q148a, q148b, q148c⟩ := isOf hZ rfl f139
          obtain ⟨_, _, ⟨T148, L148, k148, n148⟩, -, X148, ⟨Lc148, hQ148, l148, y148, z148⟩, st148⟩ := X137.virtualBack hx (y := (⟨"com/example/quorumvote/quorumvote/election/Vote", "equals", "(Ljava/lang/Object;)Z"⟩ : MethodName)) (z := (⟨"com/example/quorumvote/quorumvote/election/Vote", "equals", "(Ljava/lang/Object;)Z"⟩ : MethodName)) hown (mvT hZ (hw _ (List.mem_of_getElem? (i := 34) rfl))) (mvT hZ (hw _ (List.mem_of_getElem? (i := 35) rfl))) (notFace_of_selects (args := #[]) (mvT hZ (hw _ (List.mem_of_getElem? (i := 37) rfl)))) (mvT hZ (hw _ (List.mem_of_getElem? (i := 37) rfl))) (mvT hZ (hw _ (List.mem_of_getElem? (i := 36) rfl))) (by decide) (backOf (W := 0) (rm7l l Z a0 hw [] v1 bv T137.heap n0 Z147 E_bv) hZ (hw _ (List.mem_of_getElem? (i := 38) rfl)) (hw _ (List.mem_of_getElem? (i := 8) rfl)) (by decide) (by decide)) q148a q148c (g := (mkF m 239 #[.val (.long qa), .second, .val (.long qb), .second, .val (.long qc), .second, .val (.long qd), .second, .val (.long qg), .second, .val (.int pf), .val (.long e1), .second, .val (.long z1), .second, .val (.long s1), .second, .val (.long e2), .second, .val (.long z2), .second, .val (.long s2), .second, .val (.ref v1), .val (.ref v2), .val (.int mo), .val (.ref bv)] [(.ref bv), (.ref v1)])) rfl (by rw [hml]; rfl) (Steps.refl _) (argsL := [(.ref bv)]) (rest := []) (lenOf pd_5 rfl) rfl (by show 2 * 0 + _ ≤ _; exact Nat.le_of_eq rfl) (hb hby at_239) (fun _ _ => ⟨rfl, rfl, (by decide : 3 + 0 ≤ _), (by decide : 7 + 0 ≤ _)⟩)
          dsimp only [Pt.U, Pt.locs, Pt.cells, Pt.slots] at X148 l148 y148 z148 st148 hQ148
          subst l148 y148 z148
          obtain ⟨rfl, N148q, hE148⟩ := hQ148
          have N148 := Fr.app N137 N148q
          have pre149 : ∀ t, Steps p.tables e below (T148.setTop (mkF m 250 #[.val (.long qa), .second, .val (.long qb), .second, .val (.long qc), .second, .val (.long qd), .second, .val (.long qg), .second, .val (.int pf), .val (.long e1), .second, .val (.long z1), .second, .val (.long s1), .second, .val (.long e2), .second, .val (.long z2), .second, .val (.long s2), .second, .val (.ref v1), .val (.ref v2), .val (.int mo), .val (.ref bv)] [(.int (1 : Int32))])) t → Steps p.tables e below (s₁.setTop (entryFrame m #[(.long qa), (.long qb), (.long qc), (.long qd), (.long qg), (.int pf)] maxLocals)) t := by
            intro t kt
            refine pre135 _ ?_
            show Steps p.tables e below (T104.setTop (mkF m 225 #[.val (.long qa), .second, .val (.long qb), .second, .val (.long qc), .second, .val (.long qd), .second, .val (.long qg), .second, .val (.int pf), .val (.long e1), .second, .val (.long z1), .second, .val (.long s1), .second, .val (.long e2), .second, .val (.long z2), .second, .val (.long s2), .second, .val (.ref v1), .val (.ref v2), .val (.int mo), .unset] [(.int (2 : Int32)), (.int mo)])) _
            refine XS.icmpNo X104.here hx rfl (hb hby at_225) rfl (XT.ii_ne_f hc225_136) ?_
            show Steps p.tables e below (T104.setTop (mkF m 228 #[.val (.long qa), .second, .val (.long qb), .second, .val (.long qc), .second, .val (.long qd), .second, .val (.long qg), .second, .val (.int pf), .val (.long e1), .second, .val (.long z1), .second, .val (.long s1), .second, .val (.long e2), .second, .val (.long z2), .second, .val (.long s2), .second, .val (.ref v1), .val (.ref v2), .val (.int mo), .unset] [])) _
            refine XS.lload X104.here hx rfl (hb hby at_228) rfl ?_
            show Steps p.tables e below (T104.setTop (mkF m 230 #[.val (.long qa), .second, .val (.long qb), .second, .val (.long qc), .second, .val (.long qd), .second, .val (.long qg), .second, .val (.int pf), .val (.long e1), .second, .val (.long z1), .second, .val (.long s1), .second, .val (.long e2), .second, .val (.long z2), .second, .val (.long s2), .second, .val (.ref v1), .val (.ref v2), .val (.int mo), .unset] [(.long e1)])) _
            refine st137 _ ?_
            show Steps p.tables e below (T137.setTop (mkF m 233 #[.val (.long qa), .second, .val (.long qb), .second, .val (.long qc), .second, .val (.long qd), .second, .val (.long qg), .second, .val (.int pf), .val (.long e1), .second, .val (.long z1), .second, .val (.long s1), .second, .val (.long e2), .second, .val (.long z2), .second, .val (.long s2), .second, .val (.ref v1), .val (.ref v2), .val (.int mo), .unset] [(.ref bv)])) _
            refine XS.astore X137.here hx rfl (hb hby at_233) rfl rfl (l' := #[.val (.long qa), .second, .val (.long qb), .second, .val (.long qc), .second, .val (.long qd), .second, .val (.long qg), .second, .val (.int pf), .val (.long e1), .second, .val (.long z1), .second, .val (.long s1), .second, .val (.long e2), .second, .val (.long z2), .second, .val (.long s2), .second, .val (.ref v1), .val (.ref v2), .val (.int mo), .val (.ref bv)]) rfl ?_
            show Steps p.tables e below (T137.setTop (mkF m 235 #[.val (.long qa), .second, .val (.long qb), .second, .val (.long qc), .second, .val (.long qd), .second, .val (.long qg), .second, .val (.int pf), .val (.long e1), .second, .val (.long z1), .second, .val (.long s1), .second, .val (.long e2), .second, .val (.long z2), .second, .val (.long s2), .second, .val (.ref v1), .val (.ref v2), .val (.int mo), .val (.ref bv)] [])) _
            refine XS.aload X137.here hx rfl (hb hby at_235) rfl rfl ?_
            show Steps p.tables e below (T137.setTop (mkF m 237 #[.val (.long qa), .second, .val (.long qb), .second, .val (.long qc), .second, .val (.long qd), .second, .val (.long qg), .second, .val (.int pf), .val (.long e1), .second, .val (.long z1), .second, .val (.long s1), .second, .val (.long e2), .second, .val (.long z2), .second, .val (.long s2), .second, .val (.ref v1), .val (.ref v2), .val (.int mo), .val (.ref bv)] [(.ref v1)])) _
            refine XS.aload X137.here hx rfl (hb hby at_237) rfl rfl ?_
            show Steps p.tables e below (T137.setTop (mkF m 239 #[.val (.long qa), .second, .val (.long qb), .second, .val (.long qc), .second, .val (.long qd), .second, .val (.long qg), .second, .val (.int pf), .val (.long e1), .second, .val (.long z1), .second, .val (.long s1), .second, .val (.long e2), .second, .val (.long z2), .second, .val (.long s2), .second, .val (.ref v1), .val (.ref v2), .val (.int mo), .val (.ref bv)] [(.ref bv), (.ref v1)])) _
            refine st148.trans ?_
            show Steps p.tables e below (T148.setTop (mkF m 242 #[.val (.long qa), .second, .val (.long qb), .second, .val (.long qc), .second, .val (.long qd), .second, .val (.long qg), .second, .val (.int pf), .val (.long e1), .second, .val (.long z1), .second, .val (.long s1), .second, .val (.long e2), .second, .val (.long z2), .second, .val (.long s2), .second, .val (.ref v1), .val (.ref v2), .val (.int mo), .val (.ref bv)] [(.int (0 : Int32))])) _
            refine XS.ifNo X148.here hx rfl (hb hby at_242) rfl (XT.i0_ne_f (by decide)) ?_
            show Steps p.tables e below (T148.setTop (mkF m 245 #[.val (.long qa), .second, .val (.long qb), .second, .val (.long qc), .second, .val (.long qd), .second, .val (.long qg), .second, .val (.int pf), .val (.long e1), .second, .val (.long z1), .second, .val (.long s1), .second, .val (.long e2), .second, .val (.long z2), .second, .val (.long s2), .second, .val (.ref v1), .val (.ref v2), .val (.int mo), .val (.ref bv)] [])) _
            refine XS.iconst X148.here hx rfl (hb hby at_245) ?_
            show Steps p.tables e below (T148.setTop (mkF m 246 #[.val (.long qa), .second, .val (.long qb), .second, .val (.long qc), .second, .val (.long qd), .second, .val (.long qg), .second, .val (.int pf), .val (.long e1), .second, .val (.long z1), .second, .val (.long s1), .second, .val (.long e2), .second, .val (.long z2), .second, .val (.long s2), .second, .val (.ref v1), .val (.ref v2), .val (.int mo), .val (.ref bv)] [(.int (1 : Int32))])) _
            refine XS.goto X148.here hx rfl (pc0 := 246) (pc' := 250) rfl (hb hby at_246) (by decide) (by decide) ?_
            exact kt
          obtain ⟨fs, hr, hrun, hended, hW, hsame⟩ := X148.leave (v := some (.int (1 : Int32))) (fun h => by rw [Bd.returns] at h; cases h)
          refine ⟨_, _, pre149 _ ?_, hrun, hended, _, _, rfl, ?_, ⟨_, rfl⟩, hW, hsame.mono (by decide) (by decide)⟩
          · show Steps p.tables e below (T148.setTop (mkF m 250 #[.val (.long qa), .second, .val (.long qb), .second, .val (.long qc), .second, .val (.long qd), .second, .val (.long qg), .second, .val (.int pf), .val (.long e1), .second, .val (.long z1), .second, .val (.long s1), .second, .val (.long e2), .second, .val (.long z2), .second, .val (.long s2), .second, .val (.ref v1), .val (.ref v2), .val (.int mo), .val (.ref bv)] [(.int (1 : Int32))])) _
            exact retN X148 hx (t := .boolean) Bd.returns (by simp) (hb hby at_250) hr
          · show Q0 Z qa qb qc qd qg pf ac fc h0 n0 _ T148.heap _
            rw [hE148]
            exact ⟨rfl, N148⟩
        · skip
          obtain ⟨cq150, kq150, q150a, q150b, q150c⟩ := isOf hZ rfl f106
          obtain ⟨_, _, ⟨T150, L150, k150, n150⟩, -, X150, ⟨Lc150, hQ150, l150, y150, z150⟩, st150⟩ := X104.virtualBack hx (y := (⟨"com/example/quorumvote/quorumvote/election/Vote", "equals", "(Ljava/lang/Object;)Z"⟩ : MethodName)) (z := (⟨"com/example/quorumvote/quorumvote/election/Vote", "equals", "(Ljava/lang/Object;)Z"⟩ : MethodName)) hown (mvT hZ (hw _ (List.mem_of_getElem? (i := 34) rfl))) (mvT hZ (hw _ (List.mem_of_getElem? (i := 35) rfl))) (notFace_of_selects (args := #[]) (mvT hZ (hw _ (List.mem_of_getElem? (i := 37) rfl)))) (mvT hZ (hw _ (List.mem_of_getElem? (i := 37) rfl))) (mvT hZ (hw _ (List.mem_of_getElem? (i := 36) rfl))) (by decide) (backOf (W := 0) (rm7v l Z a0 hw [] v1 v1 e1 z1 s1 e1 z1 s1 T104.heap n0 Z114 f106 f107 f108 f109 f107 f108 f109) hZ (hw _ (List.mem_of_getElem? (i := 38) rfl)) (hw _ (List.mem_of_getElem? (i := 8) rfl)) (by decide) (by decide)) q150a q150c (g := (mkF m 259 #[.val (.long qa), .second, .val (.long qb), .second, .val (.long qc), .second, .val (.long qd), .second, .val (.long qg), .second, .val (.int pf), .val (.long e1), .second, .val (.long z1), .second, .val (.long s1), .second, .val (.long e2), .second, .val (.long z2), .second, .val (.long s2), .second, .val (.ref v1), .val (.ref v2), .val (.int mo), .val (.ref v1)] [(.ref v1), (.ref v1)])) rfl (by rw [hml]; rfl) (Steps.refl _) (argsL := [(.ref v1)]) (rest := []) (lenOf pd_5 rfl) rfl (by show 2 * 0 + _ ≤ _; exact Nat.le_of_eq rfl) (hb hby at_259) (fun _ _ => ⟨rfl, rfl, (by decide : 2 + 0 ≤ _), (by decide : 6 + 0 ≤ _)⟩)
          dsimp only [Pt.U, Pt.locs, Pt.cells, Pt.slots] at X150 l150 y150 z150 st150 hQ150
          subst l150 y150 z150
          obtain ⟨rfl, N150q, hE150⟩ := hQ150
          have N150 := Fr.app N104 N150q
          have hself := own_self v1 v1 e1 z1 s1
          have pre151 : ∀ t, Steps p.tables e below (T150.setTop (mkF m 262 #[.val (.long qa), .second, .val (.long qb), .second, .val (.long qc), .second, .val (.long qd), .second, .val (.long qg), .second, .val (.int pf), .val (.long e1), .second, .val (.long z1), .second, .val (.long s1), .second, .val (.long e2), .second, .val (.long z2), .second, .val (.long s2), .second, .val (.ref v1), .val (.ref v2), .val (.int mo), .val (.ref v1)] [(.int (fn7v v1 v1 e1 z1 s1 e1 z1 s1))])) t → Steps p.tables e below (s₁.setTop (entryFrame m #[(.long qa), (.long qb), (.long qc), (.long qd), (.long qg), (.int pf)] maxLocals)) t := by
            intro t kt
            refine pre135 _ ?_
            show Steps p.tables e below (T104.setTop (mkF m 225 #[.val (.long qa), .second, .val (.long qb), .second, .val (.long qc), .second, .val (.long qd), .second, .val (.long qg), .second, .val (.int pf), .val (.long e1), .second, .val (.long z1), .second, .val (.long s1), .second, .val (.long e2), .second, .val (.long z2), .second, .val (.long s2), .second, .val (.ref v1), .val (.ref v2), .val (.int mo), .unset] [(.int (2 : Int32)), (.int mo)])) _
            refine XS.icmpYes X104.here hx rfl (pc0 := 225) (pc' := 251) rfl (hb hby at_225) rfl (XT.ii_ne_t hc225_136) (by decide) (by decide) ?_
            show Steps p.tables e below (T104.setTop (mkF m 251 #[.val (.long qa), .second, .val (.long qb), .second, .val (.long qc), .second, .val (.long qd), .second, .val (.long qg), .second, .val (.int pf), .val (.long e1), .second, .val (.long z1), .second, .val (.long s1), .second, .val (.long e2), .second, .val (.long z2), .second, .val (.long s2), .second, .val (.ref v1), .val (.ref v2), .val (.int mo), .unset] [])) _
            refine XS.aload X104.here hx rfl (hb hby at_251) rfl rfl ?_
            show Steps p.tables e below (T104.setTop (mkF m 253 #[.val (.long qa), .second, .val (.long qb), .second, .val (.long qc), .second, .val (.long qd), .second, .val (.long qg), .second, .val (.int pf), .val (.long e1), .second, .val (.long z1), .second, .val (.long s1), .second, .val (.long e2), .second, .val (.long z2), .second, .val (.long s2), .second, .val (.ref v1), .val (.ref v2), .val (.int mo), .unset] [(.ref v1)])) _
            refine XS.astore X104.here hx rfl (hb hby at_253) rfl rfl (l' := #[.val (.long qa), .second, .val (.long qb), .second, .val (.long qc), .second, .val (.long qd), .second, .val (.long qg), .second, .val (.int pf), .val (.long e1), .second, .val (.long z1), .second, .val (.long s1), .second, .val (.long e2), .second, .val (.long z2), .second, .val (.long s2), .second, .val (.ref v1), .val (.ref v2), .val (.int mo), .val (.ref v1)]) rfl ?_
            show Steps p.tables e below (T104.setTop (mkF m 255 #[.val (.long qa), .second, .val (.long qb), .second, .val (.long qc), .second, .val (.long qd), .second, .val (.long qg), .second, .val (.int pf), .val (.long e1), .second, .val (.long z1), .second, .val (.long s1), .second, .val (.long e2), .second, .val (.long z2), .second, .val (.long s2), .second, .val (.ref v1), .val (.ref v2), .val (.int mo), .val (.ref v1)] [])) _
            refine XS.aload X104.here hx rfl (hb hby at_255) rfl rfl ?_
            show Steps p.tables e below (T104.setTop (mkF m 257 #[.val (.long qa), .second, .val (.long qb), .second, .val (.long qc), .second, .val (.long qd), .second, .val (.long qg), .second, .val (.int pf), .val (.long e1), .second, .val (.long z1), .second, .val (.long s1), .second, .val (.long e2), .second, .val (.long z2), .second, .val (.long s2), .second, .val (.ref v1), .val (.ref v2), .val (.int mo), .val (.ref v1)] [(.ref v1)])) _
            refine XS.aload X104.here hx rfl (hb hby at_257) rfl rfl ?_
            show Steps p.tables e below (T104.setTop (mkF m 259 #[.val (.long qa), .second, .val (.long qb), .second, .val (.long qc), .second, .val (.long qd), .second, .val (.long qg), .second, .val (.int pf), .val (.long e1), .second, .val (.long z1), .second, .val (.long s1), .second, .val (.long e2), .second, .val (.long z2), .second, .val (.long s2), .second, .val (.ref v1), .val (.ref v2), .val (.int mo), .val (.ref v1)] [(.ref v1), (.ref v1)])) _
            refine st150.trans ?_
            exact kt
          have pre152 : ∀ t, Steps p.tables e below (T150.setTop (mkF m 262 #[.val (.long qa), .second, .val (.long qb), .second, .val (.long qc), .second, .val (.long qd), .second, .val (.long qg), .second, .val (.int pf), .val (.long e1), .second, .val (.long z1), .second, .val (.long s1), .second, .val (.long e2), .second, .val (.long z2), .second, .val (.long s2), .second, .val (.ref v1), .val (.ref v2), .val (.int mo), .val (.ref v1)] [(.int (1 : Int32))])) t → Steps p.tables e below (s₁.setTop (entryFrame m #[(.long qa), (.long qb), (.long qc), (.long qd), (.long qg), (.int pf)] maxLocals)) t := by
            intro t kt
            rw [← hself] at kt
            exact pre151 _ kt
          obtain ⟨fs, hr, hrun, hended, hW, hsame⟩ := X150.leave (v := some (.int (1 : Int32))) (fun h => by rw [Bd.returns] at h; cases h)
          refine ⟨_, _, pre152 _ ?_, hrun, hended, _, _, rfl, ?_, ⟨_, rfl⟩, hW, hsame.mono (by decide) (by decide)⟩
          · show Steps p.tables e below (T150.setTop (mkF m 262 #[.val (.long qa), .second, .val (.long qb), .second, .val (.long qc), .second, .val (.long qd), .second, .val (.long qg), .second, .val (.int pf), .val (.long e1), .second, .val (.long z1), .second, .val (.long s1), .second, .val (.long e2), .second, .val (.long z2), .second, .val (.long s2), .second, .val (.ref v1), .val (.ref v2), .val (.int mo), .val (.ref v1)] [(.int (1 : Int32))])) _
            exact retN X150 hx (t := .boolean) Bd.returns (by simp) (hb hby at_262) hr
          · show Q0 Z qa qb qc qd qg pf ac fc h0 n0 _ T150.heap _
            rw [hE150]
            exact ⟨rfl, N150⟩
set_option maxRecDepth 65536 in
set_option maxHeartbeats 40000000 in
theorem comes_1 {Post : Tables → Env → Array Value → State → Outcome → State → Prop} (hpost : ∀ tb e args s v u, (limb_1_1.after args s (.returned v) u = true ∧ limb_1_2.after args s (.returned v) u = true ∧ True) → FrameEnd s (.returned v) u (Jvm.fieldLocs frame_1_writes args s ++ Jvm.arrayLocs frame_1_arrays args s ++ Jvm.staticLocs frame_1_statics s) 16 128 → Post tb e args s (.returned v) u) :
    ArmFor flags0 classFile x code maxLocals ret World_1 tables_1 room_1 Calls_1 rest_1 Pre_1 Post := by
  intro l hfl _ _ p e ha hc hk s m args below hf hA hF happ hP
  obtain ⟨hcalls, hrest, hpre⟩ := hP
  obtain ⟨-, -, -, hnamed, -, -, -, hat⟩ := (Spec.applies_iff hf).mp happ
  obtain ⟨hg, hn⟩ := and_e (Cond.before_iff.mp (show (Jvm.Cond.and given_1 narrow_1).before args s = true from hpre))
  obtain ⟨g1, g2⟩ := and_e hg
  obtain ⟨g3, g4⟩ := and_e g2
  obtain ⟨g5, g6⟩ := and_e g4
  obtain ⟨g7, g8⟩ := and_e g6
  obtain ⟨g9, g10⟩ := and_e g8
  obtain ⟨g11, g12⟩ := and_e g10
  obtain ⟨w0, w1, w2, w3, w4, w5, rfl⟩ : ∃ w0 w1 w2 w3 w4 w5 : Value, args = #[w0, w1, w2, w3, w4, w5] := by
    have hs : args.size = 6 := by simpa [Cond.value, given_1] using g1
    obtain ⟨L⟩ := args
    match L, hs with
    | [w0, w1, w2, w3, w4, w5], _ => exact ⟨w0, w1, w2, w3, w4, w5, rfl⟩
  have hw := fun d (hd : d ∈ tables_1) => atoms_spec (ws := Jvm.Cond.code x code maxLocals ret :: tables_1) hat d (List.mem_cons_of_mem _ hd)
  have hfit : Fit s := fun {y c} hc i hi => by
    obtain ⟨ha, rfl⟩ := Array.getElem?_eq_some_iff.mp hc
    have q := List.all_eq_true.mp ((Array.all_eq_true_iff_forall_mem.mp hF) _ (Array.getElem_mem ha)) i (List.mem_range.mpr hi)
    simpa [Array.getElem?_eq_getElem hi] using q
  obtain ⟨hsets, hown0⟩ := atoms_of _ (rest_1_c_eq ▸ (show rest_1_c.before _ s = true from hrest))
  have hr0 := Cond.before_iff.mp hown0
  obtain ⟨i0, ei0⟩ := isL_v g3
  obtain rfl : w0 = (.long i0) := Option.some.inj ei0
  obtain ⟨i1, ei1⟩ := isL_v g5
  obtain rfl : w1 = (.long i1) := Option.some.inj ei1
  obtain ⟨i2, ei2⟩ := isL_v g7
  obtain rfl : w2 = (.long i2) := Option.some.inj ei2
  obtain ⟨i3, ei3⟩ := isL_v g9
  obtain rfl : w3 = (.long i3) := Option.some.inj ei3
  obtain ⟨i4, ei4⟩ := isL_v g11
  obtain rfl : w4 = (.long i4) := Option.some.inj ei4
  obtain ⟨i5, ei5⟩ := is_v g12
  obtain rfl : w5 = (.int i5) := Option.some.inj ei5
  obtain ⟨ac, fc, S0, A0, HE0⟩ := own_cache hfit hsets
  obtain ⟨n, o, h1, h2, h3, _, L, rfl, ⟨rfl, N⟩, hq⟩ := rm0 l s _ hw tables_1 i0 i1 i2 i3 i4 i5 ac fc s.heap s.heap.size (Nat.le_refl _) (Old.start s) S0 A0 HE0 p e ha hc hk s m _ below hf ((Spec.applies_iff_loose hf).mp happ).1 ⟨rfl, State.Warmed39.refl s, rfl⟩ trivial
  refine ⟨n, _, h1, h2, h3, hpost _ _ _ _ _ _ ⟨Cond.after_iff.mpr rfl, Cond.after_iff.mpr (eq_i res_at (Term.int_eval (1)) rfl), trivial⟩ ⟨hq.1, hq.2.1, (hq.2.2.sift fun y hy => Or.inr (N y hy)).mono (by decide) (by decide)⟩⟩
theorem main_1_1 : Claimed_1_1 := comes_1 fun _ _ _ _ _ _ h hF => ⟨h.1, hF⟩
theorem main_1_2 : Claimed_1_2 := comes_1 fun _ _ _ _ _ _ h hF => ⟨h.2.1, hF⟩
end Jvm.Pilot.@@N@@
namespace Jvm.Pilot.@@N@@
open Jvm Jvm.ClassFile Sem Op Lib Jvm.Free Jvm.Stand Jvm.Pilot.@@N@@.Jvm.D
/-! MADE BY PROGRAM (witnessworld.py) out of the Statement's table words and the real class files: 19 classes; the members and pool entries that the words name. The judged class is class 1, her method 1. -/
namespace start1
open Jvm.ClassFile
def u (s : String) : CpInfo := .utf8 (stringToUtf16 s)
/-- a pool by its gaps: so many unusable entries, then the entry; so many at the end -/
def gap : Nat → List CpInfo → List CpInfo
  | 0, r => r
  | n + 1, r => .unusable :: gap n r
def poolList (es : List (Nat × CpInfo)) (last : Nat) : List CpInfo := es.foldr (fun e r => gap e.1 (e.2 :: r)) (gap last [])
def pool (es : List (Nat × CpInfo)) (last : Nat) : Array CpInfo := ⟨poolList es last⟩
def fileOf (pool : Array CpInfo) (this : Nat) (attrs : Array Attribute := #[]) (ms : Array MethodInfo := #[]) (fl : Nat := 33) (sup : Nat := 0) (ifs : Array Nat := #[]) (fds : Array FieldInfo := #[]) : ClassFile where
  minorVersion := 0
  majorVersion := 65
  constantPool := pool
  accessFlags := fl
  thisClass := this
  superClass := sup
  interfaces := ifs
  fields := fds
  methods := ms
  attributes := attrs
def plain (name : String) (sup : Option ClassId) : Class where
  name := name
  kind := .ordinary
  loader := none
  accessFlags := 33
  super := sup
  interfaces := #[]
  cf := none
  fields := #[]
  methods := #[]
  instanceTypes := #[]
  staticTypes := #[]
  resolved := #[]
  callSites := []
  init := .initialized
  statics := none
  mirror := none

def pool0 : Array CpInfo := pool [(5, u "<init>"), (0, u "()V"), (1, .class_ 10), (1, u "java/lang/Object")] 113

def k0c0 : Code := { maxStack := 0, maxLocals := 1, code := object_method_1_code, exceptionTable := #[], attributes := #[] }
def k0m0 : Method := { name := "<init>", desc := "()V", sig := { parameters := [], returnType := none }, accessFlags := 1, code := some k0c0 }
/-- java/lang/Object -/
def k0 : Class := { plain "java/lang/Object" none with
  accessFlags := 33
  interfaces := #[]
  cf := some (fileOf pool0 8 #[] #[{ accessFlags := 1, nameIndex := 5, descriptorIndex := 6, attributes := #[] }] 33 0 #[] #[])
  fields := #[]
  methods := #[k0m0]
  instanceTypes := #[]
  staticTypes := #[]
  resolved := Array.replicate 124 none
  statics := none }

def pool1 : Array CpInfo := pool [(2, .class_ 4), (1, u "java/lang/Object"), (0, u "<init>"), (0, u "()V"), (0, .long 2147483647), (1, .class_ 10), (0, u "java/lang/Long"), (0, .long 9223372036854775807), (1, .methodref 14 15), (0, .class_ 16), (0, .nameAndType 17 18), (0, u "java/lang/Math"), (0, u "max"), (0, u "(JJ)J"), (0, .class_ 20), (0, u "com/example/quorumvote/quorumvote/election/Vote"), (0, .methodref 19 22), (0, .nameAndType 5 23), (0, u "(JJJ)V"), (0, .methodref 19 25), (0, .nameAndType 26 27), (0, u "equals"), (0, u "(Ljava/lang/Object;)Z"), (0, .methodref 9 29), (0, .nameAndType 30 31), (0, u "valueOf"), (0, u "(J)Ljava/lang/Long;"), (0, .class_ 33), (0, u "com/example/quorumvote/quorumvote/election/VoteEqualsPinLaw"), (2, u "law"), (0, u "(JJJJJI)Z")] 3

def k1m0 : Method := { name := "<init>", desc := "()V", sig := { parameters := [], returnType := none }, accessFlags := 2, code := none }
def k1c1 : Code := { maxStack := 8, maxLocals := 27, code := code, exceptionTable := #[], attributes := #[] }
def k1m1 : Method := { name := "law", desc := "(JJJJJI)Z", sig := { parameters := [.long, .long, .long, .long, .long, .int], returnType := some .boolean }, accessFlags := 9, code := some k1c1 }
/-- com/example/quorumvote/quorumvote/election/VoteEqualsPinLaw -/
def k1 : Class := { plain "com/example/quorumvote/quorumvote/election/VoteEqualsPinLaw" (some 0) with
  accessFlags := 49
  interfaces := #[]
  cf := some (fileOf pool1 32 #[] #[{ accessFlags := 2, nameIndex := 5, descriptorIndex := 6, attributes := #[] }, { accessFlags := 9, nameIndex := 36, descriptorIndex := 37, attributes := #[] }] 49 2 #[] #[])
  fields := #[]
  methods := #[k1m0, k1m1]
  instanceTypes := #[]
  staticTypes := #[]
  resolved := Array.replicate 41 none
  statics := none }

def pool2 : Array CpInfo := pool [(1, .class_ 2), (0, u "java/lang/Math"), (1, .class_ 6), (1, u "java/lang/Object"), (0, u "<init>"), (0, u "()V"), (89, .class_ 100), (1, u "java/lang/Math$RandomNumberGeneratorHolder"), (20, u "(JJ)J"), (50, u "negativeZeroFloatBits"), (0, u "J"), (2, u "negativeZeroDoubleBits"), (21, u "max"), (46, u "$assertionsDisabled"), (0, u "Z"), (91, u "twoToTheDoubleScaleDown"), (0, u "D"), (4, u "twoToTheDoubleScaleUp"), (9, u "E"), (3, u "PI"), (2, u "TAU"), (2, u "DEGREES_TO_RADIANS"), (0, u "RADIANS_TO_DEGREES")] 94

def k2m0 : Method := { name := "<init>", desc := "()V", sig := { parameters := [], returnType := none }, accessFlags := 2, code := none }
def k2c1 : Code := { maxStack := 4, maxLocals := 4, code := jdk_29_method_66_code, exceptionTable := #[], attributes := #[] }
def k2m1 : Method := { name := "max", desc := "(JJ)J", sig := { parameters := [.long, .long], returnType := some .long }, accessFlags := 9, code := some k2c1 }
/-- java/lang/Math -/
def k2 : Class := { plain "java/lang/Math" (some 0) with
  accessFlags := 49
  interfaces := #[]
  cf := some (fileOf pool2 1 #[.nestMembers #[98]] #[{ accessFlags := 2, nameIndex := 7, descriptorIndex := 8, attributes := #[] }, { accessFlags := 9, nameIndex := 198, descriptorIndex := 121, attributes := #[] }] 49 4 #[] #[{ accessFlags := 25, nameIndex := 354, descriptorIndex := 339, attributes := #[] }, { accessFlags := 25, nameIndex := 358, descriptorIndex := 339, attributes := #[] }, { accessFlags := 25, nameIndex := 361, descriptorIndex := 339, attributes := #[] }, { accessFlags := 26, nameIndex := 364, descriptorIndex := 339, attributes := #[] }, { accessFlags := 26, nameIndex := 365, descriptorIndex := 339, attributes := #[] }, { accessFlags := 26, nameIndex := 172, descriptorIndex := 173, attributes := #[] }, { accessFlags := 26, nameIndex := 176, descriptorIndex := 173, attributes := #[] }, { accessFlags := 8, nameIndex := 344, descriptorIndex := 339, attributes := #[] }, { accessFlags := 8, nameIndex := 338, descriptorIndex := 339, attributes := #[] }, { accessFlags := 4120, nameIndex := 245, descriptorIndex := 246, attributes := #[] }])
  fields := #[{ name := "E", type := .double, accessFlags := 25, slot := 0, constantValue := 0 }, { name := "PI", type := .double, accessFlags := 25, slot := 1, constantValue := 0 }, { name := "TAU", type := .double, accessFlags := 25, slot := 2, constantValue := 0 }, { name := "DEGREES_TO_RADIANS", type := .double, accessFlags := 26, slot := 3, constantValue := 0 }, { name := "RADIANS_TO_DEGREES", type := .double, accessFlags := 26, slot := 4, constantValue := 0 }, { name := "negativeZeroFloatBits", type := .long, accessFlags := 26, slot := 5, constantValue := 0 }, { name := "negativeZeroDoubleBits", type := .long, accessFlags := 26, slot := 6, constantValue := 0 }, { name := "twoToTheDoubleScaleUp", type := .double, accessFlags := 8, slot := 7, constantValue := 0 }, { name := "twoToTheDoubleScaleDown", type := .double, accessFlags := 8, slot := 8, constantValue := 0 }, { name := "$assertionsDisabled", type := .boolean, accessFlags := 4120, slot := 9, constantValue := 0 }]
  methods := #[k2m0, k2m1]
  instanceTypes := #[]
  staticTypes := #[.double, .double, .double, .double, .double, .long, .long, .double, .double, .boolean]
  resolved := Array.replicate 460 none
  statics := none }

def pool3 : Array CpInfo := pool [(1, .methodref 2 3), (0, .class_ 4), (0, .nameAndType 5 6), (0, u "java/lang/Object"), (0, u "<init>"), (0, u "()V"), (0, .class_ 8), (0, u "java/lang/Record")] 13

def k3c0 : Code := { maxStack := 1, maxLocals := 1, code := jdk_30_method_1_code, exceptionTable := #[], attributes := #[] }
def k3m0 : Method := { name := "<init>", desc := "()V", sig := { parameters := [], returnType := none }, accessFlags := 4, code := some k3c0 }
/-- java/lang/Record -/
def k3 : Class := { plain "java/lang/Record" (some 0) with
  accessFlags := 1057
  interfaces := #[]
  cf := some (fileOf pool3 7 #[] #[{ accessFlags := 4, nameIndex := 5, descriptorIndex := 6, attributes := #[] }] 1057 2 #[] #[])
  fields := #[]
  methods := #[k3m0]
  instanceTypes := #[]
  staticTypes := #[]
  resolved := Array.replicate 22 none
  statics := none }

def pool4 : Array CpInfo := pool [(1, .class_ 2), (0, u "java/lang/Comparable"), (0, .class_ 4), (0, u "java/lang/Object")] 7

/-- java/lang/Comparable -/
def k4 : Class := { plain "java/lang/Comparable" (some 0) with
  accessFlags := 1537
  interfaces := #[]
  cf := some (fileOf pool4 1 #[] #[] 1537 3 #[] #[])
  fields := #[]
  methods := #[]
  instanceTypes := #[]
  staticTypes := #[]
  resolved := Array.replicate 12 none
  statics := none }

def pool5 : Array CpInfo := pool [(1, .methodref 2 3), (0, .class_ 4), (0, .nameAndType 5 6), (0, u "java/lang/Record"), (0, u "<init>"), (0, u "()V"), (0, .methodref 8 9), (0, .class_ 10), (0, .nameAndType 11 12), (0, u "com/example/quorumvote/quorumvote/election/Epochs"), (0, u "requireEpoch"), (0, u "(J)J"), (0, .methodref 8 14), (0, .nameAndType 15 12), (0, u "requireZxid"), (9, .fieldref 26 27), (0, .class_ 28), (0, .nameAndType 29 30), (0, u "com/example/quorumvote/quorumvote/election/Vote"), (0, u "epoch"), (0, u "J"), (0, .fieldref 26 32), (0, .nameAndType 33 30), (0, u "zxid"), (0, .fieldref 26 35), (0, .nameAndType 36 30), (0, u "serverId"), (26, u "ORDER"), (0, u "Ljava/util/Comparator;"), (0, .class_ 66), (0, u "java/lang/Comparable"), (2, u "(JJJ)V"), (4, u "equals"), (0, u "(Ljava/lang/Object;)Z")] 36

def k5c0 : Code := { maxStack := 4, maxLocals := 7, code := prog_29_method_1_code, exceptionTable := #[], attributes := #[] }
def k5m0 : Method := { name := "<init>", desc := "(JJJ)V", sig := { parameters := [.long, .long, .long], returnType := none }, accessFlags := 1, code := some k5c0 }
def k5c1 : Code := { maxStack := 4, maxLocals := 3, code := prog_29_method_3_code, exceptionTable := #[], attributes := #[] }
def k5m1 : Method := { name := "equals", desc := "(Ljava/lang/Object;)Z", sig := { parameters := [(.object "java/lang/Object")], returnType := some .boolean }, accessFlags := 1, code := some k5c1 }
/-- com/example/quorumvote/quorumvote/election/Vote -/
def k5 : Class := { plain "com/example/quorumvote/quorumvote/election/Vote" (some 3) with
  accessFlags := 49
  interfaces := #[4]
  cf := some (fileOf pool5 26 #[] #[{ accessFlags := 1, nameIndex := 5, descriptorIndex := 69, attributes := #[] }, { accessFlags := 1, nameIndex := 74, descriptorIndex := 75, attributes := #[] }] 49 2 #[65] #[{ accessFlags := 18, nameIndex := 29, descriptorIndex := 30, attributes := #[] }, { accessFlags := 18, nameIndex := 33, descriptorIndex := 30, attributes := #[] }, { accessFlags := 18, nameIndex := 36, descriptorIndex := 30, attributes := #[] }, { accessFlags := 25, nameIndex := 63, descriptorIndex := 64, attributes := #[] }])
  fields := #[{ name := "epoch", type := .long, accessFlags := 18, slot := 0, constantValue := 0 }, { name := "zxid", type := .long, accessFlags := 18, slot := 1, constantValue := 0 }, { name := "serverId", type := .long, accessFlags := 18, slot := 2, constantValue := 0 }, { name := "ORDER", type := (.object "java/util/Comparator"), accessFlags := 25, slot := 0, constantValue := 0 }]
  methods := #[k5m0, k5m1]
  instanceTypes := #[.long, .long, .long]
  staticTypes := #[(.object "java/util/Comparator")]
  resolved := Array.replicate 112 none
  statics := none }

def pool6 : Array CpInfo := pool [(4, .class_ 6), (1, u "java/lang/Object"), (0, u "<init>"), (0, u "()V"), (33, .class_ 44), (1, u "com/example/quorumvote/quorumvote/election/Epochs"), (0, u "requireEpoch"), (0, u "(J)J"), (12, .long 2147483647), (8, u "requireZxid"), (24, u "MAX"), (0, u "J"), (1, u "MAX_LEAD"), (0, u "COUNT")] 34

def k6m0 : Method := { name := "<init>", desc := "()V", sig := { parameters := [], returnType := none }, accessFlags := 2, code := none }
def k6c1 : Code := { maxStack := 4, maxLocals := 2, code := prog_7_method_12_code, exceptionTable := #[], attributes := #[] }
def k6m1 : Method := { name := "requireEpoch", desc := "(J)J", sig := { parameters := [.long], returnType := some .long }, accessFlags := 8, code := some k6c1 }
def k6c2 : Code := { maxStack := 4, maxLocals := 2, code := prog_7_method_13_code, exceptionTable := #[], attributes := #[] }
def k6m2 : Method := { name := "requireZxid", desc := "(J)J", sig := { parameters := [.long], returnType := some .long }, accessFlags := 8, code := some k6c2 }
/-- com/example/quorumvote/quorumvote/election/Epochs -/
def k6 : Class := { plain "com/example/quorumvote/quorumvote/election/Epochs" (some 0) with
  accessFlags := 49
  interfaces := #[]
  cf := some (fileOf pool6 42 #[] #[{ accessFlags := 2, nameIndex := 7, descriptorIndex := 8, attributes := #[] }, { accessFlags := 8, nameIndex := 45, descriptorIndex := 46, attributes := #[] }, { accessFlags := 8, nameIndex := 68, descriptorIndex := 46, attributes := #[] }] 49 4 #[] #[{ accessFlags := 25, nameIndex := 93, descriptorIndex := 94, attributes := #[] }, { accessFlags := 25, nameIndex := 96, descriptorIndex := 94, attributes := #[] }, { accessFlags := 26, nameIndex := 97, descriptorIndex := 94, attributes := #[] }])
  fields := #[{ name := "MAX", type := .long, accessFlags := 25, slot := 0, constantValue := 0 }, { name := "MAX_LEAD", type := .long, accessFlags := 25, slot := 1, constantValue := 0 }, { name := "COUNT", type := .long, accessFlags := 26, slot := 2, constantValue := 0 }]
  methods := #[k6m0, k6m1, k6m2]
  instanceTypes := #[]
  staticTypes := #[.long, .long, .long]
  resolved := Array.replicate 132 none
  statics := none }

def pool7 : Array CpInfo := pool [(1, .class_ 2), (0, u "java/io/Serializable"), (0, .class_ 4), (0, u "java/lang/Object")] 2

/-- java/io/Serializable -/
def k7 : Class := { plain "java/io/Serializable" (some 0) with
  accessFlags := 1537
  interfaces := #[]
  cf := some (fileOf pool7 1 #[] #[] 1537 3 #[] #[])
  fields := #[]
  methods := #[]
  instanceTypes := #[]
  staticTypes := #[]
  resolved := Array.replicate 7 none
  statics := none }

def pool8 : Array CpInfo := pool [(1, .methodref 2 3), (0, .class_ 4), (0, .nameAndType 5 6), (0, u "java/lang/Object"), (0, u "<init>"), (0, u "()V"), (1, .class_ 10), (1, u "java/lang/Number"), (2, .class_ 14), (0, u "java/io/Serializable"), (0, u "serialVersionUID"), (0, u "J")] 20

def k8c0 : Code := { maxStack := 1, maxLocals := 1, code := jdk_18_method_1_code, exceptionTable := #[], attributes := #[] }
def k8m0 : Method := { name := "<init>", desc := "()V", sig := { parameters := [], returnType := none }, accessFlags := 1, code := some k8c0 }
/-- java/lang/Number -/
def k8 : Class := { plain "java/lang/Number" (some 0) with
  accessFlags := 1057
  interfaces := #[7]
  cf := some (fileOf pool8 8 #[] #[{ accessFlags := 1, nameIndex := 5, descriptorIndex := 6, attributes := #[] }] 1057 2 #[13] #[{ accessFlags := 26, nameIndex := 15, descriptorIndex := 16, attributes := #[] }])
  fields := #[{ name := "serialVersionUID", type := .long, accessFlags := 26, slot := 0, constantValue := 0 }]
  methods := #[k8m0]
  instanceTypes := #[]
  staticTypes := #[.long]
  resolved := Array.replicate 37 none
  statics := none }

def pool9 : Array CpInfo := pool [(1, .class_ 2), (0, u "java/lang/constant/Constable"), (0, .class_ 4), (0, u "java/lang/Object")] 6

/-- java/lang/constant/Constable -/
def k9 : Class := { plain "java/lang/constant/Constable" (some 0) with
  accessFlags := 1537
  interfaces := #[]
  cf := some (fileOf pool9 1 #[] #[] 1537 3 #[] #[])
  fields := #[]
  methods := #[]
  instanceTypes := #[]
  staticTypes := #[]
  resolved := Array.replicate 11 none
  statics := none }

def pool10 : Array CpInfo := pool [(1, .class_ 2), (0, u "java/lang/constant/ConstantDesc"), (0, .class_ 4), (0, u "java/lang/Object")] 32

/-- java/lang/constant/ConstantDesc -/
def k10 : Class := { plain "java/lang/constant/ConstantDesc" (some 0) with
  accessFlags := 1537
  interfaces := #[]
  cf := some (fileOf pool10 1 #[] #[] 1537 3 #[] #[])
  fields := #[]
  methods := #[]
  instanceTypes := #[]
  staticTypes := #[]
  resolved := Array.replicate 37 none
  statics := none }

def pool11 : Array CpInfo := pool [(1, .class_ 2), (0, u "java/lang/Long"), (55, .nameAndType 59 60), (0, u "<init>"), (0, u "()V"), (24, u "valueOf"), (143, u "(J)Ljava/lang/Long;"), (0, .long 18446744073709551488), (1, .long 127), (1, .fieldref 235 236), (0, .class_ 237), (0, .nameAndType 238 239), (0, u "java/lang/Long$LongCache"), (0, u "cache"), (0, u "[Ljava/lang/Long;"), (0, .methodref 1 241), (0, .nameAndType 59 242), (0, u "(J)V"), (27, .methodref 271 58), (0, .class_ 272), (0, u "java/lang/Number"), (0, .fieldref 1 274), (0, .nameAndType 275 276), (0, u "value"), (0, u "J"), (84, u "TYPE"), (0, u "Ljava/lang/Class;"), (0, .class_ 364), (0, u "java/lang/Comparable"), (0, .class_ 366), (0, u "java/lang/constant/Constable"), (0, .class_ 368), (0, u "java/lang/constant/ConstantDesc"), (0, u "MIN_VALUE"), (1, u "MAX_VALUE"), (4, u "SIZE"), (0, u "I"), (1, u "BYTES"), (1, u "serialVersionUID")] 142

def k11c0 : Code := { maxStack := 4, maxLocals := 3, code := jdk_35_method_24_code, exceptionTable := #[], attributes := #[] }
def k11m0 : Method := { name := "valueOf", desc := "(J)Ljava/lang/Long;", sig := { parameters := [.long], returnType := some (.object "java/lang/Long") }, accessFlags := 9, code := some k11c0 }
def k11c1 : Code := { maxStack := 3, maxLocals := 3, code := jdk_35_method_26_code, exceptionTable := #[], attributes := #[] }
def k11m1 : Method := { name := "<init>", desc := "(J)V", sig := { parameters := [.long], returnType := none }, accessFlags := 1, code := some k11c1 }
/-- java/lang/Long -/
def k11 : Class := { plain "java/lang/Long" (some 8) with
  accessFlags := 49
  interfaces := #[4, 9, 10]
  cf := some (fileOf pool11 1 #[.nestMembers #[235]] #[{ accessFlags := 9, nameIndex := 85, descriptorIndex := 229, attributes := #[] }, { accessFlags := 1, nameIndex := 59, descriptorIndex := 242, attributes := #[] }] 49 271 #[363, 365, 367] #[{ accessFlags := 25, nameIndex := 369, descriptorIndex := 276, attributes := #[] }, { accessFlags := 25, nameIndex := 371, descriptorIndex := 276, attributes := #[] }, { accessFlags := 25, nameIndex := 361, descriptorIndex := 362, attributes := #[] }, { accessFlags := 18, nameIndex := 275, descriptorIndex := 276, attributes := #[] }, { accessFlags := 25, nameIndex := 376, descriptorIndex := 377, attributes := #[] }, { accessFlags := 25, nameIndex := 379, descriptorIndex := 377, attributes := #[] }, { accessFlags := 26, nameIndex := 381, descriptorIndex := 276, attributes := #[] }])
  fields := #[{ name := "MIN_VALUE", type := .long, accessFlags := 25, slot := 0, constantValue := 0 }, { name := "MAX_VALUE", type := .long, accessFlags := 25, slot := 1, constantValue := 0 }, { name := "TYPE", type := (.object "java/lang/Class"), accessFlags := 25, slot := 2, constantValue := 0 }, { name := "value", type := .long, accessFlags := 18, slot := 0, constantValue := 0 }, { name := "SIZE", type := .int, accessFlags := 25, slot := 3, constantValue := 0 }, { name := "BYTES", type := .int, accessFlags := 25, slot := 4, constantValue := 0 }, { name := "serialVersionUID", type := .long, accessFlags := 26, slot := 5, constantValue := 0 }]
  methods := #[k11m0, k11m1]
  instanceTypes := #[.long]
  staticTypes := #[.long, .long, (.object "java/lang/Class"), .int, .int, .long]
  resolved := Array.replicate 524 none
  statics := none }

def pool12 : Array CpInfo := pool [(2, .class_ 4), (1, u "java/lang/Object"), (0, u "<init>"), (0, u "()V"), (0, .class_ 8), (0, u "java/lang/Long"), (7, .class_ 18), (1, u "java/lang/Long$LongCache"), (0, u "$assertionsDisabled"), (0, u "Z"), (8, u "archivedCache"), (0, u "[Ljava/lang/Long;"), (7, u "cache")] 24

def k12m0 : Method := { name := "<init>", desc := "()V", sig := { parameters := [], returnType := none }, accessFlags := 2, code := none }
/-- java/lang/Long$LongCache -/
def k12 : Class := { plain "java/lang/Long$LongCache" (some 0) with
  accessFlags := 48
  interfaces := #[]
  cf := some (fileOf pool12 16 #[.nestHost 7] #[{ accessFlags := 2, nameIndex := 5, descriptorIndex := 6, attributes := #[] }] 48 2 #[] #[{ accessFlags := 24, nameIndex := 38, descriptorIndex := 30, attributes := #[] }, { accessFlags := 8, nameIndex := 29, descriptorIndex := 30, attributes := #[] }, { accessFlags := 4120, nameIndex := 19, descriptorIndex := 20, attributes := #[] }])
  fields := #[{ name := "cache", type := (.array (.object "java/lang/Long")), accessFlags := 24, slot := 0, constantValue := 0 }, { name := "archivedCache", type := (.array (.object "java/lang/Long")), accessFlags := 8, slot := 1, constantValue := 0 }, { name := "$assertionsDisabled", type := .boolean, accessFlags := 4120, slot := 2, constantValue := 0 }]
  methods := #[k12m0]
  instanceTypes := #[]
  staticTypes := #[(.array (.object "java/lang/Long")), (.array (.object "java/lang/Long")), .boolean]
  resolved := Array.replicate 63 none
  statics := some 0 }

def pool13 : Array CpInfo := pool [(1, u "java/lang/Cloneable"), (0, .class_ 1), (0, u "java/lang/Object"), (0, .class_ 3)] 3

/-- java/lang/Cloneable -/
def k13 : Class := { plain "java/lang/Cloneable" (some 0) with
  accessFlags := 1537
  interfaces := #[]
  cf := some (fileOf pool13 2 #[] #[] 1537 4 #[] #[])
  fields := #[]
  methods := #[]
  instanceTypes := #[]
  staticTypes := #[]
  resolved := Array.replicate 8 none
  statics := none }

/-- the primitive byte -/
def k14 : Class := { plain "byte" none with kind := .primitive 'B', accessFlags := 0x411 }
/-- [B -/
def k15 : Class := { plain "[B" (some 0) with kind := .array 14 .byte, interfaces := #[13, 7], accessFlags := 1041 }

/-- the primitive int -/
def k16 : Class := { plain "int" none with kind := .primitive 'I', accessFlags := 0x411 }
/-- [I -/
def k17 : Class := { plain "[I" (some 0) with kind := .array 16 .int, interfaces := #[13, 7], accessFlags := 1041 }

/-- [Ljava/lang/Long; -/
def k18 : Class := { plain "[Ljava/lang/Long;" (some 0) with kind := .array 11 (.object "java/lang/Long"), interfaces := #[13, 7], accessFlags := 1041 }

def heap : Heap := #[{ cls := 12, slots := #[.ref 1, .null, .int 0], vm := .statics 12 },
  { cls := 18, slots := #[.ref 2, .ref 3, .ref 4, .ref 5, .ref 6, .ref 7, .ref 8, .ref 9, .ref 10, .ref 11, .ref 12, .ref 13, .ref 14, .ref 15, .ref 16, .ref 17, .ref 18, .ref 19, .ref 20, .ref 21, .ref 22, .ref 23, .ref 24, .ref 25, .ref 26, .ref 27, .ref 28, .ref 29, .ref 30, .ref 31, .ref 32, .ref 33, .ref 34, .ref 35, .ref 36, .ref 37, .ref 38, .ref 39, .ref 40, .ref 41, .ref 42, .ref 43, .ref 44, .ref 45, .ref 46, .ref 47, .ref 48, .ref 49, .ref 50, .ref 51, .ref 52, .ref 53, .ref 54, .ref 55, .ref 56, .ref 57, .ref 58, .ref 59, .ref 60, .ref 61, .ref 62, .ref 63, .ref 64, .ref 65, .ref 66, .ref 67, .ref 68, .ref 69, .ref 70, .ref 71, .ref 72, .ref 73, .ref 74, .ref 75, .ref 76, .ref 77, .ref 78, .ref 79, .ref 80, .ref 81, .ref 82, .ref 83, .ref 84, .ref 85, .ref 86, .ref 87, .ref 88, .ref 89, .ref 90, .ref 91, .ref 92, .ref 93, .ref 94, .ref 95, .ref 96, .ref 97, .ref 98, .ref 99, .ref 100, .ref 101, .ref 102, .ref 103, .ref 104, .ref 105, .ref 106, .ref 107, .ref 108, .ref 109, .ref 110, .ref 111, .ref 112, .ref 113, .ref 114, .ref 115, .ref 116, .ref 117, .ref 118, .ref 119, .ref 120, .ref 121, .ref 122, .ref 123, .ref 124, .ref 125, .ref 126, .ref 127, .ref 128, .ref 129, .ref 130, .ref 131, .ref 132, .ref 133, .ref 134, .ref 135, .ref 136, .ref 137, .ref 138, .ref 139, .ref 140, .ref 141, .ref 142, .ref 143, .ref 144, .ref 145, .ref 146, .ref 147, .ref 148, .ref 149, .ref 150, .ref 151, .ref 152, .ref 153, .ref 154, .ref 155, .ref 156, .ref 157, .ref 158, .ref 159, .ref 160, .ref 161, .ref 162, .ref 163, .ref 164, .ref 165, .ref 166, .ref 167, .ref 168, .ref 169, .ref 170, .ref 171, .ref 172, .ref 173, .ref 174, .ref 175, .ref 176, .ref 177, .ref 178, .ref 179, .ref 180, .ref 181, .ref 182, .ref 183, .ref 184, .ref 185, .ref 186, .ref 187, .ref 188, .ref 189, .ref 190, .ref 191, .ref 192, .ref 193, .ref 194, .ref 195, .ref 196, .ref 197, .ref 198, .ref 199, .ref 200, .ref 201, .ref 202, .ref 203, .ref 204, .ref 205, .ref 206, .ref 207, .ref 208, .ref 209, .ref 210, .ref 211, .ref 212, .ref 213, .ref 214, .ref 215, .ref 216, .ref 217, .ref 218, .ref 219, .ref 220, .ref 221, .ref 222, .ref 223, .ref 224, .ref 225, .ref 226, .ref 227, .ref 228, .ref 229, .ref 230, .ref 231, .ref 232, .ref 233, .ref 234, .ref 235, .ref 236, .ref 237, .ref 238, .ref 239, .ref 240, .ref 241, .ref 242, .ref 243, .ref 244, .ref 245, .ref 246, .ref 247, .ref 248, .ref 249, .ref 250, .ref 251, .ref 252, .ref 253, .ref 254, .ref 255, .ref 256, .ref 257], vm := .none },
  { cls := 11, slots := #[.long (-128)], vm := .none },
  { cls := 11, slots := #[.long (-127)], vm := .none },
  { cls := 11, slots := #[.long (-126)], vm := .none },
  { cls := 11, slots := #[.long (-125)], vm := .none },
  { cls := 11, slots := #[.long (-124)], vm := .none },
  { cls := 11, slots := #[.long (-123)], vm := .none },
  { cls := 11, slots := #[.long (-122)], vm := .none },
  { cls := 11, slots := #[.long (-121)], vm := .none },
  { cls := 11, slots := #[.long (-120)], vm := .none },
  { cls := 11, slots := #[.long (-119)], vm := .none },
  { cls := 11, slots := #[.long (-118)], vm := .none },
  { cls := 11, slots := #[.long (-117)], vm := .none },
  { cls := 11, slots := #[.long (-116)], vm := .none },
  { cls := 11, slots := #[.long (-115)], vm := .none },
  { cls := 11, slots := #[.long (-114)], vm := .none },
  { cls := 11, slots := #[.long (-113)], vm := .none },
  { cls := 11, slots := #[.long (-112)], vm := .none },
  { cls := 11, slots := #[.long (-111)], vm := .none },
  { cls := 11, slots := #[.long (-110)], vm := .none },
  { cls := 11, slots := #[.long (-109)], vm := .none },
  { cls := 11, slots := #[.long (-108)], vm := .none },
  { cls := 11, slots := #[.long (-107)], vm := .none },
  { cls := 11, slots := #[.long (-106)], vm := .none },
  { cls := 11, slots := #[.long (-105)], vm := .none },
  { cls := 11, slots := #[.long (-104)], vm := .none },
  { cls := 11, slots := #[.long (-103)], vm := .none },
  { cls := 11, slots := #[.long (-102)], vm := .none },
  { cls := 11, slots := #[.long (-101)], vm := .none },
  { cls := 11, slots := #[.long (-100)], vm := .none },
  { cls := 11, slots := #[.long (-99)], vm := .none },
  { cls := 11, slots := #[.long (-98)], vm := .none },
  { cls := 11, slots := #[.long (-97)], vm := .none },
  { cls := 11, slots := #[.long (-96)], vm := .none },
  { cls := 11, slots := #[.long (-95)], vm := .none },
  { cls := 11, slots := #[.long (-94)], vm := .none },
  { cls := 11, slots := #[.long (-93)], vm := .none },
  { cls := 11, slots := #[.long (-92)], vm := .none },
  { cls := 11, slots := #[.long (-91)], vm := .none },
  { cls := 11, slots := #[.long (-90)], vm := .none },
  { cls := 11, slots := #[.long (-89)], vm := .none },
  { cls := 11, slots := #[.long (-88)], vm := .none },
  { cls := 11, slots := #[.long (-87)], vm := .none },
  { cls := 11, slots := #[.long (-86)], vm := .none },
  { cls := 11, slots := #[.long (-85)], vm := .none },
  { cls := 11, slots := #[.long (-84)], vm := .none },
  { cls := 11, slots := #[.long (-83)], vm := .none },
  { cls := 11, slots := #[.long (-82)], vm := .none },
  { cls := 11, slots := #[.long (-81)], vm := .none },
  { cls := 11, slots := #[.long (-80)], vm := .none },
  { cls := 11, slots := #[.long (-79)], vm := .none },
  { cls := 11, slots := #[.long (-78)], vm := .none },
  { cls := 11, slots := #[.long (-77)], vm := .none },
  { cls := 11, slots := #[.long (-76)], vm := .none },
  { cls := 11, slots := #[.long (-75)], vm := .none },
  { cls := 11, slots := #[.long (-74)], vm := .none },
  { cls := 11, slots := #[.long (-73)], vm := .none },
  { cls := 11, slots := #[.long (-72)], vm := .none },
  { cls := 11, slots := #[.long (-71)], vm := .none },
  { cls := 11, slots := #[.long (-70)], vm := .none },
  { cls := 11, slots := #[.long (-69)], vm := .none },
  { cls := 11, slots := #[.long (-68)], vm := .none },
  { cls := 11, slots := #[.long (-67)], vm := .none },
  { cls := 11, slots := #[.long (-66)], vm := .none },
  { cls := 11, slots := #[.long (-65)], vm := .none },
  { cls := 11, slots := #[.long (-64)], vm := .none },
  { cls := 11, slots := #[.long (-63)], vm := .none },
  { cls := 11, slots := #[.long (-62)], vm := .none },
  { cls := 11, slots := #[.long (-61)], vm := .none },
  { cls := 11, slots := #[.long (-60)], vm := .none },
  { cls := 11, slots := #[.long (-59)], vm := .none },
  { cls := 11, slots := #[.long (-58)], vm := .none },
  { cls := 11, slots := #[.long (-57)], vm := .none },
  { cls := 11, slots := #[.long (-56)], vm := .none },
  { cls := 11, slots := #[.long (-55)], vm := .none },
  { cls := 11, slots := #[.long (-54)], vm := .none },
  { cls := 11, slots := #[.long (-53)], vm := .none },
  { cls := 11, slots := #[.long (-52)], vm := .none },
  { cls := 11, slots := #[.long (-51)], vm := .none },
  { cls := 11, slots := #[.long (-50)], vm := .none },
  { cls := 11, slots := #[.long (-49)], vm := .none },
  { cls := 11, slots := #[.long (-48)], vm := .none },
  { cls := 11, slots := #[.long (-47)], vm := .none },
  { cls := 11, slots := #[.long (-46)], vm := .none },
  { cls := 11, slots := #[.long (-45)], vm := .none },
  { cls := 11, slots := #[.long (-44)], vm := .none },
  { cls := 11, slots := #[.long (-43)], vm := .none },
  { cls := 11, slots := #[.long (-42)], vm := .none },
  { cls := 11, slots := #[.long (-41)], vm := .none },
  { cls := 11, slots := #[.long (-40)], vm := .none },
  { cls := 11, slots := #[.long (-39)], vm := .none },
  { cls := 11, slots := #[.long (-38)], vm := .none },
  { cls := 11, slots := #[.long (-37)], vm := .none },
  { cls := 11, slots := #[.long (-36)], vm := .none },
  { cls := 11, slots := #[.long (-35)], vm := .none },
  { cls := 11, slots := #[.long (-34)], vm := .none },
  { cls := 11, slots := #[.long (-33)], vm := .none },
  { cls := 11, slots := #[.long (-32)], vm := .none },
  { cls := 11, slots := #[.long (-31)], vm := .none },
  { cls := 11, slots := #[.long (-30)], vm := .none },
  { cls := 11, slots := #[.long (-29)], vm := .none },
  { cls := 11, slots := #[.long (-28)], vm := .none },
  { cls := 11, slots := #[.long (-27)], vm := .none },
  { cls := 11, slots := #[.long (-26)], vm := .none },
  { cls := 11, slots := #[.long (-25)], vm := .none },
  { cls := 11, slots := #[.long (-24)], vm := .none },
  { cls := 11, slots := #[.long (-23)], vm := .none },
  { cls := 11, slots := #[.long (-22)], vm := .none },
  { cls := 11, slots := #[.long (-21)], vm := .none },
  { cls := 11, slots := #[.long (-20)], vm := .none },
  { cls := 11, slots := #[.long (-19)], vm := .none },
  { cls := 11, slots := #[.long (-18)], vm := .none },
  { cls := 11, slots := #[.long (-17)], vm := .none },
  { cls := 11, slots := #[.long (-16)], vm := .none },
  { cls := 11, slots := #[.long (-15)], vm := .none },
  { cls := 11, slots := #[.long (-14)], vm := .none },
  { cls := 11, slots := #[.long (-13)], vm := .none },
  { cls := 11, slots := #[.long (-12)], vm := .none },
  { cls := 11, slots := #[.long (-11)], vm := .none },
  { cls := 11, slots := #[.long (-10)], vm := .none },
  { cls := 11, slots := #[.long (-9)], vm := .none },
  { cls := 11, slots := #[.long (-8)], vm := .none },
  { cls := 11, slots := #[.long (-7)], vm := .none },
  { cls := 11, slots := #[.long (-6)], vm := .none },
  { cls := 11, slots := #[.long (-5)], vm := .none },
  { cls := 11, slots := #[.long (-4)], vm := .none },
  { cls := 11, slots := #[.long (-3)], vm := .none },
  { cls := 11, slots := #[.long (-2)], vm := .none },
  { cls := 11, slots := #[.long (-1)], vm := .none },
  { cls := 11, slots := #[.long 0], vm := .none },
  { cls := 11, slots := #[.long 1], vm := .none },
  { cls := 11, slots := #[.long 2], vm := .none },
  { cls := 11, slots := #[.long 3], vm := .none },
  { cls := 11, slots := #[.long 4], vm := .none },
  { cls := 11, slots := #[.long 5], vm := .none },
  { cls := 11, slots := #[.long 6], vm := .none },
  { cls := 11, slots := #[.long 7], vm := .none },
  { cls := 11, slots := #[.long 8], vm := .none },
  { cls := 11, slots := #[.long 9], vm := .none },
  { cls := 11, slots := #[.long 10], vm := .none },
  { cls := 11, slots := #[.long 11], vm := .none },
  { cls := 11, slots := #[.long 12], vm := .none },
  { cls := 11, slots := #[.long 13], vm := .none },
  { cls := 11, slots := #[.long 14], vm := .none },
  { cls := 11, slots := #[.long 15], vm := .none },
  { cls := 11, slots := #[.long 16], vm := .none },
  { cls := 11, slots := #[.long 17], vm := .none },
  { cls := 11, slots := #[.long 18], vm := .none },
  { cls := 11, slots := #[.long 19], vm := .none },
  { cls := 11, slots := #[.long 20], vm := .none },
  { cls := 11, slots := #[.long 21], vm := .none },
  { cls := 11, slots := #[.long 22], vm := .none },
  { cls := 11, slots := #[.long 23], vm := .none },
  { cls := 11, slots := #[.long 24], vm := .none },
  { cls := 11, slots := #[.long 25], vm := .none },
  { cls := 11, slots := #[.long 26], vm := .none },
  { cls := 11, slots := #[.long 27], vm := .none },
  { cls := 11, slots := #[.long 28], vm := .none },
  { cls := 11, slots := #[.long 29], vm := .none },
  { cls := 11, slots := #[.long 30], vm := .none },
  { cls := 11, slots := #[.long 31], vm := .none },
  { cls := 11, slots := #[.long 32], vm := .none },
  { cls := 11, slots := #[.long 33], vm := .none },
  { cls := 11, slots := #[.long 34], vm := .none },
  { cls := 11, slots := #[.long 35], vm := .none },
  { cls := 11, slots := #[.long 36], vm := .none },
  { cls := 11, slots := #[.long 37], vm := .none },
  { cls := 11, slots := #[.long 38], vm := .none },
  { cls := 11, slots := #[.long 39], vm := .none },
  { cls := 11, slots := #[.long 40], vm := .none },
  { cls := 11, slots := #[.long 41], vm := .none },
  { cls := 11, slots := #[.long 42], vm := .none },
  { cls := 11, slots := #[.long 43], vm := .none },
  { cls := 11, slots := #[.long 44], vm := .none },
  { cls := 11, slots := #[.long 45], vm := .none },
  { cls := 11, slots := #[.long 46], vm := .none },
  { cls := 11, slots := #[.long 47], vm := .none },
  { cls := 11, slots := #[.long 48], vm := .none },
  { cls := 11, slots := #[.long 49], vm := .none },
  { cls := 11, slots := #[.long 50], vm := .none },
  { cls := 11, slots := #[.long 51], vm := .none },
  { cls := 11, slots := #[.long 52], vm := .none },
  { cls := 11, slots := #[.long 53], vm := .none },
  { cls := 11, slots := #[.long 54], vm := .none },
  { cls := 11, slots := #[.long 55], vm := .none },
  { cls := 11, slots := #[.long 56], vm := .none },
  { cls := 11, slots := #[.long 57], vm := .none },
  { cls := 11, slots := #[.long 58], vm := .none },
  { cls := 11, slots := #[.long 59], vm := .none },
  { cls := 11, slots := #[.long 60], vm := .none },
  { cls := 11, slots := #[.long 61], vm := .none },
  { cls := 11, slots := #[.long 62], vm := .none },
  { cls := 11, slots := #[.long 63], vm := .none },
  { cls := 11, slots := #[.long 64], vm := .none },
  { cls := 11, slots := #[.long 65], vm := .none },
  { cls := 11, slots := #[.long 66], vm := .none },
  { cls := 11, slots := #[.long 67], vm := .none },
  { cls := 11, slots := #[.long 68], vm := .none },
  { cls := 11, slots := #[.long 69], vm := .none },
  { cls := 11, slots := #[.long 70], vm := .none },
  { cls := 11, slots := #[.long 71], vm := .none },
  { cls := 11, slots := #[.long 72], vm := .none },
  { cls := 11, slots := #[.long 73], vm := .none },
  { cls := 11, slots := #[.long 74], vm := .none },
  { cls := 11, slots := #[.long 75], vm := .none },
  { cls := 11, slots := #[.long 76], vm := .none },
  { cls := 11, slots := #[.long 77], vm := .none },
  { cls := 11, slots := #[.long 78], vm := .none },
  { cls := 11, slots := #[.long 79], vm := .none },
  { cls := 11, slots := #[.long 80], vm := .none },
  { cls := 11, slots := #[.long 81], vm := .none },
  { cls := 11, slots := #[.long 82], vm := .none },
  { cls := 11, slots := #[.long 83], vm := .none },
  { cls := 11, slots := #[.long 84], vm := .none },
  { cls := 11, slots := #[.long 85], vm := .none },
  { cls := 11, slots := #[.long 86], vm := .none },
  { cls := 11, slots := #[.long 87], vm := .none },
  { cls := 11, slots := #[.long 88], vm := .none },
  { cls := 11, slots := #[.long 89], vm := .none },
  { cls := 11, slots := #[.long 90], vm := .none },
  { cls := 11, slots := #[.long 91], vm := .none },
  { cls := 11, slots := #[.long 92], vm := .none },
  { cls := 11, slots := #[.long 93], vm := .none },
  { cls := 11, slots := #[.long 94], vm := .none },
  { cls := 11, slots := #[.long 95], vm := .none },
  { cls := 11, slots := #[.long 96], vm := .none },
  { cls := 11, slots := #[.long 97], vm := .none },
  { cls := 11, slots := #[.long 98], vm := .none },
  { cls := 11, slots := #[.long 99], vm := .none },
  { cls := 11, slots := #[.long 100], vm := .none },
  { cls := 11, slots := #[.long 101], vm := .none },
  { cls := 11, slots := #[.long 102], vm := .none },
  { cls := 11, slots := #[.long 103], vm := .none },
  { cls := 11, slots := #[.long 104], vm := .none },
  { cls := 11, slots := #[.long 105], vm := .none },
  { cls := 11, slots := #[.long 106], vm := .none },
  { cls := 11, slots := #[.long 107], vm := .none },
  { cls := 11, slots := #[.long 108], vm := .none },
  { cls := 11, slots := #[.long 109], vm := .none },
  { cls := 11, slots := #[.long 110], vm := .none },
  { cls := 11, slots := #[.long 111], vm := .none },
  { cls := 11, slots := #[.long 112], vm := .none },
  { cls := 11, slots := #[.long 113], vm := .none },
  { cls := 11, slots := #[.long 114], vm := .none },
  { cls := 11, slots := #[.long 115], vm := .none },
  { cls := 11, slots := #[.long 116], vm := .none },
  { cls := 11, slots := #[.long 117], vm := .none },
  { cls := 11, slots := #[.long 118], vm := .none },
  { cls := 11, slots := #[.long 119], vm := .none },
  { cls := 11, slots := #[.long 120], vm := .none },
  { cls := 11, slots := #[.long 121], vm := .none },
  { cls := 11, slots := #[.long 122], vm := .none },
  { cls := 11, slots := #[.long 123], vm := .none },
  { cls := 11, slots := #[.long 124], vm := .none },
  { cls := 11, slots := #[.long 125], vm := .none },
  { cls := 11, slots := #[.long 126], vm := .none },
  { cls := 11, slots := #[.long 127], vm := .none }]
def classes : Array Class := #[k0, k1, k2, k3, k4, k5, k6, k7, k8, k9, k10, k11, k12, k13, k14, k15, k16, k17, k18]
def interned : List (Array UInt16 × Addr) := []
def slotsUsed : Nat := 515
def theMethod : MethodId := ⟨1, 1⟩
def args0 : Array Value := #[.long 5, .long 6, .long 7, .long 8, .long 9, .int 3]
def aboutOver (below : List Frame) : State where
  vm := { classes := classes, interned := interned.toArray }
  heap := heap
  slotsUsed := slotsUsed
  threads := #[{ frames := .invoking theMethod args0 :: below }]
def below0 : List Frame := [.native { method := ⟨0, 0⟩, args := #[] }]
def about1 : State := aboutOver below0
def p0 : Program := .bare "" "" ""
def e0 : Env := launch0.env 0 0 0
theorem w_frames : about1.frames = Frame.invoking theMethod args0 :: below0 := rfl
set_option maxRecDepth 65536 in
theorem w_args : argsFit about1.vm theMethod args0 = true := by decide +kernel
set_option maxRecDepth 65536 in
theorem w_heap : heapFits about1 = true := by decide +kernel
set_option maxRecDepth 65536 in
theorem w_runnable : about1.curStatus? = some .runnable := by decide +kernel
set_option maxRecDepth 65536 in
theorem w_alone : about1.alone = true := by decide +kernel
set_option maxRecDepth 65536 in
theorem w_named : about1.methodNamed? x = some theMethod := by decide +kernel
set_option maxRecDepth 65536 in
theorem w_hears : about1.hears theMethod below0 = true := by decide +kernel
set_option maxRecDepth 65536 in
theorem w_ripe : about1.ripe theMethod args0 below0 = true := by decide +kernel
theorem w_running : about1.status = .running := rfl
set_option maxRecDepth 65536 in
theorem w_room : about1.hasRoom e0.platform room_1 = true :=
  launch0.hasRoom_least _ room_1 (by decide +kernel) (by decide +kernel) (by decide +kernel) (by decide +kernel) (by decide +kernel) (by decide +kernel)
theorem allAtoms_all (ts : List Jvm.Cond) (a : Array Jvm.Value) (st : Jvm.State) : (allAtoms ts).before a st = ts.all (fun c => c.before a st) := by
  induction ts with
  | nil => rfl
  | cons c t ih =>
    show (Jvm.Cond.and c (allAtoms t)).before a st = _
    rw [Jvm.Cond.before_and, ih, List.all_cons]
def words1 : List Jvm.Cond := Jvm.Cond.code x code maxLocals ret :: tables_1
/-- a 'code' word, met by the world's own term for the bytes: nothing is compared byte by byte -/
theorem code_word {y : MethodName} {bytes : ByteArray} {mx : Nat} {rt : Option FieldType} {a : Array Value} {s : State} {m : MethodId} {meth : Method} {c : Code} (h1 : s.methodNamed? y = some m) (h2 : s.vm.method? m = some meth) (h3 : meth.code = some c) (h4 : c.code = bytes)
    (h5 : (c.maxLocals == mx && c.exceptionTable.isEmpty && decide (c.maxStack ≤ mostOperands) && decide (meth.sig.returnType = rt) && !meth.locks && decide (parseMethodDescriptor y.desc = some meth.sig)) = true) : (Jvm.Cond.code y bytes mx rt).before a s = true := by
  simp only [Bool.and_eq_true, beq_iff_eq, Bool.not_eq_true', decide_eq_true_eq] at h5
  obtain ⟨⟨⟨⟨⟨g1, g2⟩, g3⟩, g4⟩, g5⟩, g6⟩ := h5
  simp [Cond.before, Cond.holds, Cond.value, h1, h2, h3, h4, g1, g2, g3, g4, g5, g6]
def isCode : Jvm.Cond → Bool
  | .code _ _ _ _ => true
  | _ => false
theorem all_split {L : List Jvm.Cond} {P : Jvm.Cond → Bool} (h1 : L.all (fun c => isCode c || P c) = true) (h2 : ∀ c ∈ L.filter isCode, P c = true) : L.all P = true := by
  refine List.all_eq_true.mpr fun c hc => ?_
  have h := List.all_eq_true.mp h1 c hc
  rcases Bool.eq_false_or_eq_true (isCode c) with hi | hi
  · exact h2 c (List.mem_filter.mpr ⟨hc, hi⟩)
  · simpa [hi] using h
set_option maxRecDepth 65536 in
theorem w_c0 : (Jvm.Cond.code x code maxLocals ret).before args0 about1 = true := code_word (m := ⟨1, 1⟩) (meth := k1m1) (c := k1c1) (by decide +kernel) rfl rfl rfl (by decide +kernel)
set_option maxRecDepth 65536 in
theorem w_c1 : (Jvm.Cond.code ({ cls := "java/lang/Math", name := "max", desc := "(JJ)J" } : Jvm.MethodName) jdk_29_method_66_code (4 : Nat) (Option.some Jvm.ClassFile.FieldType.long)).before args0 about1 = true := code_word (m := ⟨2, 1⟩) (meth := k2m1) (c := k2c1) (by decide +kernel) rfl rfl rfl (by decide +kernel)
set_option maxRecDepth 65536 in
theorem w_c2 : (Jvm.Cond.code ({ cls := "com/example/quorumvote/quorumvote/election/Vote", name := "<init>", desc := "(JJJ)V" } : Jvm.MethodName) prog_29_method_1_code (7 : Nat) (Option.none : Option Jvm.ClassFile.FieldType)).before args0 about1 = true := code_word (m := ⟨5, 0⟩) (meth := k5m0) (c := k5c0) (by decide +kernel) rfl rfl rfl (by decide +kernel)
set_option maxRecDepth 65536 in
theorem w_c3 : (Jvm.Cond.code ({ cls := "java/lang/Record", name := "<init>", desc := "()V" } : Jvm.MethodName) jdk_30_method_1_code (1 : Nat) (Option.none : Option Jvm.ClassFile.FieldType)).before args0 about1 = true := code_word (m := ⟨3, 0⟩) (meth := k3m0) (c := k3c0) (by decide +kernel) rfl rfl rfl (by decide +kernel)
set_option maxRecDepth 65536 in
theorem w_c4 : (Jvm.Cond.code ({ cls := "java/lang/Object", name := "<init>", desc := "()V" } : Jvm.MethodName) object_method_1_code (1 : Nat) (Option.none : Option Jvm.ClassFile.FieldType)).before args0 about1 = true := code_word (m := ⟨0, 0⟩) (meth := k0m0) (c := k0c0) (by decide +kernel) rfl rfl rfl (by decide +kernel)
set_option maxRecDepth 65536 in
theorem w_c5 : (Jvm.Cond.code ({ cls := "com/example/quorumvote/quorumvote/election/Epochs", name := "requireEpoch", desc := "(J)J" } : Jvm.MethodName) prog_7_method_12_code (2 : Nat) (Option.some Jvm.ClassFile.FieldType.long)).before args0 about1 = true := code_word (m := ⟨6, 1⟩) (meth := k6m1) (c := k6c1) (by decide +kernel) rfl rfl rfl (by decide +kernel)
set_option maxRecDepth 65536 in
theorem w_c6 : (Jvm.Cond.code ({ cls := "com/example/quorumvote/quorumvote/election/Epochs", name := "requireZxid", desc := "(J)J" } : Jvm.MethodName) prog_7_method_13_code (2 : Nat) (Option.some Jvm.ClassFile.FieldType.long)).before args0 about1 = true := code_word (m := ⟨6, 2⟩) (meth := k6m2) (c := k6c2) (by decide +kernel) rfl rfl rfl (by decide +kernel)
set_option maxRecDepth 65536 in
theorem w_c7 : (Jvm.Cond.code ({ cls := "com/example/quorumvote/quorumvote/election/Vote", name := "equals", desc := "(Ljava/lang/Object;)Z" } : Jvm.MethodName) prog_29_method_3_code (3 : Nat) (Option.some Jvm.ClassFile.FieldType.boolean)).before args0 about1 = true := code_word (m := ⟨5, 1⟩) (meth := k5m1) (c := k5c1) (by decide +kernel) rfl rfl rfl (by decide +kernel)
set_option maxRecDepth 65536 in
theorem w_c8 : (Jvm.Cond.code ({ cls := "java/lang/Long", name := "valueOf", desc := "(J)Ljava/lang/Long;" } : Jvm.MethodName) jdk_35_method_24_code (3 : Nat) (Option.some (Jvm.ClassFile.FieldType.object "java/lang/Long"))).before args0 about1 = true := code_word (m := ⟨11, 0⟩) (meth := k11m0) (c := k11c0) (by decide +kernel) rfl rfl rfl (by decide +kernel)
set_option maxRecDepth 65536 in
theorem w_c9 : (Jvm.Cond.code ({ cls := "java/lang/Long", name := "<init>", desc := "(J)V" } : Jvm.MethodName) jdk_35_method_26_code (3 : Nat) (Option.none : Option Jvm.ClassFile.FieldType)).before args0 about1 = true := code_word (m := ⟨11, 1⟩) (meth := k11m1) (c := k11c1) (by decide +kernel) rfl rfl rfl (by decide +kernel)
set_option maxRecDepth 65536 in
theorem w_c10 : (Jvm.Cond.code ({ cls := "java/lang/Number", name := "<init>", desc := "()V" } : Jvm.MethodName) jdk_18_method_1_code (1 : Nat) (Option.none : Option Jvm.ClassFile.FieldType)).before args0 about1 = true := code_word (m := ⟨8, 0⟩) (meth := k8m0) (c := k8c0) (by decide +kernel) rfl rfl rfl (by decide +kernel)
def codes1 : List Jvm.Cond := [Jvm.Cond.code x code maxLocals ret, Jvm.Cond.code ({ cls := "java/lang/Math", name := "max", desc := "(JJ)J" } : Jvm.MethodName) jdk_29_method_66_code (4 : Nat) (Option.some Jvm.ClassFile.FieldType.long), Jvm.Cond.code ({ cls := "com/example/quorumvote/quorumvote/election/Vote", name := "<init>", desc := "(JJJ)V" } : Jvm.MethodName) prog_29_method_1_code (7 : Nat) (Option.none : Option Jvm.ClassFile.FieldType), Jvm.Cond.code ({ cls := "java/lang/Record", name := "<init>", desc := "()V" } : Jvm.MethodName) jdk_30_method_1_code (1 : Nat) (Option.none : Option Jvm.ClassFile.FieldType), Jvm.Cond.code ({ cls := "java/lang/Object", name := "<init>", desc := "()V" } : Jvm.MethodName) object_method_1_code (1 : Nat) (Option.none : Option Jvm.ClassFile.FieldType), Jvm.Cond.code ({ cls := "com/example/quorumvote/quorumvote/election/Epochs", name := "requireEpoch", desc := "(J)J" } : Jvm.MethodName) prog_7_method_12_code (2 : Nat) (Option.some Jvm.ClassFile.FieldType.long), Jvm.Cond.code ({ cls := "com/example/quorumvote/quorumvote/election/Epochs", name := "requireZxid", desc := "(J)J" } : Jvm.MethodName) prog_7_method_13_code (2 : Nat) (Option.some Jvm.ClassFile.FieldType.long), Jvm.Cond.code ({ cls := "com/example/quorumvote/quorumvote/election/Vote", name := "equals", desc := "(Ljava/lang/Object;)Z" } : Jvm.MethodName) prog_29_method_3_code (3 : Nat) (Option.some Jvm.ClassFile.FieldType.boolean), Jvm.Cond.code ({ cls := "java/lang/Long", name := "valueOf", desc := "(J)Ljava/lang/Long;" } : Jvm.MethodName) jdk_35_method_24_code (3 : Nat) (Option.some (Jvm.ClassFile.FieldType.object "java/lang/Long")), Jvm.Cond.code ({ cls := "java/lang/Long", name := "<init>", desc := "(J)V" } : Jvm.MethodName) jdk_35_method_26_code (3 : Nat) (Option.none : Option Jvm.ClassFile.FieldType), Jvm.Cond.code ({ cls := "java/lang/Number", name := "<init>", desc := "()V" } : Jvm.MethodName) jdk_18_method_1_code (1 : Nat) (Option.none : Option Jvm.ClassFile.FieldType)]
set_option maxRecDepth 65536 in
theorem codes_eq : words1.filter isCode = codes1 := rfl
theorem w_codes : ∀ c ∈ words1.filter isCode, c.before args0 about1 = true := by
  rw [codes_eq]
  intro c hc
  simp only [codes1, List.mem_cons, List.not_mem_nil, or_false] at hc
  rcases hc with rfl | rfl | rfl | rfl | rfl | rfl | rfl | rfl | rfl | rfl | rfl
  · exact w_c0
  · exact w_c1
  · exact w_c2
  · exact w_c3
  · exact w_c4
  · exact w_c5
  · exact w_c6
  · exact w_c7
  · exact w_c8
  · exact w_c9
  · exact w_c10
set_option maxRecDepth 65536 in
theorem w_t1 : (words1.take 24).all (fun c => isCode c || c.before args0 about1) = true := by decide +kernel
set_option maxRecDepth 65536 in
theorem w_t2 : ((words1.drop 24).take 24).all (fun c => isCode c || c.before args0 about1) = true := by decide +kernel
set_option maxRecDepth 65536 in
theorem w_t3 : ((words1.drop 24).drop 24).all (fun c => isCode c || c.before args0 about1) = true := by decide +kernel
theorem w_tables : (allAtoms (Jvm.Cond.code x code maxLocals ret :: tables_1)).before args0 about1 = true := by
  rw [allAtoms_all]
  show words1.all (fun c => c.before args0 about1) = true
  refine all_split ?_ w_codes
  rw [← List.take_append_drop 24 words1, List.all_append, w_t1, ← List.take_append_drop 24 (words1.drop 24), List.all_append, w_t2, w_t3]
  rfl
set_option maxRecDepth 65536 in
theorem w_rest : rest_1_c.before args0 about1 = true := by decide +kernel
set_option maxRecDepth 65536 in
theorem w_case : (Jvm.Cond.and given_1 narrow_1).before args0 about1 = true := by decide +kernel
theorem w_applies : (headSpec (Jvm.Cond.code x code maxLocals ret :: tables_1) room_1).applies x e0.platform about1 = true :=
  (Spec.applies_iff w_frames).mpr ⟨w_running, w_runnable, w_alone, w_named, w_hears, w_ripe, w_room, w_tables⟩
theorem atStart : AtStart classFile x code maxLocals ret World_1 tables_1 room_1 Calls_1 rest_1 Pre_1 launch0 p0 e0 about1 theMethod args0 below0 :=
  ⟨lists_1, trivial, launch0.admits_env _ _ _, launch0.least_env, fairChoices_fair.cas, fairChoices_fair.clock, w_frames, w_args, w_heap, w_applies, trivial, w_rest, w_case⟩
end start1
theorem witness_1 : WitnessClaimed_1 := ⟨start1.p0, start1.e0, start1.about1, start1.theMethod, start1.args0, start1.below0, start1.atStart⟩
end Jvm.Pilot.@@N@@
