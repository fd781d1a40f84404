import JvmDerived
import JvmDerived.Pilot.@@N@@Statement
import JvmDerived.Pilot.@@N@@Code
set_option linter.unusedVariables false
set_option linter.unusedSimpArgs false
namespace Jvm.Pilot.@@N@@
open Jvm Jvm.ClassFile Sem Op Lib Jvm.Free Jvm.Stand Jvm.LawKit Jvm.RoadKit Bundle Jvm.Pilot.@@N@@.Jvm.D
section Own
variable {p : Program} {l : Launch} {e : Env} {R : Room} {s : State} {m : MethodId} {args : Array Value} {below : List Frame} {meth : Method} {c : Code} {T : State} {locs : List Loc} {cells slots : Nat} {Z : State} {h h' : Heap} {a b : Addr} {n k : Nat}
/-- a function with one place turned -/
def owUp {α : Type} (f : Nat → α) (k : Nat) (v : α) : Nat → α := fun i => if i = k then v else f i
theorem owUp_at {α : Type} {f : Nat → α} {k : Nat} {v : α} : owUp f k v k = v := if_pos rfl
theorem owUp_ne {α : Type} {f : Nat → α} {k i : Nat} {v : α} (q : i ≠ k) : owUp f k v i = f i := if_neg q
theorem owUpP {α : Type} {P : α → Prop} {f : Nat → α} {k : Nat} {v : α} (hf : ∀ i, P (f i)) (hv : P v) : ∀ i, P (owUp f k v i) := fun i => by
  by_cases q : i = k
  · rw [q, owUp_at]; exact hv
  · rw [owUp_ne q]; exact hf i
theorem owIdx {j : Int32} {k : Nat} (hj : j.toInt = (k : Int)) : j.toNatClampNeg = k := by
  have q : j.toNatClampNeg = j.toInt.toNat := rfl
  rw [q, hj]; rfl
theorem owIn {j : Int32} {k n sz : Nat} (hj : j.toInt = (k : Int)) (hk : k < n) (hs : sz = n) : ¬ (j < 0 ∨ sz ≤ j.toNatClampNeg) := by
  rw [owIdx hj, Int32.lt_iff_toInt_lt, hj, hs]
  have q : (0 : Int32).toInt = 0 := rfl
  omega
theorem owSlot {cl : Cell} {k i : Nat} {v : Value} (hk : k < cl.slots.size) : (cl.setSlot k v).slots[i]? = if i = k then some v else cl.slots[i]? := by
  by_cases q : i = k
  · subst q; rw [if_pos rfl]; simp [Cell.setSlot, hk]
  · rw [if_neg q]; exact Array.getElem?_setIfInBounds_ne (Ne.symm q)
/-- an array of ints (bytes, chars ..) whose components a function tells -/
def owAI (Z : State) (h : Heap) (a : Addr) (ty : FieldType) (n : Nat) (f : Nat → Int32) : Prop := ∃ c : Cell, Arr Z h a c ty ∧ c.slots.size = n ∧ ∀ i, i < n → c.slots[i]? = some (.int (f i))
/-- an array of longs -/
def owAJ (Z : State) (h : Heap) (a : Addr) (ty : FieldType) (n : Nat) (f : Nat → Int64) : Prop := ∃ c : Cell, Arr Z h a c ty ∧ c.slots.size = n ∧ ∀ i, i < n → c.slots[i]? = some (.long (f i))
theorem owAI.lt {ty : FieldType} {f : Nat → Int32} (F : owAI Z h a ty n f) : a < h.size := by obtain ⟨c, A, -⟩ := F; exact A.lt
theorem owAI.ext {ty : FieldType} {f : Nat → Int32} (F : owAI Z h a ty n f) (E : Ext h h') : owAI Z h' a ty n f := by obtain ⟨c, A, r⟩ := F; exact ⟨c, A.ext E, r⟩
theorem owAI.other {ty : FieldType} {f : Nat → Int32} {sl : Nat} {v : Value} (F : owAI Z h b ty n f) (W : Wr h h' a sl v) (q : b ≠ a) : owAI Z h' b ty n f := by obtain ⟨c, A, r⟩ := F; exact ⟨c, A.other W q, r⟩
theorem owAI.keep {ty : FieldType} {f : Nat → Int32} {ws : List Addr} (F : owAI Z h a ty n f) (K : Keep h h' ws) (q : a ∉ ws) : owAI Z h' a ty n f := by obtain ⟨c, A, r⟩ := F; exact ⟨c, ⟨K.2.1 a c A.1 q, A.2⟩, r⟩
theorem owAJ.lt {ty : FieldType} {f : Nat → Int64} (F : owAJ Z h a ty n f) : a < h.size := by obtain ⟨c, A, -⟩ := F; exact A.lt
theorem owAJ.ext {ty : FieldType} {f : Nat → Int64} (F : owAJ Z h a ty n f) (E : Ext h h') : owAJ Z h' a ty n f := by obtain ⟨c, A, r⟩ := F; exact ⟨c, A.ext E, r⟩
theorem owAJ.other {ty : FieldType} {f : Nat → Int64} {sl : Nat} {v : Value} (F : owAJ Z h b ty n f) (W : Wr h h' a sl v) (q : b ≠ a) : owAJ Z h' b ty n f := by obtain ⟨c, A, r⟩ := F; exact ⟨c, A.other W q, r⟩
theorem owAJ.keep {ty : FieldType} {f : Nat → Int64} {ws : List Addr} (F : owAJ Z h a ty n f) (K : Keep h h' ws) (q : a ∉ ws) : owAJ Z h' a ty n f := by obtain ⟨c, A, r⟩ := F; exact ⟨c, ⟨K.2.1 a c A.1 q, A.2⟩, r⟩
theorem owAI.new {ty : FieldType} {k : ClassId} {z : Int32} (A : Arr Z h a (newA k ty z) ty) (hz : z.toInt = (n : Int)) (hd : defaultValue ty = .int 0) : owAI Z h a ty n (fun _ => 0) :=
  ⟨_, A, by rw [sz_new]; exact owIdx hz, fun i hi => by rw [← hd]; simp [newA, owIdx hz, hi]⟩
theorem owAJ.new {ty : FieldType} {k : ClassId} {z : Int32} (A : Arr Z h a (newA k ty z) ty) (hz : z.toInt = (n : Int)) (hd : defaultValue ty = .long 0) : owAJ Z h a ty n (fun _ => 0) :=
  ⟨_, A, by rw [sz_new]; exact owIdx hz, fun i hi => by rw [← hd]; simp [newA, owIdx hz, hi]⟩
theorem owAI.to {ty : FieldType} {f g : Nat → Int32} (F : owAI Z h a ty n f) (q : ∀ i, i < n → f i = g i) : owAI Z h a ty n g := by
  obtain ⟨c, A, S, H⟩ := F; exact ⟨c, A, S, fun i hi => by rw [H i hi, q i hi]⟩
theorem owAJ.to {ty : FieldType} {f g : Nat → Int64} (F : owAJ Z h a ty n f) (q : ∀ i, i < n → f i = g i) : owAJ Z h a ty n g := by
  obtain ⟨c, A, S, H⟩ := F; exact ⟨c, A, S, fun i hi => by rw [H i hi, q i hi]⟩
theorem owLdB (X : Stand p l e R s m args below meth c T locs cells slots) (hx : p.tables.exec = Jvm.exec) (hZ : Z.Warmed39 s.vm) (eT : T.heap = h) {f : Nat → Int32} (A : owAI Z h a .byte n f) {j : Int32} (hj : j.toInt = (k : Int)) (hk : k < n) {g : JFrame} (hg : g.method = m) {rest : List Value} (hs : g.stack = .int j :: .ref a :: rest) (hd : decode c.code g.pc = .ok (.baload, 1)) (target : State) (kt : Steps p.tables e below (T.setTop { g with pc := g.pc + 1, stack := .int (f k) :: rest }) target) : Steps p.tables e below (T.setTop g) target := by
  obtain ⟨cl, Ar, S, H⟩ := A
  exact X.baloadBytes hx (by rw [eT]; exact Ar.1) (State.isArrayOf_alike hZ.alike Ar.2.1) Ar.2.2 (owIn hj hk S) (by rw [owIdx hj]; exact H k hk) hg hs hd target kt
theorem owLdC (X : Stand p l e R s m args below meth c T locs cells slots) (hx : p.tables.exec = Jvm.exec) (hZ : Z.Warmed39 s.vm) (eT : T.heap = h) {f : Nat → Int32} (A : owAI Z h a .char n f) {j : Int32} (hj : j.toInt = (k : Int)) (hk : k < n) {g : JFrame} (hg : g.method = m) {rest : List Value} (hs : g.stack = .int j :: .ref a :: rest) (hd : decode c.code g.pc = .ok (.caload, 1)) (target : State) (kt : Steps p.tables e below (T.setTop { g with pc := g.pc + 1, stack := .int (f k) :: rest }) target) : Steps p.tables e below (T.setTop g) target := by
  obtain ⟨cl, Ar, S, H⟩ := A
  exact X.caload hx (by rw [eT]; exact Ar.1) (State.isArrayOf_alike hZ.alike Ar.2.1) Ar.2.2 (owIn hj hk S) (by rw [owIdx hj]; exact H k hk) hg hs hd target kt
theorem owLdI (X : Stand p l e R s m args below meth c T locs cells slots) (hx : p.tables.exec = Jvm.exec) (hZ : Z.Warmed39 s.vm) (eT : T.heap = h) {f : Nat → Int32} (A : owAI Z h a .int n f) {j : Int32} (hj : j.toInt = (k : Int)) (hk : k < n) {g : JFrame} (hg : g.method = m) {rest : List Value} (hs : g.stack = .int j :: .ref a :: rest) (hd : decode c.code g.pc = .ok (.iaload, 1)) (target : State) (kt : Steps p.tables e below (T.setTop { g with pc := g.pc + 1, stack := .int (f k) :: rest }) target) : Steps p.tables e below (T.setTop g) target := by
  obtain ⟨cl, Ar, S, H⟩ := A
  exact X.iaload hx (by rw [eT]; exact Ar.1) (State.isArrayOf_alike hZ.alike Ar.2.1) Ar.2.2 (owIn hj hk S) (by rw [owIdx hj]; exact H k hk) hg hs hd target kt
theorem owLdJ (X : Stand p l e R s m args below meth c T locs cells slots) (hx : p.tables.exec = Jvm.exec) (hZ : Z.Warmed39 s.vm) (eT : T.heap = h) {f : Nat → Int64} (A : owAJ Z h a .long n f) {j : Int32} (hj : j.toInt = (k : Int)) (hk : k < n) {g : JFrame} (hg : g.method = m) {rest : List Value} (hs : g.stack = .int j :: .ref a :: rest) (hd : decode c.code g.pc = .ok (.laload, 1)) (target : State) (kt : Steps p.tables e below (T.setTop { g with pc := g.pc + 1, stack := .long (f k) :: rest }) target) : Steps p.tables e below (T.setTop g) target := by
  obtain ⟨cl, Ar, S, H⟩ := A
  exact X.laload hx (by rw [eT]; exact Ar.1) (State.isArrayOf_alike hZ.alike Ar.2.1) Ar.2.2 (owIn hj hk S) (by rw [owIdx hj]; exact H k hk) hg hs hd target kt
/-- an array of objects -/
def owAR (Z : State) (h : Heap) (a : Addr) (ty : FieldType) (n : Nat) (f : Nat → Addr) : Prop := ∃ c : Cell, Arr Z h a c ty ∧ c.slots.size = n ∧ ∀ i, i < n → c.slots[i]? = some (.ref (f i))
theorem owAR.lt {ty : FieldType} {f : Nat → Addr} (F : owAR Z h a ty n f) : a < h.size := by obtain ⟨c, A, -⟩ := F; exact A.lt
theorem owAR.ext {ty : FieldType} {f : Nat → Addr} (F : owAR Z h a ty n f) (E : Ext h h') : owAR Z h' a ty n f := by obtain ⟨c, A, r⟩ := F; exact ⟨c, A.ext E, r⟩
theorem owLdR (X : Stand p l e R s m args below meth c T locs cells slots) (hx : p.tables.exec = Jvm.exec) (hZ : Z.Warmed39 s.vm) (eT : T.heap = h) {ty : FieldType} {f : Nat → Addr} (A : owAR Z h a ty n f) (hty : ty.isReference = true) {j : Int32} (hj : j.toInt = (k : Int)) (hk : k < n) {g : JFrame} (hg : g.method = m) {rest : List Value} (hs : g.stack = .int j :: .ref a :: rest) (hd : decode c.code g.pc = .ok (.aaload, 1)) (target : State) (kt : Steps p.tables e below (T.setTop { g with pc := g.pc + 1, stack := .ref (f k) :: rest }) target) : Steps p.tables e below (T.setTop g) target := by
  obtain ⟨cl, Ar, S, H⟩ := A
  exact X.aaload hx (by rw [eT]; exact Ar.1) (State.isArrayOf_alike hZ.alike Ar.2.1) hty Ar.2.2 (owIn hj hk S) (by rw [owIdx hj]; exact H k hk) hg hs hd target kt
theorem owLenI (X : Stand p l e R s m args below meth c T locs cells slots) (hx : p.tables.exec = Jvm.exec) (hZ : Z.Warmed39 s.vm) (eT : T.heap = h) {ty : FieldType} {f : Nat → Int32} (A : owAI Z h a ty n f) {z : Int32} (hz : n.toInt32 = z) {g : JFrame} (hg : g.method = m) {rest : List Value} (hs : g.stack = .ref a :: rest) (hd : decode c.code g.pc = .ok (.arraylength, 1)) (target : State) (kt : Steps p.tables e below (T.setTop { g with pc := g.pc + 1, stack := .int z :: rest }) target) : Steps p.tables e below (T.setTop g) target := by
  obtain ⟨cl, Ar, S, H⟩ := A
  exact X.arraylength hx (by rw [eT]; exact Ar.1) (State.isArrayOf_alike hZ.alike Ar.2.1) hg hs hd target (by rw [S, hz]; exact kt)
theorem owLenJ (X : Stand p l e R s m args below meth c T locs cells slots) (hx : p.tables.exec = Jvm.exec) (hZ : Z.Warmed39 s.vm) (eT : T.heap = h) {ty : FieldType} {f : Nat → Int64} (A : owAJ Z h a ty n f) {z : Int32} (hz : n.toInt32 = z) {g : JFrame} (hg : g.method = m) {rest : List Value} (hs : g.stack = .ref a :: rest) (hd : decode c.code g.pc = .ok (.arraylength, 1)) (target : State) (kt : Steps p.tables e below (T.setTop { g with pc := g.pc + 1, stack := .int z :: rest }) target) : Steps p.tables e below (T.setTop g) target := by
  obtain ⟨cl, Ar, S, H⟩ := A
  exact X.arraylength hx (by rw [eT]; exact Ar.1) (State.isArrayOf_alike hZ.alike Ar.2.1) hg hs hd target (by rw [S, hz]; exact kt)
theorem owSetI {ty : FieldType} {f : Nat → Int32} {cl : Cell} {x : Int32} (Ar : Arr Z h a cl ty) (S : cl.slots.size = n) (H : ∀ i, i < n → cl.slots[i]? = some (.int (f i))) (hk : k < n) (W : Wr h h' a k (.int x)) : owAI Z h' a ty n (owUp f k x) :=
  ⟨cl.setSlot k (.int x), Ar.same W, by rw [sz_set]; exact S, fun i hi => by
    rw [owSlot (by omega)]
    by_cases q : i = k
    · rw [if_pos q, q, owUp_at]
    · rw [if_neg q, owUp_ne q]; exact H i hi⟩
theorem owSetJ {ty : FieldType} {f : Nat → Int64} {cl : Cell} {x : Int64} (Ar : Arr Z h a cl ty) (S : cl.slots.size = n) (H : ∀ i, i < n → cl.slots[i]? = some (.long (f i))) (hk : k < n) (W : Wr h h' a k (.long x)) : owAJ Z h' a ty n (owUp f k x) :=
  ⟨cl.setSlot k (.long x), Ar.same W, by rw [sz_set]; exact S, fun i hi => by
    rw [owSlot (by omega)]
    by_cases q : i = k
    · rw [if_pos q, q, owUp_at]
    · rw [if_neg q, owUp_ne q]; exact H i hi⟩
theorem owStB (X : Stand p l e R s m args below meth c T locs cells slots) (hx : p.tables.exec = Jvm.exec) (hZ : Z.Warmed39 s.vm) (eT : T.heap = h) {f : Nat → Int32} (A : owAI Z h a .byte n f) {j x : Int32} (hj : j.toInt = (k : Int)) (hk : k < n) {g : JFrame} (hg : g.method = m) {rest : List Value} (hs : g.stack = .int x :: .int j :: .ref a :: rest) (hd : decode c.code g.pc = .ok (.bastore, 1)) :
    ∃ T' h', Stand p l e R s m args below meth c T' (locs ++ [⟨a, k⟩]) cells slots ∧ T'.heap = h' ∧ Wr h h' a k (.int x.toInt8.toInt32) ∧ owAI Z h' a .byte n (owUp f k x.toInt8.toInt32) ∧ ∀ target, Steps p.tables e below (T'.setTop { g with pc := g.pc + 1, stack := rest }) target → Steps p.tables e below (T.setTop g) target := by
  obtain ⟨cl, Ar, S, H⟩ := A
  have st := stB X hx hZ eT Ar (j := j) (owIn hj hk S) hg hs hd
  rw [owIdx hj] at st
  obtain ⟨T', h', X', e', W, st⟩ := st
  exact ⟨T', h', X', e', W, owSetI Ar S H hk W, st⟩
theorem owStC (X : Stand p l e R s m args below meth c T locs cells slots) (hx : p.tables.exec = Jvm.exec) (hZ : Z.Warmed39 s.vm) (eT : T.heap = h) {f : Nat → Int32} (A : owAI Z h a .char n f) {j x : Int32} (hj : j.toInt = (k : Int)) (hk : k < n) {g : JFrame} (hg : g.method = m) {rest : List Value} (hs : g.stack = .int x :: .int j :: .ref a :: rest) (hd : decode c.code g.pc = .ok (.castore, 1)) :
    ∃ T' h', Stand p l e R s m args below meth c T' (locs ++ [⟨a, k⟩]) cells slots ∧ T'.heap = h' ∧ Wr h h' a k (.int x.toUInt32.toUInt16.toUInt32.toInt32) ∧ owAI Z h' a .char n (owUp f k x.toUInt32.toUInt16.toUInt32.toInt32) ∧ ∀ target, Steps p.tables e below (T'.setTop { g with pc := g.pc + 1, stack := rest }) target → Steps p.tables e below (T.setTop g) target := by
  obtain ⟨cl, Ar, S, H⟩ := A
  have st := stC X hx hZ eT Ar (j := j) (owIn hj hk S) hg hs hd
  rw [owIdx hj] at st
  obtain ⟨T', h', X', e', W, st⟩ := st
  exact ⟨T', h', X', e', W, owSetI Ar S H hk W, st⟩
theorem owStI (X : Stand p l e R s m args below meth c T locs cells slots) (hx : p.tables.exec = Jvm.exec) (hZ : Z.Warmed39 s.vm) (eT : T.heap = h) {f : Nat → Int32} (A : owAI Z h a .int n f) {j x : Int32} (hj : j.toInt = (k : Int)) (hk : k < n) {g : JFrame} (hg : g.method = m) {rest : List Value} (hs : g.stack = .int x :: .int j :: .ref a :: rest) (hd : decode c.code g.pc = .ok (.iastore, 1)) :
    ∃ T' h', Stand p l e R s m args below meth c T' (locs ++ [⟨a, k⟩]) cells slots ∧ T'.heap = h' ∧ Wr h h' a k (.int x) ∧ owAI Z h' a .int n (owUp f k x) ∧ ∀ target, Steps p.tables e below (T'.setTop { g with pc := g.pc + 1, stack := rest }) target → Steps p.tables e below (T.setTop g) target := by
  obtain ⟨cl, Ar, S, H⟩ := A
  have st := stI X hx hZ eT Ar (j := j) (owIn hj hk S) hg hs hd
  rw [owIdx hj] at st
  obtain ⟨T', h', X', e', W, st⟩ := st
  exact ⟨T', h', X', e', W, owSetI Ar S H hk W, st⟩
theorem owStJ (X : Stand p l e R s m args below meth c T locs cells slots) (hx : p.tables.exec = Jvm.exec) (hZ : Z.Warmed39 s.vm) (eT : T.heap = h) {f : Nat → Int64} (A : owAJ Z h a .long n f) {j : Int32} {x : Int64} (hj : j.toInt = (k : Int)) (hk : k < n) {g : JFrame} (hg : g.method = m) {rest : List Value} (hs : g.stack = .long x :: .int j :: .ref a :: rest) (hd : decode c.code g.pc = .ok (.lastore, 1)) :
    ∃ T' h', Stand p l e R s m args below meth c T' (locs ++ [⟨a, k⟩]) cells slots ∧ T'.heap = h' ∧ Wr h h' a k (.long x) ∧ owAJ Z h' a .long n (owUp f k x) ∧ ∀ target, Steps p.tables e below (T'.setTop { g with pc := g.pc + 1, stack := rest }) target → Steps p.tables e below (T.setTop g) target := by
  obtain ⟨cl, Ar, S, H⟩ := A
  have st := stJ X hx hZ eT Ar (j := j) (owIn hj hk S) hg hs hd
  rw [owIdx hj] at st
  obtain ⟨T', h', X', e', W, st⟩ := st
  exact ⟨T', h', X', e', W, owSetJ Ar S H hk W, st⟩
theorem owSel {s : State} {args : Array Value} {y : MethodName} {n : Nat} (hi : (Cond.instantiable y.cls n).before args s = true) (hpriv : s.PrivateAt y) (hinst : (Cond.instanceMethod y).before args s = true) (hy : y.cls ≠ "java/lang/invoke/MethodHandle" ∧ y.cls ≠ "java/lang/invoke/VarHandle") : (Cond.selects y.cls y y).before args s = true := by
  obtain ⟨c, k, h1, h2, -, h4, -⟩ := Cond.instantiable_spec hi
  have h5 : k.isInterface = false := by cases hq : k.isInterface <;> simp_all
  exact selects_self_of_private h1 h2 h5 hpriv hinst hy
theorem owRetI (X : Stand p l e R s m args below meth c T locs cells slots) (hx : p.tables.exec = Jvm.exec) {pc : Nat} {Ls : Array Slot} {z : Int32} (hret : meth.sig.returnType = some .int) (hd : decode c.code pc = .ok (.ireturn, 1)) {fs : List Frame}
    (hl : ∀ (f : JFrame) (acts : List Action), f.method = m → f.locked = none → f.entered = [] → (doReturn e (T.setTop f) acts (some (.int z))).1 = T.setFrames fs) : Steps p.tables e below (T.setTop (mkF m pc Ls [.int z])) (T.setFrames fs) :=
  X.ireturnOut hx hret rfl (Or.inl rfl) hd hl
end Own

theorem d1_0 : decode prog_30_method_1_code 0 = .ok (.aload_n 0, 1) := by decide +kernel
theorem d1_1 : decode prog_30_method_1_code 1 = .ok (.invokespecial 1, 3) := by decide +kernel
theorem d1_4 : decode prog_30_method_1_code 4 = .ok (.aload_n 0, 1) := by decide +kernel
theorem d1_5 : decode prog_30_method_1_code 5 = .ok (.iconst 1, 1) := by decide +kernel
theorem d1_6 : decode prog_30_method_1_code 6 = .ok (.putfield 7, 3) := by decide +kernel
theorem d1_9 : decode prog_30_method_1_code 9 = .ok (.aload_n 0, 1) := by decide +kernel
theorem d1_10 : decode prog_30_method_1_code 10 = .ok (.aload_n 1, 1) := by decide +kernel
theorem d1_11 : decode prog_30_method_1_code 11 = .ok (.putfield 13, 3) := by decide +kernel
theorem d1_14 : decode prog_30_method_1_code 14 = .ok (.aload_n 0, 1) := by decide +kernel
theorem d1_15 : decode prog_30_method_1_code 15 = .ok (.iload_n 2, 1) := by decide +kernel
theorem d1_16 : decode prog_30_method_1_code 16 = .ok (.putfield 17, 3) := by decide +kernel
theorem d1_19 : decode prog_30_method_1_code 19 = .ok (.aload_n 0, 1) := by decide +kernel
theorem d1_20 : decode prog_30_method_1_code 20 = .ok (.iload_n 3, 1) := by decide +kernel
theorem d1_21 : decode prog_30_method_1_code 21 = .ok (.putfield 21, 3) := by decide +kernel
theorem d1_24 : decode prog_30_method_1_code 24 = .ok (.aload_n 0, 1) := by decide +kernel
theorem d1_25 : decode prog_30_method_1_code 25 = .ok (.iload_n 2, 1) := by decide +kernel
theorem d1_26 : decode prog_30_method_1_code 26 = .ok (.putfield 24, 3) := by decide +kernel
theorem d1_29 : decode prog_30_method_1_code 29 = .ok (.return_, 1) := by decide +kernel
theorem pn_1 : plainName "com/example/fama/fama/table/JsonLine" = true := by first | (simp [plainName, overriddenIn]; done) | decide +kernel
theorem ef_1 (m : MethodId) (x0 : Addr) (x1 : Addr) (x2 : Int32) (x3 : Int32) : entryFrame m #[(.ref x0), (.ref x1), (.int x2), (.int x3)] 4 = mkF m 0 #[.val (.ref x0), .val (.ref x1), .val (.int x2), .val (.int x3)] [] := by first | (simp [entryFrame, mkF, argsToLocals, Value.category]; done) | rfl
def Q1 (Z : State) (a1 : Addr) (a2 : Addr) (p3 : Int32) (p4 : Int32) (h0 : Heap) (n0 : Nat) (v : Option Value) (h : Heap) (L : List Loc) : Prop := v = none ∧ Fr n0 L ∧ Keep h0 h [a1] ∧ Exa Z h a1 "com/example/fama/fama/table/JsonLine" ∧ Fld Z h a1 "com/example/fama/fama/table/JsonLine" "first" "Z" (.int (1 : Int32)) ∧ Fld Z h a1 "com/example/fama/fama/table/JsonLine" "bytes" "[B" (.ref a2) ∧ Fld Z h a1 "com/example/fama/fama/table/JsonLine" "start" "I" (.int p3) ∧ Fld Z h a1 "com/example/fama/fama/table/JsonLine" "end" "I" (.int p4) ∧ Fld Z h a1 "com/example/fama/fama/table/JsonLine" "at" "I" (.int p3)
set_option maxRecDepth 65536 in
set_option maxHeartbeats 40000000 in
theorem rm1 (l : Launch) (Z : State) (a0 : Array Value) (hw : ∀ d ∈ tables_1, d.before a0 Z = true) (ws : List Jvm.Cond) (a1 : Addr) (a2 : Addr) (p3 : Int32) (p4 : Int32) (h0 : Heap) (n0 : Nat) (Z0 : n0 ≤ h0.size) (E_a1 : Exa Z h0 a1 "com/example/fama/fama/table/JsonLine") (F_first : Fld Z h0 a1 "com/example/fama/fama/table/JsonLine" "first" "Z" (.int (0 : Int32))) (F_bytes : Fld Z h0 a1 "com/example/fama/fama/table/JsonLine" "bytes" "[B" .null) (F_start : Fld Z h0 a1 "com/example/fama/fama/table/JsonLine" "start" "I" (.int (0 : Int32))) (F_end : Fld Z h0 a1 "com/example/fama/fama/table/JsonLine" "end" "I" (.int (0 : Int32))) (F_at : Fld Z h0 a1 "com/example/fama/fama/table/JsonLine" "at" "I" (.int (0 : Int32))) (g_a1 : n0 ≤ a1) :
    MetFree l (⟨"com/example/fama/fama/table/JsonLine", "<init>", "([BII)V"⟩ : MethodName) (head1 (Jvm.Cond.code (⟨"com/example/fama/fama/table/JsonLine", "<init>", "([BII)V"⟩ : MethodName) prog_30_method_1_code 4 none :: ws) ({ frames := 1, cells := 0, slots := 0, locals := 12 } : Room)) (fun a U => a = #[(.ref a1), (.ref a2), (.int p3), (.int p4)] ∧ Z.Warmed39 U.vm ∧ U.heap = h0) (fun _ _ _ _ _ => True) (fun _ U o U' => ∃ v L, o = .returned v ∧ Q1 Z a1 a2 p3 p4 h0 n0 v U'.heap L ∧ FrameEnd U o U' L ({ frames := 1, cells := 0, slots := 0, locals := 12 } : Room).cells ({ frames := 1, cells := 0, slots := 0, locals := 12 } : Room).slots) := by
  refine MetFree.of_bodySF (plainFor_of_name pn_1) hisR ?_
  intro p e s m args below meth c s₁ Bd hml0 hP hK
  obtain ⟨rfl, hZ, hh⟩ := hP
  have hx := Bd.exec
  have hby := Bd.bytes
  have hml : c.maxLocals = 4 := hml0
  have hown : s.vm.findClass "com/example/fama/fama/table/JsonLine" = some m.cls := findClass_of_methodNamed Bd.named
  have hnm := (name_of_methodNamed Bd.named Bd.method).1
  have X0 : Stand p l e ({ frames := 1, cells := 0, slots := 0, locals := 12 } : Room) s m #[(.ref a1), (.ref a2), (.int p3), (.int p4)] below meth c s₁ [] 0 0 := Stand.of_body Bd
  have e0 : s₁.heap = h0 := by rw [← hh, Bd.state]; rfl
  have N0 := Fr.nil n0
  have pre0 : ∀ t, Steps p.tables e below (s₁.setTop (mkF m 0 #[.val (.ref a1), .val (.ref a2), .val (.int p3), .val (.int p4)] [])) t → Steps p.tables e below (s₁.setTop (entryFrame m #[(.ref a1), (.ref a2), (.int p3), (.int p4)] 4)) t := fun t k => castTop (ef_1 m a1 a2 p3 p4) k
  obtain ⟨T1, X1, hE1, st1⟩ := initO X0 hx hZ hown (hw _ (List.mem_of_getElem? (i := 7) rfl)) (hw _ (List.mem_of_getElem? (i := 8) rfl)) (hw _ (List.mem_of_getElem? (i := 9) rfl)) e0 (g := (mkF m 1 #[.val (.ref a1), .val (.ref a2), .val (.int p3), .val (.int p4)] [(.ref a1)])) rfl (by rw [hml]; rfl) rfl (hb hby d1_1) (by decide) (W := 0) (by show 2 * 0 + _ ≤ _; exact Nat.le_of_eq rfl) (by decide)
  obtain ⟨T2, gh2, X2, hE2, W2, st2⟩ := putFN X1 hx hZ hown (hw _ (List.mem_of_getElem? (i := 10) rfl)) Via.refl hE1 F_first E_a1 (Or.inl (hw _ (List.mem_of_getElem? (i := 11) rfl))) (hw _ (List.mem_of_getElem? (i := 2) rfl)) (ty := .boolean) (v' := (.int (1 : Int32))) (by decide) rfl rfl (g := (mkF m 6 #[.val (.ref a1), .val (.ref a2), .val (.int p3), .val (.int p4)] [(.int (1 : Int32)), (.ref a1)])) rfl rfl (hb hby d1_6)
  have Fw2 := F_first.same W2
  have f3 := E_a1.wr W2
  have f5 := F_bytes.other W2 (Or.inr (slot_ne (Or.inr (hw _ (List.mem_of_getElem? (i := 13) rfl))) (Or.inl (hw _ (List.mem_of_getElem? (i := 11) rfl))) (by decide) (t := (.array .byte)) (t' := .boolean) (by decide) (by decide)))
  have f6 := F_start.other W2 (Or.inr (slot_ne (Or.inr (hw _ (List.mem_of_getElem? (i := 15) rfl))) (Or.inl (hw _ (List.mem_of_getElem? (i := 11) rfl))) (by decide) (t := .int) (t' := .boolean) (by decide) (by decide)))
  have f7 := F_end.other W2 (Or.inr (slot_ne (Or.inr (hw _ (List.mem_of_getElem? (i := 17) rfl))) (Or.inl (hw _ (List.mem_of_getElem? (i := 11) rfl))) (by decide) (t := .int) (t' := .boolean) (by decide) (by decide)))
  have f8 := F_at.other W2 (Or.inr (slot_ne (Or.inl (hw _ (List.mem_of_getElem? (i := 19) rfl))) (Or.inl (hw _ (List.mem_of_getElem? (i := 11) rfl))) (by decide) (t := .int) (t' := .boolean) (by decide) (by decide)))
  have Z9 := Nat.le_trans Z0 (Keep.of_wr W2).1
  have N10 := Fr.snoc X2 N0 g_a1
  have K11 := (Keep.refl h0 [a1]).wr W2 (Or.inl (List.mem_of_getElem? (i := 0) rfl))
  obtain ⟨T12, gh12, X12, hE12, W12, st12⟩ := putF X2 hx hZ hown (host := "") (Or.inl (hw _ (List.mem_of_getElem? (i := 12) rfl))) Via.refl hE2 f5 f3 (Or.inr ⟨(hw _ (List.mem_of_getElem? (i := 13) rfl)), rfl, hnm⟩) (hw _ (List.mem_of_getElem? (i := 2) rfl)) (ty := (.array .byte)) (by decide) rfl rfl (g := (mkF m 11 #[.val (.ref a1), .val (.ref a2), .val (.int p3), .val (.int p4)] [(.ref a2), (.ref a1)])) rfl rfl (hb hby d1_11)
  have Fw12 := f5.same W12
  have f13 := f3.wr W12
  have f14 := Fw2.other W12 (Or.inr (slot_ne (Or.inl (hw _ (List.mem_of_getElem? (i := 11) rfl))) (Or.inr (hw _ (List.mem_of_getElem? (i := 13) rfl))) (by decide) (t := .boolean) (t' := (.array .byte)) (by decide) (by decide)))
  have f16 := f6.other W12 (Or.inr (slot_ne (Or.inr (hw _ (List.mem_of_getElem? (i := 15) rfl))) (Or.inr (hw _ (List.mem_of_getElem? (i := 13) rfl))) (by decide) (t := .int) (t' := (.array .byte)) (by decide) (by decide)))
  have f17 := f7.other W12 (Or.inr (slot_ne (Or.inr (hw _ (List.mem_of_getElem? (i := 17) rfl))) (Or.inr (hw _ (List.mem_of_getElem? (i := 13) rfl))) (by decide) (t := .int) (t' := (.array .byte)) (by decide) (by decide)))
  have f18 := f8.other W12 (Or.inr (slot_ne (Or.inl (hw _ (List.mem_of_getElem? (i := 19) rfl))) (Or.inr (hw _ (List.mem_of_getElem? (i := 13) rfl))) (by decide) (t := .int) (t' := (.array .byte)) (by decide) (by decide)))
  have Z19 := Nat.le_trans Z9 (Keep.of_wr W12).1
  have N20 := Fr.snoc X12 N10 g_a1
  have K21 := K11.wr W12 (Or.inl (List.mem_of_getElem? (i := 0) rfl))
  obtain ⟨T22, gh22, X22, hE22, W22, st22⟩ := putF X12 hx hZ hown (host := "") (Or.inl (hw _ (List.mem_of_getElem? (i := 14) rfl))) Via.refl hE12 f16 f13 (Or.inr ⟨(hw _ (List.mem_of_getElem? (i := 15) rfl)), rfl, hnm⟩) (hw _ (List.mem_of_getElem? (i := 2) rfl)) (ty := .int) (by decide) rfl rfl (g := (mkF m 16 #[.val (.ref a1), .val (.ref a2), .val (.int p3), .val (.int p4)] [(.int p3), (.ref a1)])) rfl rfl (hb hby d1_16)
  have Fw22 := f16.same W22
  have f23 := f13.wr W22
  have f24 := f14.other W22 (Or.inr (slot_ne (Or.inl (hw _ (List.mem_of_getElem? (i := 11) rfl))) (Or.inr (hw _ (List.mem_of_getElem? (i := 15) rfl))) (by decide) (t := .boolean) (t' := .int) (by decide) (by decide)))
  have f25 := Fw12.other W22 (Or.inr (slot_ne (Or.inr (hw _ (List.mem_of_getElem? (i := 13) rfl))) (Or.inr (hw _ (List.mem_of_getElem? (i := 15) rfl))) (by decide) (t := (.array .byte)) (t' := .int) (by decide) (by decide)))
  have f27 := f17.other W22 (Or.inr (slot_ne (Or.inr (hw _ (List.mem_of_getElem? (i := 17) rfl))) (Or.inr (hw _ (List.mem_of_getElem? (i := 15) rfl))) (by decide) (t := .int) (t' := .int) (by decide) (by decide)))
  have f28 := f18.other W22 (Or.inr (slot_ne (Or.inl (hw _ (List.mem_of_getElem? (i := 19) rfl))) (Or.inr (hw _ (List.mem_of_getElem? (i := 15) rfl))) (by decide) (t := .int) (t' := .int) (by decide) (by decide)))
  have Z29 := Nat.le_trans Z19 (Keep.of_wr W22).1
  have N30 := Fr.snoc X22 N20 g_a1
  have K31 := K21.wr W22 (Or.inl (List.mem_of_getElem? (i := 0) rfl))
  obtain ⟨T32, gh32, X32, hE32, W32, st32⟩ := putF X22 hx hZ hown (host := "") (Or.inl (hw _ (List.mem_of_getElem? (i := 16) rfl))) Via.refl hE22 f27 f23 (Or.inr ⟨(hw _ (List.mem_of_getElem? (i := 17) rfl)), rfl, hnm⟩) (hw _ (List.mem_of_getElem? (i := 2) rfl)) (ty := .int) (by decide) rfl rfl (g := (mkF m 21 #[.val (.ref a1), .val (.ref a2), .val (.int p3), .val (.int p4)] [(.int p4), (.ref a1)])) rfl rfl (hb hby d1_21)
  have Fw32 := f27.same W32
  have f33 := f23.wr W32
  have f34 := f24.other W32 (Or.inr (slot_ne (Or.inl (hw _ (List.mem_of_getElem? (i := 11) rfl))) (Or.inr (hw _ (List.mem_of_getElem? (i := 17) rfl))) (by decide) (t := .boolean) (t' := .int) (by decide) (by decide)))
  have f35 := f25.other W32 (Or.inr (slot_ne (Or.inr (hw _ (List.mem_of_getElem? (i := 13) rfl))) (Or.inr (hw _ (List.mem_of_getElem? (i := 17) rfl))) (by decide) (t := (.array .byte)) (t' := .int) (by decide) (by decide)))
  have f36 := Fw22.other W32 (Or.inr (slot_ne (Or.inr (hw _ (List.mem_of_getElem? (i := 15) rfl))) (Or.inr (hw _ (List.mem_of_getElem? (i := 17) rfl))) (by decide) (t := .int) (t' := .int) (by decide) (by decide)))
  have f38 := f28.other W32 (Or.inr (slot_ne (Or.inl (hw _ (List.mem_of_getElem? (i := 19) rfl))) (Or.inr (hw _ (List.mem_of_getElem? (i := 17) rfl))) (by decide) (t := .int) (t' := .int) (by decide) (by decide)))
  have Z39 := Nat.le_trans Z29 (Keep.of_wr W32).1
  have N40 := Fr.snoc X32 N30 g_a1
  have K41 := K31.wr W32 (Or.inl (List.mem_of_getElem? (i := 0) rfl))
  obtain ⟨T42, gh42, X42, hE42, W42, st42⟩ := putF X32 hx hZ hown (host := "") (Or.inl (hw _ (List.mem_of_getElem? (i := 18) rfl))) Via.refl hE32 f38 f33 (Or.inl (hw _ (List.mem_of_getElem? (i := 19) rfl))) (hw _ (List.mem_of_getElem? (i := 2) rfl)) (ty := .int) (by decide) rfl rfl (g := (mkF m 26 #[.val (.ref a1), .val (.ref a2), .val (.int p3), .val (.int p4)] [(.int p3), (.ref a1)])) rfl rfl (hb hby d1_26)
  have Fw42 := f38.same W42
  have f43 := f33.wr W42
  have f44 := f34.other W42 (Or.inr (slot_ne (Or.inl (hw _ (List.mem_of_getElem? (i := 11) rfl))) (Or.inl (hw _ (List.mem_of_getElem? (i := 19) rfl))) (by decide) (t := .boolean) (t' := .int) (by decide) (by decide)))
  have f45 := f35.other W42 (Or.inr (slot_ne (Or.inr (hw _ (List.mem_of_getElem? (i := 13) rfl))) (Or.inl (hw _ (List.mem_of_getElem? (i := 19) rfl))) (by decide) (t := (.array .byte)) (t' := .int) (by decide) (by decide)))
  have f46 := f36.other W42 (Or.inr (slot_ne (Or.inr (hw _ (List.mem_of_getElem? (i := 15) rfl))) (Or.inl (hw _ (List.mem_of_getElem? (i := 19) rfl))) (by decide) (t := .int) (t' := .int) (by decide) (by decide)))
  have f47 := Fw32.other W42 (Or.inr (slot_ne (Or.inr (hw _ (List.mem_of_getElem? (i := 17) rfl))) (Or.inl (hw _ (List.mem_of_getElem? (i := 19) rfl))) (by decide) (t := .int) (t' := .int) (by decide) (by decide)))
  have Z49 := Nat.le_trans Z39 (Keep.of_wr W42).1
  have N50 := Fr.snoc X42 N40 g_a1
  have K51 := K41.wr W42 (Or.inl (List.mem_of_getElem? (i := 0) rfl))
  have pre52 : ∀ t, Steps p.tables e below (T42.setTop (mkF m 29 #[.val (.ref a1), .val (.ref a2), .val (.int p3), .val (.int p4)] [])) t → Steps p.tables e below (s₁.setTop (entryFrame m #[(.ref a1), (.ref a2), (.int p3), (.int p4)] 4)) t := by
    intro t kt
    refine pre0 _ ?_
    show Steps p.tables e below (s₁.setTop (mkF m 0 #[.val (.ref a1), .val (.ref a2), .val (.int p3), .val (.int p4)] [])) _
    refine XS.aloadN X0.here hx rfl (hb hby d1_0) rfl rfl ?_
    show Steps p.tables e below (s₁.setTop (mkF m 1 #[.val (.ref a1), .val (.ref a2), .val (.int p3), .val (.int p4)] [(.ref a1)])) _
    refine st1 _ ?_
    show Steps p.tables e below (T1.setTop (mkF m 4 #[.val (.ref a1), .val (.ref a2), .val (.int p3), .val (.int p4)] [])) _
    refine XS.aloadN X1.here hx rfl (hb hby d1_4) rfl rfl ?_
    show Steps p.tables e below (T1.setTop (mkF m 5 #[.val (.ref a1), .val (.ref a2), .val (.int p3), .val (.int p4)] [(.ref a1)])) _
    refine XS.iconst X1.here hx rfl (hb hby d1_5) ?_
    show Steps p.tables e below (T1.setTop (mkF m 6 #[.val (.ref a1), .val (.ref a2), .val (.int p3), .val (.int p4)] [(.int (1 : Int32)), (.ref a1)])) _
    refine st2 _ ?_
    show Steps p.tables e below (T2.setTop (mkF m 9 #[.val (.ref a1), .val (.ref a2), .val (.int p3), .val (.int p4)] [])) _
    refine XS.aloadN X2.here hx rfl (hb hby d1_9) rfl rfl ?_
    show Steps p.tables e below (T2.setTop (mkF m 10 #[.val (.ref a1), .val (.ref a2), .val (.int p3), .val (.int p4)] [(.ref a1)])) _
    refine XS.aloadN X2.here hx rfl (hb hby d1_10) rfl rfl ?_
    show Steps p.tables e below (T2.setTop (mkF m 11 #[.val (.ref a1), .val (.ref a2), .val (.int p3), .val (.int p4)] [(.ref a2), (.ref a1)])) _
    refine st12 _ ?_
    show Steps p.tables e below (T12.setTop (mkF m 14 #[.val (.ref a1), .val (.ref a2), .val (.int p3), .val (.int p4)] [])) _
    refine XS.aloadN X12.here hx rfl (hb hby d1_14) rfl rfl ?_
    show Steps p.tables e below (T12.setTop (mkF m 15 #[.val (.ref a1), .val (.ref a2), .val (.int p3), .val (.int p4)] [(.ref a1)])) _
    refine XS.iloadN X12.here hx rfl (hb hby d1_15) rfl ?_
    show Steps p.tables e below (T12.setTop (mkF m 16 #[.val (.ref a1), .val (.ref a2), .val (.int p3), .val (.int p4)] [(.int p3), (.ref a1)])) _
    refine st22 _ ?_
    show Steps p.tables e below (T22.setTop (mkF m 19 #[.val (.ref a1), .val (.ref a2), .val (.int p3), .val (.int p4)] [])) _
    refine XS.aloadN X22.here hx rfl (hb hby d1_19) rfl rfl ?_
    show Steps p.tables e below (T22.setTop (mkF m 20 #[.val (.ref a1), .val (.ref a2), .val (.int p3), .val (.int p4)] [(.ref a1)])) _
    refine XS.iloadN X22.here hx rfl (hb hby d1_20) rfl ?_
    show Steps p.tables e below (T22.setTop (mkF m 21 #[.val (.ref a1), .val (.ref a2), .val (.int p3), .val (.int p4)] [(.int p4), (.ref a1)])) _
    refine st32 _ ?_
    show Steps p.tables e below (T32.setTop (mkF m 24 #[.val (.ref a1), .val (.ref a2), .val (.int p3), .val (.int p4)] [])) _
    refine XS.aloadN X32.here hx rfl (hb hby d1_24) rfl rfl ?_
    show Steps p.tables e below (T32.setTop (mkF m 25 #[.val (.ref a1), .val (.ref a2), .val (.int p3), .val (.int p4)] [(.ref a1)])) _
    refine XS.iloadN X32.here hx rfl (hb hby d1_25) rfl ?_
    show Steps p.tables e below (T32.setTop (mkF m 26 #[.val (.ref a1), .val (.ref a2), .val (.int p3), .val (.int p4)] [(.int p3), (.ref a1)])) _
    refine st42 _ ?_
    exact kt
  obtain ⟨fs, hr, hrun, hended, hW, hsame⟩ := X42.leave (v := none) (fun _ => rfl)
  refine ⟨_, _, pre52 _ ?_, hrun, hended, _, _, rfl, ?_, ⟨_, rfl⟩, hW, hsame.mono (by decide) (by decide)⟩
  · show Steps p.tables e below (T42.setTop (mkF m 29 #[.val (.ref a1), .val (.ref a2), .val (.int p3), .val (.int p4)] [])) _
    exact X42.returnOut hx Bd.returns (hb hby d1_29) hr
  · show Q1 Z a1 a2 p3 p4 h0 n0 _ T42.heap _
    rw [hE42]
    exact ⟨rfl, N50, K51, f43, f44, f45, f46, f47, Fw42⟩
theorem d3_0 : decode prog_30_method_5_code 0 = .ok (.aload_n 0, 1) := by decide +kernel
theorem d3_1 : decode prog_30_method_5_code 1 = .ok (.getfield 24, 3) := by decide +kernel
theorem d3_4 : decode prog_30_method_5_code 4 = .ok (.aload_n 0, 1) := by decide +kernel
theorem d3_5 : decode prog_30_method_5_code 5 = .ok (.getfield 21, 3) := by decide +kernel
theorem d3_8 : decode prog_30_method_5_code 8 = .ok (.if_icmp .ge 35, 3) := by decide +kernel
theorem d3_11 : decode prog_30_method_5_code 11 = .ok (.aload_n 0, 1) := by decide +kernel
theorem d3_12 : decode prog_30_method_5_code 12 = .ok (.getfield 13, 3) := by decide +kernel
theorem d3_15 : decode prog_30_method_5_code 15 = .ok (.aload_n 0, 1) := by decide +kernel
theorem d3_16 : decode prog_30_method_5_code 16 = .ok (.getfield 24, 3) := by decide +kernel
theorem d3_19 : decode prog_30_method_5_code 19 = .ok (.baload, 1) := by decide +kernel
theorem d3_20 : decode prog_30_method_5_code 20 = .ok (.bipush 123, 2) := by decide +kernel
theorem d3_22 : decode prog_30_method_5_code 22 = .ok (.if_icmp .eq 17, 3) := by decide +kernel
theorem d3_25 : decode prog_30_method_5_code 25 = .ok (.aload_n 0, 1) := by decide +kernel
theorem d3_26 : decode prog_30_method_5_code 26 = .ok (.getfield 13, 3) := by decide +kernel
theorem d3_29 : decode prog_30_method_5_code 29 = .ok (.aload_n 0, 1) := by decide +kernel
theorem d3_30 : decode prog_30_method_5_code 30 = .ok (.getfield 24, 3) := by decide +kernel
theorem d3_33 : decode prog_30_method_5_code 33 = .ok (.baload, 1) := by decide +kernel
theorem d3_34 : decode prog_30_method_5_code 34 = .ok (.bipush 91, 2) := by decide +kernel
theorem d3_36 : decode prog_30_method_5_code 36 = .ok (.if_icmp .ne 7, 3) := by decide +kernel
theorem d3_39 : decode prog_30_method_5_code 39 = .ok (.iconst 1, 1) := by decide +kernel
theorem d3_40 : decode prog_30_method_5_code 40 = .ok (.goto 4, 3) := by decide +kernel
theorem d3_43 : decode prog_30_method_5_code 43 = .ok (.iconst 0, 1) := by decide +kernel
theorem d3_44 : decode prog_30_method_5_code 44 = .ok (.ireturn, 1) := by decide +kernel
theorem pn_3 : plainName "com/example/fama/fama/table/JsonLine" = true := by first | (simp [plainName, overriddenIn]; done) | decide +kernel
theorem ef_3 (m : MethodId) (x0 : Addr) : entryFrame m #[(.ref x0)] 1 = mkF m 0 #[.val (.ref x0)] [] := by first | (simp [entryFrame, mkF, argsToLocals, Value.category]; done) | rfl
def fn3 (a1 : Addr) (ab : Addr) (ia ie : Int32) (nb : Nat) (fb : Nat → Int32) (kb : Nat) : Int32 := (if ia < ie then (if (fb kb) = (123 : Int32) then (1 : Int32) else (if (fb kb) = (91 : Int32) then (1 : Int32) else (0 : Int32))) else (0 : Int32))
def Q3 (Z : State) (a1 : Addr) (ab : Addr) (ia ie : Int32) (nb : Nat) (fb : Nat → Int32) (kb : Nat) (h0 : Heap) (n0 : Nat) (v : Option Value) (h : Heap) (L : List Loc) : Prop := v = some (.int (fn3 a1 ab ia ie nb fb kb)) ∧ Fr n0 L ∧ h = h0
set_option maxRecDepth 65536 in
set_option maxHeartbeats 40000000 in
theorem rm3 (l : Launch) (Z : State) (a0 : Array Value) (hw : ∀ d ∈ tables_1, d.before a0 Z = true) (ws : List Jvm.Cond) (a1 : Addr) (ab : Addr) (ia ie : Int32) (nb : Nat) (fb : Nat → Int32) (kb : Nat) (h0 : Heap) (n0 : Nat) (Z0 : n0 ≤ h0.size) (F_at : Fld Z h0 a1 "com/example/fama/fama/table/JsonLine" "at" "I" (.int ia)) (F_end : Fld Z h0 a1 "com/example/fama/fama/table/JsonLine" "end" "I" (.int ie)) (F_bytes : Fld Z h0 a1 "com/example/fama/fama/table/JsonLine" "bytes" "[B" (.ref ab)) (A_ab : owAI Z h0 ab .byte nb fb) (hin : ia < ie → ia.toInt = (kb : Int) ∧ kb < nb) :
    MetFree l (⟨"com/example/fama/fama/table/JsonLine", "atStructure", "()Z"⟩ : MethodName) (head1 (Jvm.Cond.code (⟨"com/example/fama/fama/table/JsonLine", "atStructure", "()Z"⟩ : MethodName) prog_30_method_5_code 1 (some .boolean) :: ws) ({ frames := 0, cells := 0, slots := 0, locals := 0 } : Room)) (fun a U => a = #[(.ref a1)] ∧ Z.Warmed39 U.vm ∧ U.heap = h0) (fun _ _ _ _ _ => True) (fun _ U o U' => ∃ v L, o = .returned v ∧ Q3 Z a1 ab ia ie nb fb kb h0 n0 v U'.heap L ∧ FrameEnd U o U' L ({ frames := 0, cells := 0, slots := 0, locals := 0 } : Room).cells ({ frames := 0, cells := 0, slots := 0, locals := 0 } : Room).slots) := by
  refine MetFree.of_bodySF (plainFor_of_name pn_3) hisR ?_
  intro p e s m args below meth c s₁ Bd hml0 hP hK
  obtain ⟨rfl, hZ, hh⟩ := hP
  have hx := Bd.exec
  have hby := Bd.bytes
  have hml : c.maxLocals = 1 := hml0
  have hown : s.vm.findClass "com/example/fama/fama/table/JsonLine" = some m.cls := findClass_of_methodNamed Bd.named
  have hnm := (name_of_methodNamed Bd.named Bd.method).1
  have X0 : Stand p l e ({ frames := 0, cells := 0, slots := 0, locals := 0 } : Room) s m #[(.ref a1)] below meth c s₁ [] 0 0 := Stand.of_body Bd
  have e0 : s₁.heap = h0 := by rw [← hh, Bd.state]; rfl
  have N0 := Fr.nil n0
  have pre0 : ∀ t, Steps p.tables e below (s₁.setTop (mkF m 0 #[.val (.ref a1)] [])) t → Steps p.tables e below (s₁.setTop (entryFrame m #[(.ref a1)] 1)) t := fun t k => castTop (ef_3 m a1) k
  obtain ⟨T1, X1, hE1, st1⟩ := getF X0 hx hZ hown (host := "") (Or.inl (hw _ (List.mem_of_getElem? (i := 18) rfl))) Via.refl e0 F_at (g := (mkF m 1 #[.val (.ref a1)] [(.ref a1)])) rfl rfl (hb hby d3_1)
  obtain ⟨T2, X2, hE2, st2⟩ := getF X1 hx hZ hown (host := "") (Or.inl (hw _ (List.mem_of_getElem? (i := 16) rfl))) Via.refl hE1 F_end (g := (mkF m 5 #[.val (.ref a1)] [(.ref a1), (.int ia)])) rfl rfl (hb hby d3_5)
  have pre3 : ∀ t, Steps p.tables e below (T2.setTop (mkF m 8 #[.val (.ref a1)] [(.int ie), (.int ia)])) t → Steps p.tables e below (s₁.setTop (entryFrame m #[(.ref a1)] 1)) t := by
    intro t kt
    refine pre0 _ ?_
    show Steps p.tables e below (s₁.setTop (mkF m 0 #[.val (.ref a1)] [])) _
    refine XS.aloadN X0.here hx rfl (hb hby d3_0) rfl rfl ?_
    show Steps p.tables e below (s₁.setTop (mkF m 1 #[.val (.ref a1)] [(.ref a1)])) _
    refine st1 _ ?_
    show Steps p.tables e below (T1.setTop (mkF m 4 #[.val (.ref a1)] [(.int ia)])) _
    refine XS.aloadN X1.here hx rfl (hb hby d3_4) rfl rfl ?_
    show Steps p.tables e below (T1.setTop (mkF m 5 #[.val (.ref a1)] [(.ref a1), (.int ia)])) _
    refine st2 _ ?_
    exact kt
  by_cases hc8_4 : ia < ie
  · skip
    obtain ⟨T5, X5, hE5, st5⟩ := getF X2 hx hZ hown (host := "") (Or.inl (hw _ (List.mem_of_getElem? (i := 12) rfl))) Via.refl hE2 F_bytes (g := (mkF m 12 #[.val (.ref a1)] [(.ref a1)])) rfl rfl (hb hby d3_12)
    obtain ⟨T6, X6, hE6, st6⟩ := getF X5 hx hZ hown (host := "") (Or.inl (hw _ (List.mem_of_getElem? (i := 18) rfl))) Via.refl hE5 F_at (g := (mkF m 16 #[.val (.ref a1)] [(.ref a1), (.ref ab)])) rfl rfl (hb hby d3_16)
    have pre7 : ∀ t, Steps p.tables e below (T6.setTop (mkF m 22 #[.val (.ref a1)] [(.int (123 : Int32)), (.int (fb kb))])) t → Steps p.tables e below (s₁.setTop (entryFrame m #[(.ref a1)] 1)) t := by
      intro t kt
      refine pre3 _ ?_
      show Steps p.tables e below (T2.setTop (mkF m 8 #[.val (.ref a1)] [(.int ie), (.int ia)])) _
      refine XS.icmpNo X2.here hx rfl (hb hby d3_8) rfl (XT.ii_ge_f hc8_4) ?_
      show Steps p.tables e below (T2.setTop (mkF m 11 #[.val (.ref a1)] [])) _
      refine XS.aloadN X2.here hx rfl (hb hby d3_11) rfl rfl ?_
      show Steps p.tables e below (T2.setTop (mkF m 12 #[.val (.ref a1)] [(.ref a1)])) _
      refine st5 _ ?_
      show Steps p.tables e below (T5.setTop (mkF m 15 #[.val (.ref a1)] [(.ref ab)])) _
      refine XS.aloadN X5.here hx rfl (hb hby d3_15) rfl rfl ?_
      show Steps p.tables e below (T5.setTop (mkF m 16 #[.val (.ref a1)] [(.ref a1), (.ref ab)])) _
      refine st6 _ ?_
      show Steps p.tables e below (T6.setTop (mkF m 19 #[.val (.ref a1)] [(.int ia), (.ref ab)])) _
      refine owLdB (k := kb) X6 hx hZ hE6 A_ab (j := ia) (hin hc8_4).1 (hin hc8_4).2 (g := (mkF m 19 #[.val (.ref a1)] [(.int ia), (.ref ab)])) rfl rfl (hb hby d3_19) _ ?_
      show Steps p.tables e below (T6.setTop (mkF m 20 #[.val (.ref a1)] [(.int (fb kb))])) _
      refine XS.bipush X6.here hx rfl (hb hby d3_20) ?_
      exact kt
    by_cases hc22_8 : (fb kb) = (123 : Int32)
    · skip
      have pre9 : ∀ t, Steps p.tables e below (T6.setTop (mkF m 44 #[.val (.ref a1)] [(.int (1 : Int32))])) t → Steps p.tables e below (s₁.setTop (entryFrame m #[(.ref a1)] 1)) t := by
        intro t kt
        refine pre7 _ ?_
        show Steps p.tables e below (T6.setTop (mkF m 22 #[.val (.ref a1)] [(.int (123 : Int32)), (.int (fb kb))])) _
        refine XS.icmpYes X6.here hx rfl (pc0 := 22) (pc' := 39) rfl (hb hby d3_22) rfl (XT.ii_eq_t hc22_8) (by decide) (by decide) ?_
        show Steps p.tables e below (T6.setTop (mkF m 39 #[.val (.ref a1)] [])) _
        refine XS.iconst X6.here hx rfl (hb hby d3_39) ?_
        show Steps p.tables e below (T6.setTop (mkF m 40 #[.val (.ref a1)] [(.int (1 : Int32))])) _
        refine XS.goto X6.here hx rfl (pc0 := 40) (pc' := 44) rfl (hb hby d3_40) (by decide) (by decide) ?_
        exact kt
      obtain ⟨fs, hr, hrun, hended, hW, hsame⟩ := X6.leave (v := some (.int (1 : Int32))) (fun h => by rw [Bd.returns] at h; cases h)
      refine ⟨_, _, pre9 _ ?_, hrun, hended, _, _, rfl, ?_, ⟨_, rfl⟩, hW, hsame.mono (by decide) (by decide)⟩
      · show Steps p.tables e below (T6.setTop (mkF m 44 #[.val (.ref a1)] [(.int (1 : Int32))])) _
        exact retN X6 hx (t := .boolean) Bd.returns (by simp) (hb hby d3_44) hr
      · show Q3 Z a1 ab ia ie nb fb kb h0 n0 _ T6.heap _
        rw [hE6]
        exact ⟨by unfold fn3; rw [if_pos hc8_4, if_pos hc22_8], N0, rfl⟩
    · skip
      obtain ⟨T10, X10, hE10, st10⟩ := getF X6 hx hZ hown (host := "") (Or.inl (hw _ (List.mem_of_getElem? (i := 12) rfl))) Via.refl hE6 F_bytes (g := (mkF m 26 #[.val (.ref a1)] [(.ref a1)])) rfl rfl (hb hby d3_26)
      obtain ⟨T11, X11, hE11, st11⟩ := getF X10 hx hZ hown (host := "") (Or.inl (hw _ (List.mem_of_getElem? (i := 18) rfl))) Via.refl hE10 F_at (g := (mkF m 30 #[.val (.ref a1)] [(.ref a1), (.ref ab)])) rfl rfl (hb hby d3_30)
      have pre12 : ∀ t, Steps p.tables e below (T11.setTop (mkF m 36 #[.val (.ref a1)] [(.int (91 : Int32)), (.int (fb kb))])) t → Steps p.tables e below (s₁.setTop (entryFrame m #[(.ref a1)] 1)) t := by
        intro t kt
        refine pre7 _ ?_
        show Steps p.tables e below (T6.setTop (mkF m 22 #[.val (.ref a1)] [(.int (123 : Int32)), (.int (fb kb))])) _
        refine XS.icmpNo X6.here hx rfl (hb hby d3_22) rfl (XT.ii_eq_f hc22_8) ?_
        show Steps p.tables e below (T6.setTop (mkF m 25 #[.val (.ref a1)] [])) _
        refine XS.aloadN X6.here hx rfl (hb hby d3_25) rfl rfl ?_
        show Steps p.tables e below (T6.setTop (mkF m 26 #[.val (.ref a1)] [(.ref a1)])) _
        refine st10 _ ?_
        show Steps p.tables e below (T10.setTop (mkF m 29 #[.val (.ref a1)] [(.ref ab)])) _
        refine XS.aloadN X10.here hx rfl (hb hby d3_29) rfl rfl ?_
        show Steps p.tables e below (T10.setTop (mkF m 30 #[.val (.ref a1)] [(.ref a1), (.ref ab)])) _
        refine st11 _ ?_
        show Steps p.tables e below (T11.setTop (mkF m 33 #[.val (.ref a1)] [(.int ia), (.ref ab)])) _
        refine owLdB (k := kb) X11 hx hZ hE11 A_ab (j := ia) (hin hc8_4).1 (hin hc8_4).2 (g := (mkF m 33 #[.val (.ref a1)] [(.int ia), (.ref ab)])) rfl rfl (hb hby d3_33) _ ?_
        show Steps p.tables e below (T11.setTop (mkF m 34 #[.val (.ref a1)] [(.int (fb kb))])) _
        refine XS.bipush X11.here hx rfl (hb hby d3_34) ?_
        exact kt
      by_cases hc36_13 : (fb kb) = (91 : Int32)
      · skip
        have pre14 : ∀ t, Steps p.tables e below (T11.setTop (mkF m 44 #[.val (.ref a1)] [(.int (1 : Int32))])) t → Steps p.tables e below (s₁.setTop (entryFrame m #[(.ref a1)] 1)) t := by
          intro t kt
          refine pre12 _ ?_
          show Steps p.tables e below (T11.setTop (mkF m 36 #[.val (.ref a1)] [(.int (91 : Int32)), (.int (fb kb))])) _
          refine XS.icmpNo X11.here hx rfl (hb hby d3_36) rfl (XT.ii_ne_f hc36_13) ?_
          show Steps p.tables e below (T11.setTop (mkF m 39 #[.val (.ref a1)] [])) _
          refine XS.iconst X11.here hx rfl (hb hby d3_39) ?_
          show Steps p.tables e below (T11.setTop (mkF m 40 #[.val (.ref a1)] [(.int (1 : Int32))])) _
          refine XS.goto X11.here hx rfl (pc0 := 40) (pc' := 44) rfl (hb hby d3_40) (by decide) (by decide) ?_
          exact kt
        obtain ⟨fs, hr, hrun, hended, hW, hsame⟩ := X11.leave (v := some (.int (1 : Int32))) (fun h => by rw [Bd.returns] at h; cases h)
        refine ⟨_, _, pre14 _ ?_, hrun, hended, _, _, rfl, ?_, ⟨_, rfl⟩, hW, hsame.mono (by decide) (by decide)⟩
        · show Steps p.tables e below (T11.setTop (mkF m 44 #[.val (.ref a1)] [(.int (1 : Int32))])) _
          exact retN X11 hx (t := .boolean) Bd.returns (by simp) (hb hby d3_44) hr
        · show Q3 Z a1 ab ia ie nb fb kb h0 n0 _ T11.heap _
          rw [hE11]
          exact ⟨by unfold fn3; rw [if_pos hc8_4, if_neg hc22_8, if_pos hc36_13], N0, rfl⟩
      · skip
        have pre15 : ∀ t, Steps p.tables e below (T11.setTop (mkF m 44 #[.val (.ref a1)] [(.int (0 : Int32))])) t → Steps p.tables e below (s₁.setTop (entryFrame m #[(.ref a1)] 1)) t := by
          intro t kt
          refine pre12 _ ?_
          show Steps p.tables e below (T11.setTop (mkF m 36 #[.val (.ref a1)] [(.int (91 : Int32)), (.int (fb kb))])) _
          refine XS.icmpYes X11.here hx rfl (pc0 := 36) (pc' := 43) rfl (hb hby d3_36) rfl (XT.ii_ne_t hc36_13) (by decide) (by decide) ?_
          show Steps p.tables e below (T11.setTop (mkF m 43 #[.val (.ref a1)] [])) _
          refine XS.iconst X11.here hx rfl (hb hby d3_43) ?_
          exact kt
        obtain ⟨fs, hr, hrun, hended, hW, hsame⟩ := X11.leave (v := some (.int (0 : Int32))) (fun h => by rw [Bd.returns] at h; cases h)
        refine ⟨_, _, pre15 _ ?_, hrun, hended, _, _, rfl, ?_, ⟨_, rfl⟩, hW, hsame.mono (by decide) (by decide)⟩
        · show Steps p.tables e below (T11.setTop (mkF m 44 #[.val (.ref a1)] [(.int (0 : Int32))])) _
          exact retN X11 hx (t := .boolean) Bd.returns (by simp) (hb hby d3_44) hr
        · show Q3 Z a1 ab ia ie nb fb kb h0 n0 _ T11.heap _
          rw [hE11]
          exact ⟨by unfold fn3; rw [if_pos hc8_4, if_neg hc22_8, if_neg hc36_13], N0, rfl⟩
  · skip
    have pre16 : ∀ t, Steps p.tables e below (T2.setTop (mkF m 44 #[.val (.ref a1)] [(.int (0 : Int32))])) t → Steps p.tables e below (s₁.setTop (entryFrame m #[(.ref a1)] 1)) t := by
      intro t kt
      refine pre3 _ ?_
      show Steps p.tables e below (T2.setTop (mkF m 8 #[.val (.ref a1)] [(.int ie), (.int ia)])) _
      refine XS.icmpYes X2.here hx rfl (pc0 := 8) (pc' := 43) rfl (hb hby d3_8) rfl (XT.ii_ge_t hc8_4) (by decide) (by decide) ?_
      show Steps p.tables e below (T2.setTop (mkF m 43 #[.val (.ref a1)] [])) _
      refine XS.iconst X2.here hx rfl (hb hby d3_43) ?_
      exact kt
    obtain ⟨fs, hr, hrun, hended, hW, hsame⟩ := X2.leave (v := some (.int (0 : Int32))) (fun h => by rw [Bd.returns] at h; cases h)
    refine ⟨_, _, pre16 _ ?_, hrun, hended, _, _, rfl, ?_, ⟨_, rfl⟩, hW, hsame.mono (by decide) (by decide)⟩
    · show Steps p.tables e below (T2.setTop (mkF m 44 #[.val (.ref a1)] [(.int (0 : Int32))])) _
      exact retN X2 hx (t := .boolean) Bd.returns (by simp) (hb hby d3_44) hr
    · show Q3 Z a1 ab ia ie nb fb kb h0 n0 _ T2.heap _
      rw [hE2]
      exact ⟨by unfold fn3; rw [if_neg hc8_4], N0, rfl⟩
theorem d4_0 : decode prog_30_method_4_code 0 = .ok (.aload_n 0, 1) := by decide +kernel
theorem d4_1 : decode prog_30_method_4_code 1 = .ok (.getfield 24, 3) := by decide +kernel
theorem d4_4 : decode prog_30_method_4_code 4 = .ok (.aload_n 0, 1) := by decide +kernel
theorem d4_5 : decode prog_30_method_4_code 5 = .ok (.getfield 21, 3) := by decide +kernel
theorem d4_8 : decode prog_30_method_4_code 8 = .ok (.if_icmp .ge 21, 3) := by decide +kernel
theorem d4_11 : decode prog_30_method_4_code 11 = .ok (.aload_n 0, 1) := by decide +kernel
theorem d4_12 : decode prog_30_method_4_code 12 = .ok (.getfield 13, 3) := by decide +kernel
theorem d4_15 : decode prog_30_method_4_code 15 = .ok (.aload_n 0, 1) := by decide +kernel
theorem d4_16 : decode prog_30_method_4_code 16 = .ok (.getfield 24, 3) := by decide +kernel
theorem d4_19 : decode prog_30_method_4_code 19 = .ok (.baload, 1) := by decide +kernel
theorem d4_20 : decode prog_30_method_4_code 20 = .ok (.bipush 34, 2) := by decide +kernel
theorem d4_22 : decode prog_30_method_4_code 22 = .ok (.if_icmp .ne 7, 3) := by decide +kernel
theorem d4_25 : decode prog_30_method_4_code 25 = .ok (.iconst 1, 1) := by decide +kernel
theorem d4_26 : decode prog_30_method_4_code 26 = .ok (.goto 4, 3) := by decide +kernel
theorem d4_29 : decode prog_30_method_4_code 29 = .ok (.iconst 0, 1) := by decide +kernel
theorem d4_30 : decode prog_30_method_4_code 30 = .ok (.ireturn, 1) := by decide +kernel
theorem pn_4 : plainName "com/example/fama/fama/table/JsonLine" = true := by first | (simp [plainName, overriddenIn]; done) | decide +kernel
theorem ef_4 (m : MethodId) (x0 : Addr) : entryFrame m #[(.ref x0)] 1 = mkF m 0 #[.val (.ref x0)] [] := by first | (simp [entryFrame, mkF, argsToLocals, Value.category]; done) | rfl
def fn4 (a1 : Addr) (ab : Addr) (ia ie : Int32) (nb : Nat) (fb : Nat → Int32) (kb : Nat) : Int32 := (if ia < ie then (if (fb kb) = (34 : Int32) then (1 : Int32) else (0 : Int32)) else (0 : Int32))
def Q4 (Z : State) (a1 : Addr) (ab : Addr) (ia ie : Int32) (nb : Nat) (fb : Nat → Int32) (kb : Nat) (h0 : Heap) (n0 : Nat) (v : Option Value) (h : Heap) (L : List Loc) : Prop := v = some (.int (fn4 a1 ab ia ie nb fb kb)) ∧ Fr n0 L ∧ h = h0
set_option maxRecDepth 65536 in
set_option maxHeartbeats 40000000 in
theorem rm4 (l : Launch) (Z : State) (a0 : Array Value) (hw : ∀ d ∈ tables_1, d.before a0 Z = true) (ws : List Jvm.Cond) (a1 : Addr) (ab : Addr) (ia ie : Int32) (nb : Nat) (fb : Nat → Int32) (kb : Nat) (h0 : Heap) (n0 : Nat) (Z0 : n0 ≤ h0.size) (F_at : Fld Z h0 a1 "com/example/fama/fama/table/JsonLine" "at" "I" (.int ia)) (F_end : Fld Z h0 a1 "com/example/fama/fama/table/JsonLine" "end" "I" (.int ie)) (F_bytes : Fld Z h0 a1 "com/example/fama/fama/table/JsonLine" "bytes" "[B" (.ref ab)) (A_ab : owAI Z h0 ab .byte nb fb) (hin : ia < ie → ia.toInt = (kb : Int) ∧ kb < nb) :
    MetFree l (⟨"com/example/fama/fama/table/JsonLine", "atString", "()Z"⟩ : MethodName) (head1 (Jvm.Cond.code (⟨"com/example/fama/fama/table/JsonLine", "atString", "()Z"⟩ : MethodName) prog_30_method_4_code 1 (some .boolean) :: ws) ({ frames := 0, cells := 0, slots := 0, locals := 0 } : Room)) (fun a U => a = #[(.ref a1)] ∧ Z.Warmed39 U.vm ∧ U.heap = h0) (fun _ _ _ _ _ => True) (fun _ U o U' => ∃ v L, o = .returned v ∧ Q4 Z a1 ab ia ie nb fb kb h0 n0 v U'.heap L ∧ FrameEnd U o U' L ({ frames := 0, cells := 0, slots := 0, locals := 0 } : Room).cells ({ frames := 0, cells := 0, slots := 0, locals := 0 } : Room).slots) := by
  refine MetFree.of_bodySF (plainFor_of_name pn_4) hisR ?_
  intro p e s m args below meth c s₁ Bd hml0 hP hK
  obtain ⟨rfl, hZ, hh⟩ := hP
  have hx := Bd.exec
  have hby := Bd.bytes
  have hml : c.maxLocals = 1 := hml0
  have hown : s.vm.findClass "com/example/fama/fama/table/JsonLine" = some m.cls := findClass_of_methodNamed Bd.named
  have hnm := (name_of_methodNamed Bd.named Bd.method).1
  have X0 : Stand p l e ({ frames := 0, cells := 0, slots := 0, locals := 0 } : Room) s m #[(.ref a1)] below meth c s₁ [] 0 0 := Stand.of_body Bd
  have e0 : s₁.heap = h0 := by rw [← hh, Bd.state]; rfl
  have N0 := Fr.nil n0
  have pre0 : ∀ t, Steps p.tables e below (s₁.setTop (mkF m 0 #[.val (.ref a1)] [])) t → Steps p.tables e below (s₁.setTop (entryFrame m #[(.ref a1)] 1)) t := fun t k => castTop (ef_4 m a1) k
  obtain ⟨T1, X1, hE1, st1⟩ := getF X0 hx hZ hown (host := "") (Or.inl (hw _ (List.mem_of_getElem? (i := 18) rfl))) Via.refl e0 F_at (g := (mkF m 1 #[.val (.ref a1)] [(.ref a1)])) rfl rfl (hb hby d4_1)
  obtain ⟨T2, X2, hE2, st2⟩ := getF X1 hx hZ hown (host := "") (Or.inl (hw _ (List.mem_of_getElem? (i := 16) rfl))) Via.refl hE1 F_end (g := (mkF m 5 #[.val (.ref a1)] [(.ref a1), (.int ia)])) rfl rfl (hb hby d4_5)
  have pre3 : ∀ t, Steps p.tables e below (T2.setTop (mkF m 8 #[.val (.ref a1)] [(.int ie), (.int ia)])) t → Steps p.tables e below (s₁.setTop (entryFrame m #[(.ref a1)] 1)) t := by
    intro t kt
    refine pre0 _ ?_
    show Steps p.tables e below (s₁.setTop (mkF m 0 #[.val (.ref a1)] [])) _
    refine XS.aloadN X0.here hx rfl (hb hby d4_0) rfl rfl ?_
    show Steps p.tables e below (s₁.setTop (mkF m 1 #[.val (.ref a1)] [(.ref a1)])) _
    refine st1 _ ?_
    show Steps p.tables e below (T1.setTop (mkF m 4 #[.val (.ref a1)] [(.int ia)])) _
    refine XS.aloadN X1.here hx rfl (hb hby d4_4) rfl rfl ?_
    show Steps p.tables e below (T1.setTop (mkF m 5 #[.val (.ref a1)] [(.ref a1), (.int ia)])) _
    refine st2 _ ?_
    exact kt
  by_cases hc8_4 : ia < ie
  · skip
    obtain ⟨T5, X5, hE5, st5⟩ := getF X2 hx hZ hown (host := "") (Or.inl (hw _ (List.mem_of_getElem? (i := 12) rfl))) Via.refl hE2 F_bytes (g := (mkF m 12 #[.val (.ref a1)] [(.ref a1)])) rfl rfl (hb hby d4_12)
    obtain ⟨T6, X6, hE6, st6⟩ := getF X5 hx hZ hown (host := "") (Or.inl (hw _ (List.mem_of_getElem? (i := 18) rfl))) Via.refl hE5 F_at (g := (mkF m 16 #[.val (.ref a1)] [(.ref a1), (.ref ab)])) rfl rfl (hb hby d4_16)
    have pre7 : ∀ t, Steps p.tables e below (T6.setTop (mkF m 22 #[.val (.ref a1)] [(.int (34 : Int32)), (.int (fb kb))])) t → Steps p.tables e below (s₁.setTop (entryFrame m #[(.ref a1)] 1)) t := by
      intro t kt
      refine pre3 _ ?_
      show Steps p.tables e below (T2.setTop (mkF m 8 #[.val (.ref a1)] [(.int ie), (.int ia)])) _
      refine XS.icmpNo X2.here hx rfl (hb hby d4_8) rfl (XT.ii_ge_f hc8_4) ?_
      show Steps p.tables e below (T2.setTop (mkF m 11 #[.val (.ref a1)] [])) _
      refine XS.aloadN X2.here hx rfl (hb hby d4_11) rfl rfl ?_
      show Steps p.tables e below (T2.setTop (mkF m 12 #[.val (.ref a1)] [(.ref a1)])) _
      refine st5 _ ?_
      show Steps p.tables e below (T5.setTop (mkF m 15 #[.val (.ref a1)] [(.ref ab)])) _
      refine XS.aloadN X5.here hx rfl (hb hby d4_15) rfl rfl ?_
      show Steps p.tables e below (T5.setTop (mkF m 16 #[.val (.ref a1)] [(.ref a1), (.ref ab)])) _
      refine st6 _ ?_
      show Steps p.tables e below (T6.setTop (mkF m 19 #[.val (.ref a1)] [(.int ia), (.ref ab)])) _
      refine owLdB (k := kb) X6 hx hZ hE6 A_ab (j := ia) (hin hc8_4).1 (hin hc8_4).2 (g := (mkF m 19 #[.val (.ref a1)] [(.int ia), (.ref ab)])) rfl rfl (hb hby d4_19) _ ?_
      show Steps p.tables e below (T6.setTop (mkF m 20 #[.val (.ref a1)] [(.int (fb kb))])) _
      refine XS.bipush X6.here hx rfl (hb hby d4_20) ?_
      exact kt
    by_cases hc22_8 : (fb kb) = (34 : Int32)
    · skip
      have pre9 : ∀ t, Steps p.tables e below (T6.setTop (mkF m 30 #[.val (.ref a1)] [(.int (1 : Int32))])) t → Steps p.tables e below (s₁.setTop (entryFrame m #[(.ref a1)] 1)) t := by
        intro t kt
        refine pre7 _ ?_
        show Steps p.tables e below (T6.setTop (mkF m 22 #[.val (.ref a1)] [(.int (34 : Int32)), (.int (fb kb))])) _
        refine XS.icmpNo X6.here hx rfl (hb hby d4_22) rfl (XT.ii_ne_f hc22_8) ?_
        show Steps p.tables e below (T6.setTop (mkF m 25 #[.val (.ref a1)] [])) _
        refine XS.iconst X6.here hx rfl (hb hby d4_25) ?_
        show Steps p.tables e below (T6.setTop (mkF m 26 #[.val (.ref a1)] [(.int (1 : Int32))])) _
        refine XS.goto X6.here hx rfl (pc0 := 26) (pc' := 30) rfl (hb hby d4_26) (by decide) (by decide) ?_
        exact kt
      obtain ⟨fs, hr, hrun, hended, hW, hsame⟩ := X6.leave (v := some (.int (1 : Int32))) (fun h => by rw [Bd.returns] at h; cases h)
      refine ⟨_, _, pre9 _ ?_, hrun, hended, _, _, rfl, ?_, ⟨_, rfl⟩, hW, hsame.mono (by decide) (by decide)⟩
      · show Steps p.tables e below (T6.setTop (mkF m 30 #[.val (.ref a1)] [(.int (1 : Int32))])) _
        exact retN X6 hx (t := .boolean) Bd.returns (by simp) (hb hby d4_30) hr
      · show Q4 Z a1 ab ia ie nb fb kb h0 n0 _ T6.heap _
        rw [hE6]
        exact ⟨by unfold fn4; rw [if_pos hc8_4, if_pos hc22_8], N0, rfl⟩
    · skip
      have pre10 : ∀ t, Steps p.tables e below (T6.setTop (mkF m 30 #[.val (.ref a1)] [(.int (0 : Int32))])) t → Steps p.tables e below (s₁.setTop (entryFrame m #[(.ref a1)] 1)) t := by
        intro t kt
        refine pre7 _ ?_
        show Steps p.tables e below (T6.setTop (mkF m 22 #[.val (.ref a1)] [(.int (34 : Int32)), (.int (fb kb))])) _
        refine XS.icmpYes X6.here hx rfl (pc0 := 22) (pc' := 29) rfl (hb hby d4_22) rfl (XT.ii_ne_t hc22_8) (by decide) (by decide) ?_
        show Steps p.tables e below (T6.setTop (mkF m 29 #[.val (.ref a1)] [])) _
        refine XS.iconst X6.here hx rfl (hb hby d4_29) ?_
        exact kt
      obtain ⟨fs, hr, hrun, hended, hW, hsame⟩ := X6.leave (v := some (.int (0 : Int32))) (fun h => by rw [Bd.returns] at h; cases h)
      refine ⟨_, _, pre10 _ ?_, hrun, hended, _, _, rfl, ?_, ⟨_, rfl⟩, hW, hsame.mono (by decide) (by decide)⟩
      · show Steps p.tables e below (T6.setTop (mkF m 30 #[.val (.ref a1)] [(.int (0 : Int32))])) _
        exact retN X6 hx (t := .boolean) Bd.returns (by simp) (hb hby d4_30) hr
      · show Q4 Z a1 ab ia ie nb fb kb h0 n0 _ T6.heap _
        rw [hE6]
        exact ⟨by unfold fn4; rw [if_pos hc8_4, if_neg hc22_8], N0, rfl⟩
  · skip
    have pre11 : ∀ t, Steps p.tables e below (T2.setTop (mkF m 30 #[.val (.ref a1)] [(.int (0 : Int32))])) t → Steps p.tables e below (s₁.setTop (entryFrame m #[(.ref a1)] 1)) t := by
      intro t kt
      refine pre3 _ ?_
      show Steps p.tables e below (T2.setTop (mkF m 8 #[.val (.ref a1)] [(.int ie), (.int ia)])) _
      refine XS.icmpYes X2.here hx rfl (pc0 := 8) (pc' := 29) rfl (hb hby d4_8) rfl (XT.ii_ge_t hc8_4) (by decide) (by decide) ?_
      show Steps p.tables e below (T2.setTop (mkF m 29 #[.val (.ref a1)] [])) _
      refine XS.iconst X2.here hx rfl (hb hby d4_29) ?_
      exact kt
    obtain ⟨fs, hr, hrun, hended, hW, hsame⟩ := X2.leave (v := some (.int (0 : Int32))) (fun h => by rw [Bd.returns] at h; cases h)
    refine ⟨_, _, pre11 _ ?_, hrun, hended, _, _, rfl, ?_, ⟨_, rfl⟩, hW, hsame.mono (by decide) (by decide)⟩
    · show Steps p.tables e below (T2.setTop (mkF m 30 #[.val (.ref a1)] [(.int (0 : Int32))])) _
      exact retN X2 hx (t := .boolean) Bd.returns (by simp) (hb hby d4_30) hr
    · show Q4 Z a1 ab ia ie nb fb kb h0 n0 _ T2.heap _
      rw [hE2]
      exact ⟨by unfold fn4; rw [if_neg hc8_4], N0, rfl⟩
theorem own_r5 (x st : Int32) (h : st = ((x &&& (7 : Int32)) % (5 : Int32))) : 0 ≤ st.toInt ∧ st.toInt ≤ 4 := by
  have h1 := c_mask x 7 3 (by decide) (by decide)
  have h2 := (c_irem (x &&& 7) 5 5 rfl).1
  rw [← h] at h2
  omega
theorem own_byte (p1 : Int32) (fb : Nat → Int32) (h_fb : fb = (owUp (owUp (owUp (owUp (fun _ => 0) 0 ((p1.toInt8.toInt32).toInt8.toInt32)) 1 (((p1 >>> ((8 : Int32) &&& 31)).toInt8.toInt32).toInt8.toInt32)) 2 (((p1 >>> ((16 : Int32) &&& 31)).toInt8.toInt32).toInt8.toInt32)) 3 ((((p1.toUInt32 >>> ((24 : Int32) &&& 31).toUInt32).toInt32).toInt8.toInt32).toInt8.toInt32))) : ∀ i, -128 ≤ (fb i).toInt ∧ (fb i).toInt < 128 := by
  rw [h_fb]
  exact owUpP (P := fun x : Int32 => -128 ≤ x.toInt ∧ x.toInt < 128) (owUpP (P := fun x : Int32 => -128 ≤ x.toInt ∧ x.toInt < 128) (owUpP (P := fun x : Int32 => -128 ≤ x.toInt ∧ x.toInt < 128) (owUpP (P := fun x : Int32 => -128 ≤ x.toInt ∧ x.toInt < 128) (fun _ => by decide) (c_i2b _).2) (c_i2b _).2) (c_i2b _).2) (c_i2b _).2
theorem own_b (v c : Int32) (h : -128 ≤ v.toInt ∧ v.toInt < 128) (hc : 0 ≤ c.toInt ∧ c.toInt < 128) : (v &&& (255 : Int32)) = c ↔ v = c := by
  have h1 := c_mask v 255 8 (by decide) (by decide)
  rw [← Int32.toInt_inj, ← Int32.toInt_inj]
  omega
theorem own_s0 (a ab : Addr) (st en : Int32) (nb : Nat) (fb : Nat → Int32) (k : Nat) (v : Int32) (h : ¬ st < en) (hv : v = (fn3 a ab st en nb fb k)) : v = (0 : Int32) := by
  rw [hv]; unfold fn3; rw [if_neg h]
theorem own_t0 (a ab : Addr) (st en : Int32) (nb : Nat) (fb : Nat → Int32) (k : Nat) (v : Int32) (h : ¬ st < en) (hv : v = (fn4 a ab st en nb fb k)) : v = (0 : Int32) := by
  rw [hv]; unfold fn4; rw [if_neg h]
theorem own_s1 (a ab : Addr) (st en : Int32) (nb : Nat) (fb : Nat → Int32) (k : Nat) (v : Int32) (h : st < en) (cc es : Int32) (hv : v = (fn3 a ab st en nb fb k)) (h_cc : cc = ((fb k) &&& (255 : Int32))) (h_es : es = (if cc = (123 : Int32) then (1 : Int32) else (if cc = (91 : Int32) then (1 : Int32) else (0 : Int32)))) (hb : -128 ≤ (fb k).toInt ∧ (fb k).toInt < 128) : v = es := by
  rw [hv, h_es]; unfold fn3; rw [if_pos h]
  have q1 := own_b (fb k) 123 hb (by decide)
  have q2 := own_b (fb k) 91 hb (by decide)
  rw [← h_cc] at q1 q2
  simp only [q1, q2]
theorem own_t1 (a ab : Addr) (st en : Int32) (nb : Nat) (fb : Nat → Int32) (k : Nat) (v : Int32) (h : st < en) (cc et : Int32) (hv : v = (fn4 a ab st en nb fb k)) (h_cc : cc = ((fb k) &&& (255 : Int32))) (h_et : et = (if cc = (34 : Int32) then (1 : Int32) else (0 : Int32))) (hb : -128 ≤ (fb k).toInt ∧ (fb k).toInt < 128) : v = et := by
  rw [hv, h_et]; unfold fn4; rw [if_pos h]
  have q1 := own_b (fb k) 34 hb (by decide)
  rw [← h_cc] at q1
  simp only [q1]

theorem pn_0 : plainName "com/example/fama/fama/table/JsonLineAtStructurePinLaw" = true := by first | (simp [plainName, overriddenIn]; done) | decide +kernel
theorem ef_0 (m : MethodId) (x0 : Int32) (x1 : Int32) (x2 : Int32) : entryFrame m #[(.int x0), (.int x1), (.int x2)] maxLocals = mkF m 0 #[.val (.int x0), .val (.int x1), .val (.int x2), .unset, .unset, .unset, .unset, .unset, .unset, .unset, .unset, .unset, .unset] [] := by first | (simp [entryFrame, mkF, argsToLocals, Value.category, maxLocals]; done) | rfl
theorem pd_0 : parseMethodDescriptor "([BII)V" = some ⟨[(.array .byte), .int, .int], none⟩ := by decide +kernel
theorem pd_1 : parseMethodDescriptor "()Z" = some ⟨[], some .boolean⟩ := by decide +kernel
def Q0 (Z : State) (p1 : Int32) (p2 : Int32) (p3 : Int32) (h0 : Heap) (n0 : Nat) (v : Option Value) (h : Heap) (L : List Loc) : Prop := v = some (.int 1) ∧ Fr n0 L
set_option maxRecDepth 65536 in
set_option maxHeartbeats 40000000 in
theorem rm0 (l : Launch) (Z : State) (a0 : Array Value) (hw : ∀ d ∈ tables_1, d.before a0 Z = true) (ws : List Jvm.Cond) (p1 : Int32) (p2 : Int32) (p3 : Int32) (h0 : Heap) (n0 : Nat) (Z0 : n0 ≤ h0.size) :
    MetFree l x (head1 (Jvm.Cond.code x code maxLocals ret :: ws) room_1) (fun a U => a = #[(.int p1), (.int p2), (.int p3)] ∧ Z.Warmed39 U.vm ∧ U.heap = h0) (fun _ _ _ _ _ => True) (fun _ U o U' => ∃ v L, o = .returned v ∧ Q0 Z p1 p2 p3 h0 n0 v U'.heap L ∧ FrameEnd U o U' L room_1.cells room_1.slots) := by
  refine MetFree.of_bodySF (plainFor_of_name pn_0) hisR ?_
  intro p e s m args below meth c s₁ Bd hml0 hP hK
  obtain ⟨rfl, hZ, hh⟩ := hP
  have hx := Bd.exec
  have hby := Bd.bytes
  have hml : c.maxLocals = 13 := hml0
  have hown : s.vm.findClass "com/example/fama/fama/table/JsonLineAtStructurePinLaw" = some m.cls := findClass_of_methodNamed Bd.named
  have hnm := (name_of_methodNamed Bd.named Bd.method).1
  have X0 : Stand p l e room_1 s m #[(.int p1), (.int p2), (.int p3)] below meth c s₁ [] 0 0 := Stand.of_body Bd
  have e0 : s₁.heap = h0 := by rw [← hh, Bd.state]; rfl
  have N0 := Fr.nil n0
  have pre0 : ∀ t, Steps p.tables e below (s₁.setTop (mkF m 0 #[.val (.int p1), .val (.int p2), .val (.int p3), .unset, .unset, .unset, .unset, .unset, .unset, .unset, .unset, .unset, .unset] [])) t → Steps p.tables e below (s₁.setTop (entryFrame m #[(.int p1), (.int p2), (.int p3)] maxLocals)) t := fun t k => castTop (ef_0 m p1 p2 p3) k
  obtain ⟨T1, gh1, k1, X1, hE1, E1, A1, st1⟩ := newP X0 hx hZ (hw _ (List.mem_of_getElem? (i := 0) rfl)) e0 (g := (mkF m 1 #[.val (.int p1), .val (.int p2), .val (.int p3), .unset, .unset, .unset, .unset, .unset, .unset, .unset, .unset, .unset, .unset] [(.int (4 : Int32))])) rfl (hb hby at_1) rfl (by decide) (cap := 4) (by decide) (by decide) (by decide) (by decide)
  obtain ⟨ab, g1⟩ : ∃ z, z = h0.size := ⟨_, rfl⟩
  rw [← g1] at A1 st1
  have g_ab : n0 ≤ ab := Nat.le_trans Z0 (Nat.le_of_eq g1.symm)
  have Z2 := Nat.le_trans Z0 E1.1
  have V1 : owAI Z gh1 ab .byte 4 (fun _ => 0) := owAI.new A1 rfl rfl
  obtain ⟨T3, gh3, X3, hE3, W3, V3, st3⟩ := owStB X1 hx hZ hE1 V1 (k := 0) (j := (0 : Int32)) rfl (by decide) (g := (mkF m 8 #[.val (.int p1), .val (.int p2), .val (.int p3), .val (.ref ab), .unset, .unset, .unset, .unset, .unset, .unset, .unset, .unset, .unset] [(.int (p1.toInt8.toInt32)), (.int (0 : Int32)), (.ref ab)])) rfl rfl (hb hby at_8)
  have Z5 := Nat.le_trans Z2 (Keep.of_wr W3).1
  have N6 := Fr.snoc X3 N0 g_ab
  obtain ⟨T7, gh7, X7, hE7, W7, V7, st7⟩ := owStB X3 hx hZ hE3 V3 (k := 1) (j := (1 : Int32)) rfl (by decide) (g := (mkF m 16 #[.val (.int p1), .val (.int p2), .val (.int p3), .val (.ref ab), .unset, .unset, .unset, .unset, .unset, .unset, .unset, .unset, .unset] [(.int ((p1 >>> ((8 : Int32) &&& 31)).toInt8.toInt32)), (.int (1 : Int32)), (.ref ab)])) rfl rfl (hb hby at_16)
  have Z9 := Nat.le_trans Z5 (Keep.of_wr W7).1
  have N10 := Fr.snoc X7 N6 g_ab
  obtain ⟨T11, gh11, X11, hE11, W11, V11, st11⟩ := owStB X7 hx hZ hE7 V7 (k := 2) (j := (2 : Int32)) rfl (by decide) (g := (mkF m 24 #[.val (.int p1), .val (.int p2), .val (.int p3), .val (.ref ab), .unset, .unset, .unset, .unset, .unset, .unset, .unset, .unset, .unset] [(.int ((p1 >>> ((16 : Int32) &&& 31)).toInt8.toInt32)), (.int (2 : Int32)), (.ref ab)])) rfl rfl (hb hby at_24)
  have Z13 := Nat.le_trans Z9 (Keep.of_wr W11).1
  have N14 := Fr.snoc X11 N10 g_ab
  obtain ⟨T15, gh15, X15, hE15, W15, V15, st15⟩ := owStB X11 hx hZ hE11 V11 (k := 3) (j := (3 : Int32)) rfl (by decide) (g := (mkF m 32 #[.val (.int p1), .val (.int p2), .val (.int p3), .val (.ref ab), .unset, .unset, .unset, .unset, .unset, .unset, .unset, .unset, .unset] [(.int (((p1.toUInt32 >>> ((24 : Int32) &&& 31).toUInt32).toInt32).toInt8.toInt32)), (.int (3 : Int32)), (.ref ab)])) rfl rfl (hb hby at_32)
  have Z17 := Nat.le_trans Z13 (Keep.of_wr W15).1
  have N18 := Fr.snoc X15 N14 g_ab
  obtain ⟨fb, h_fb⟩ : ∃ g : Nat → Int32, g = (owUp (owUp (owUp (owUp (fun _ => 0) 0 ((p1.toInt8.toInt32).toInt8.toInt32)) 1 (((p1 >>> ((8 : Int32) &&& 31)).toInt8.toInt32).toInt8.toInt32)) 2 (((p1 >>> ((16 : Int32) &&& 31)).toInt8.toInt32).toInt8.toInt32)) 3 ((((p1.toUInt32 >>> ((24 : Int32) &&& 31).toUInt32).toInt32).toInt8.toInt32).toInt8.toInt32)) := ⟨_, rfl⟩
  rw [← h_fb] at V15
  have pre19 : ∀ t, Steps p.tables e below (T15.setTop (mkF m 39 #[.val (.int p1), .val (.int p2), .val (.int p3), .val (.ref ab), .unset, .unset, .unset, .unset, .unset, .unset, .unset, .unset, .unset] [(.int ((p2 &&& (7 : Int32)) % (5 : Int32)))])) t → Steps p.tables e below (s₁.setTop (entryFrame m #[(.int p1), (.int p2), (.int p3)] maxLocals)) t := by
    intro t kt
    refine pre0 _ ?_
    show Steps p.tables e below (s₁.setTop (mkF m 0 #[.val (.int p1), .val (.int p2), .val (.int p3), .unset, .unset, .unset, .unset, .unset, .unset, .unset, .unset, .unset, .unset] [])) _
    refine XS.iconst X0.here hx rfl (hb hby at_0) ?_
    show Steps p.tables e below (s₁.setTop (mkF m 1 #[.val (.int p1), .val (.int p2), .val (.int p3), .unset, .unset, .unset, .unset, .unset, .unset, .unset, .unset, .unset, .unset] [(.int (4 : Int32))])) _
    refine st1 _ ?_
    show Steps p.tables e below (T1.setTop (mkF m 3 #[.val (.int p1), .val (.int p2), .val (.int p3), .unset, .unset, .unset, .unset, .unset, .unset, .unset, .unset, .unset, .unset] [(.ref ab)])) _
    refine XS.astoreN X1.here hx rfl (hb hby at_3) rfl rfl (l' := #[.val (.int p1), .val (.int p2), .val (.int p3), .val (.ref ab), .unset, .unset, .unset, .unset, .unset, .unset, .unset, .unset, .unset]) rfl ?_
    show Steps p.tables e below (T1.setTop (mkF m 4 #[.val (.int p1), .val (.int p2), .val (.int p3), .val (.ref ab), .unset, .unset, .unset, .unset, .unset, .unset, .unset, .unset, .unset] [])) _
    refine XS.aloadN X1.here hx rfl (hb hby at_4) rfl rfl ?_
    show Steps p.tables e below (T1.setTop (mkF m 5 #[.val (.int p1), .val (.int p2), .val (.int p3), .val (.ref ab), .unset, .unset, .unset, .unset, .unset, .unset, .unset, .unset, .unset] [(.ref ab)])) _
    refine XS.iconst X1.here hx rfl (hb hby at_5) ?_
    show Steps p.tables e below (T1.setTop (mkF m 6 #[.val (.int p1), .val (.int p2), .val (.int p3), .val (.ref ab), .unset, .unset, .unset, .unset, .unset, .unset, .unset, .unset, .unset] [(.int (0 : Int32)), (.ref ab)])) _
    refine XS.iloadN X1.here hx rfl (hb hby at_6) rfl ?_
    show Steps p.tables e below (T1.setTop (mkF m 7 #[.val (.int p1), .val (.int p2), .val (.int p3), .val (.ref ab), .unset, .unset, .unset, .unset, .unset, .unset, .unset, .unset, .unset] [(.int p1), (.int (0 : Int32)), (.ref ab)])) _
    refine XS.i2b X1.here hx rfl (hb hby at_7) rfl ?_
    show Steps p.tables e below (T1.setTop (mkF m 8 #[.val (.int p1), .val (.int p2), .val (.int p3), .val (.ref ab), .unset, .unset, .unset, .unset, .unset, .unset, .unset, .unset, .unset] [(.int (p1.toInt8.toInt32)), (.int (0 : Int32)), (.ref ab)])) _
    refine st3 _ ?_
    show Steps p.tables e below (T3.setTop (mkF m 9 #[.val (.int p1), .val (.int p2), .val (.int p3), .val (.ref ab), .unset, .unset, .unset, .unset, .unset, .unset, .unset, .unset, .unset] [])) _
    refine XS.aloadN X3.here hx rfl (hb hby at_9) rfl rfl ?_
    show Steps p.tables e below (T3.setTop (mkF m 10 #[.val (.int p1), .val (.int p2), .val (.int p3), .val (.ref ab), .unset, .unset, .unset, .unset, .unset, .unset, .unset, .unset, .unset] [(.ref ab)])) _
    refine XS.iconst X3.here hx rfl (hb hby at_10) ?_
    show Steps p.tables e below (T3.setTop (mkF m 11 #[.val (.int p1), .val (.int p2), .val (.int p3), .val (.ref ab), .unset, .unset, .unset, .unset, .unset, .unset, .unset, .unset, .unset] [(.int (1 : Int32)), (.ref ab)])) _
    refine XS.iloadN X3.here hx rfl (hb hby at_11) rfl ?_
    show Steps p.tables e below (T3.setTop (mkF m 12 #[.val (.int p1), .val (.int p2), .val (.int p3), .val (.ref ab), .unset, .unset, .unset, .unset, .unset, .unset, .unset, .unset, .unset] [(.int p1), (.int (1 : Int32)), (.ref ab)])) _
    refine XS.bipush X3.here hx rfl (hb hby at_12) ?_
    show Steps p.tables e below (T3.setTop (mkF m 14 #[.val (.int p1), .val (.int p2), .val (.int p3), .val (.ref ab), .unset, .unset, .unset, .unset, .unset, .unset, .unset, .unset, .unset] [(.int (8 : Int32)), (.int p1), (.int (1 : Int32)), (.ref ab)])) _
    refine XS.ishr X3.here hx rfl (hb hby at_14) rfl ?_
    show Steps p.tables e below (T3.setTop (mkF m 15 #[.val (.int p1), .val (.int p2), .val (.int p3), .val (.ref ab), .unset, .unset, .unset, .unset, .unset, .unset, .unset, .unset, .unset] [(.int (p1 >>> ((8 : Int32) &&& 31))), (.int (1 : Int32)), (.ref ab)])) _
    refine XS.i2b X3.here hx rfl (hb hby at_15) rfl ?_
    show Steps p.tables e below (T3.setTop (mkF m 16 #[.val (.int p1), .val (.int p2), .val (.int p3), .val (.ref ab), .unset, .unset, .unset, .unset, .unset, .unset, .unset, .unset, .unset] [(.int ((p1 >>> ((8 : Int32) &&& 31)).toInt8.toInt32)), (.int (1 : Int32)), (.ref ab)])) _
    refine st7 _ ?_
    show Steps p.tables e below (T7.setTop (mkF m 17 #[.val (.int p1), .val (.int p2), .val (.int p3), .val (.ref ab), .unset, .unset, .unset, .unset, .unset, .unset, .unset, .unset, .unset] [])) _
    refine XS.aloadN X7.here hx rfl (hb hby at_17) rfl rfl ?_
    show Steps p.tables e below (T7.setTop (mkF m 18 #[.val (.int p1), .val (.int p2), .val (.int p3), .val (.ref ab), .unset, .unset, .unset, .unset, .unset, .unset, .unset, .unset, .unset] [(.ref ab)])) _
    refine XS.iconst X7.here hx rfl (hb hby at_18) ?_
    show Steps p.tables e below (T7.setTop (mkF m 19 #[.val (.int p1), .val (.int p2), .val (.int p3), .val (.ref ab), .unset, .unset, .unset, .unset, .unset, .unset, .unset, .unset, .unset] [(.int (2 : Int32)), (.ref ab)])) _
    refine XS.iloadN X7.here hx rfl (hb hby at_19) rfl ?_
    show Steps p.tables e below (T7.setTop (mkF m 20 #[.val (.int p1), .val (.int p2), .val (.int p3), .val (.ref ab), .unset, .unset, .unset, .unset, .unset, .unset, .unset, .unset, .unset] [(.int p1), (.int (2 : Int32)), (.ref ab)])) _
    refine XS.bipush X7.here hx rfl (hb hby at_20) ?_
    show Steps p.tables e below (T7.setTop (mkF m 22 #[.val (.int p1), .val (.int p2), .val (.int p3), .val (.ref ab), .unset, .unset, .unset, .unset, .unset, .unset, .unset, .unset, .unset] [(.int (16 : Int32)), (.int p1), (.int (2 : Int32)), (.ref ab)])) _
    refine XS.ishr X7.here hx rfl (hb hby at_22) rfl ?_
    show Steps p.tables e below (T7.setTop (mkF m 23 #[.val (.int p1), .val (.int p2), .val (.int p3), .val (.ref ab), .unset, .unset, .unset, .unset, .unset, .unset, .unset, .unset, .unset] [(.int (p1 >>> ((16 : Int32) &&& 31))), (.int (2 : Int32)), (.ref ab)])) _
    refine XS.i2b X7.here hx rfl (hb hby at_23) rfl ?_
    show Steps p.tables e below (T7.setTop (mkF m 24 #[.val (.int p1), .val (.int p2), .val (.int p3), .val (.ref ab), .unset, .unset, .unset, .unset, .unset, .unset, .unset, .unset, .unset] [(.int ((p1 >>> ((16 : Int32) &&& 31)).toInt8.toInt32)), (.int (2 : Int32)), (.ref ab)])) _
    refine st11 _ ?_
    show Steps p.tables e below (T11.setTop (mkF m 25 #[.val (.int p1), .val (.int p2), .val (.int p3), .val (.ref ab), .unset, .unset, .unset, .unset, .unset, .unset, .unset, .unset, .unset] [])) _
    refine XS.aloadN X11.here hx rfl (hb hby at_25) rfl rfl ?_
    show Steps p.tables e below (T11.setTop (mkF m 26 #[.val (.int p1), .val (.int p2), .val (.int p3), .val (.ref ab), .unset, .unset, .unset, .unset, .unset, .unset, .unset, .unset, .unset] [(.ref ab)])) _
    refine XS.iconst X11.here hx rfl (hb hby at_26) ?_
    show Steps p.tables e below (T11.setTop (mkF m 27 #[.val (.int p1), .val (.int p2), .val (.int p3), .val (.ref ab), .unset, .unset, .unset, .unset, .unset, .unset, .unset, .unset, .unset] [(.int (3 : Int32)), (.ref ab)])) _
    refine XS.iloadN X11.here hx rfl (hb hby at_27) rfl ?_
    show Steps p.tables e below (T11.setTop (mkF m 28 #[.val (.int p1), .val (.int p2), .val (.int p3), .val (.ref ab), .unset, .unset, .unset, .unset, .unset, .unset, .unset, .unset, .unset] [(.int p1), (.int (3 : Int32)), (.ref ab)])) _
    refine XS.bipush X11.here hx rfl (hb hby at_28) ?_
    show Steps p.tables e below (T11.setTop (mkF m 30 #[.val (.int p1), .val (.int p2), .val (.int p3), .val (.ref ab), .unset, .unset, .unset, .unset, .unset, .unset, .unset, .unset, .unset] [(.int (24 : Int32)), (.int p1), (.int (3 : Int32)), (.ref ab)])) _
    refine XS.iushr X11.here hx rfl (hb hby at_30) rfl ?_
    show Steps p.tables e below (T11.setTop (mkF m 31 #[.val (.int p1), .val (.int p2), .val (.int p3), .val (.ref ab), .unset, .unset, .unset, .unset, .unset, .unset, .unset, .unset, .unset] [(.int ((p1.toUInt32 >>> ((24 : Int32) &&& 31).toUInt32).toInt32)), (.int (3 : Int32)), (.ref ab)])) _
    refine XS.i2b X11.here hx rfl (hb hby at_31) rfl ?_
    show Steps p.tables e below (T11.setTop (mkF m 32 #[.val (.int p1), .val (.int p2), .val (.int p3), .val (.ref ab), .unset, .unset, .unset, .unset, .unset, .unset, .unset, .unset, .unset] [(.int (((p1.toUInt32 >>> ((24 : Int32) &&& 31).toUInt32).toInt32).toInt8.toInt32)), (.int (3 : Int32)), (.ref ab)])) _
    refine st15 _ ?_
    show Steps p.tables e below (T15.setTop (mkF m 33 #[.val (.int p1), .val (.int p2), .val (.int p3), .val (.ref ab), .unset, .unset, .unset, .unset, .unset, .unset, .unset, .unset, .unset] [])) _
    refine XS.iloadN X15.here hx rfl (hb hby at_33) rfl ?_
    show Steps p.tables e below (T15.setTop (mkF m 34 #[.val (.int p1), .val (.int p2), .val (.int p3), .val (.ref ab), .unset, .unset, .unset, .unset, .unset, .unset, .unset, .unset, .unset] [(.int p2)])) _
    refine XS.bipush X15.here hx rfl (hb hby at_34) ?_
    show Steps p.tables e below (T15.setTop (mkF m 36 #[.val (.int p1), .val (.int p2), .val (.int p3), .val (.ref ab), .unset, .unset, .unset, .unset, .unset, .unset, .unset, .unset, .unset] [(.int (7 : Int32)), (.int p2)])) _
    refine XS.iand X15.here hx rfl (hb hby at_36) rfl ?_
    show Steps p.tables e below (T15.setTop (mkF m 37 #[.val (.int p1), .val (.int p2), .val (.int p3), .val (.ref ab), .unset, .unset, .unset, .unset, .unset, .unset, .unset, .unset, .unset] [(.int (p2 &&& (7 : Int32)))])) _
    refine XS.iconst X15.here hx rfl (hb hby at_37) ?_
    show Steps p.tables e below (T15.setTop (mkF m 38 #[.val (.int p1), .val (.int p2), .val (.int p3), .val (.ref ab), .unset, .unset, .unset, .unset, .unset, .unset, .unset, .unset, .unset] [(.int (5 : Int32)), (.int (p2 &&& (7 : Int32)))])) _
    refine iremM (g := (mkF m 38 #[.val (.int p1), .val (.int p2), .val (.int p3), .val (.ref ab), .unset, .unset, .unset, .unset, .unset, .unset, .unset, .unset, .unset] [(.int (5 : Int32)), (.int (p2 &&& (7 : Int32)))])) X15 hx rfl (hb hby at_38) rfl (by decide) ?_
    exact kt
  obtain ⟨st, h_st⟩ : ∃ z : Int32, z = ((p2 &&& (7 : Int32)) % (5 : Int32)) := ⟨_, rfl⟩
  have pre20 : ∀ t, Steps p.tables e below (T15.setTop (mkF m 39 #[.val (.int p1), .val (.int p2), .val (.int p3), .val (.ref ab), .unset, .unset, .unset, .unset, .unset, .unset, .unset, .unset, .unset] [(.int st)])) t → Steps p.tables e below (s₁.setTop (entryFrame m #[(.int p1), (.int p2), (.int p3)] maxLocals)) t := by
    intro t kt
    rw [h_st] at kt
    exact pre19 _ kt
  have pre21 : ∀ t, Steps p.tables e below (T15.setTop (mkF m 47 #[.val (.int p1), .val (.int p2), .val (.int p3), .val (.ref ab), .val (.int st), .unset, .unset, .unset, .unset, .unset, .unset, .unset, .unset] [(.int ((p3 &&& (7 : Int32)) % (5 : Int32)))])) t → Steps p.tables e below (s₁.setTop (entryFrame m #[(.int p1), (.int p2), (.int p3)] maxLocals)) t := by
    intro t kt
    refine pre20 _ ?_
    show Steps p.tables e below (T15.setTop (mkF m 39 #[.val (.int p1), .val (.int p2), .val (.int p3), .val (.ref ab), .unset, .unset, .unset, .unset, .unset, .unset, .unset, .unset, .unset] [(.int st)])) _
    refine XS.istore X15.here hx rfl (hb hby at_39) rfl (l' := #[.val (.int p1), .val (.int p2), .val (.int p3), .val (.ref ab), .val (.int st), .unset, .unset, .unset, .unset, .unset, .unset, .unset, .unset]) rfl ?_
    show Steps p.tables e below (T15.setTop (mkF m 41 #[.val (.int p1), .val (.int p2), .val (.int p3), .val (.ref ab), .val (.int st), .unset, .unset, .unset, .unset, .unset, .unset, .unset, .unset] [])) _
    refine XS.iloadN X15.here hx rfl (hb hby at_41) rfl ?_
    show Steps p.tables e below (T15.setTop (mkF m 42 #[.val (.int p1), .val (.int p2), .val (.int p3), .val (.ref ab), .val (.int st), .unset, .unset, .unset, .unset, .unset, .unset, .unset, .unset] [(.int p3)])) _
    refine XS.bipush X15.here hx rfl (hb hby at_42) ?_
    show Steps p.tables e below (T15.setTop (mkF m 44 #[.val (.int p1), .val (.int p2), .val (.int p3), .val (.ref ab), .val (.int st), .unset, .unset, .unset, .unset, .unset, .unset, .unset, .unset] [(.int (7 : Int32)), (.int p3)])) _
    refine XS.iand X15.here hx rfl (hb hby at_44) rfl ?_
    show Steps p.tables e below (T15.setTop (mkF m 45 #[.val (.int p1), .val (.int p2), .val (.int p3), .val (.ref ab), .val (.int st), .unset, .unset, .unset, .unset, .unset, .unset, .unset, .unset] [(.int (p3 &&& (7 : Int32)))])) _
    refine XS.iconst X15.here hx rfl (hb hby at_45) ?_
    show Steps p.tables e below (T15.setTop (mkF m 46 #[.val (.int p1), .val (.int p2), .val (.int p3), .val (.ref ab), .val (.int st), .unset, .unset, .unset, .unset, .unset, .unset, .unset, .unset] [(.int (5 : Int32)), (.int (p3 &&& (7 : Int32)))])) _
    refine iremM (g := (mkF m 46 #[.val (.int p1), .val (.int p2), .val (.int p3), .val (.ref ab), .val (.int st), .unset, .unset, .unset, .unset, .unset, .unset, .unset, .unset] [(.int (5 : Int32)), (.int (p3 &&& (7 : Int32)))])) X15 hx rfl (hb hby at_46) rfl (by decide) ?_
    exact kt
  obtain ⟨en, h_en⟩ : ∃ z : Int32, z = ((p3 &&& (7 : Int32)) % (5 : Int32)) := ⟨_, rfl⟩
  have pre22 : ∀ t, Steps p.tables e below (T15.setTop (mkF m 47 #[.val (.int p1), .val (.int p2), .val (.int p3), .val (.ref ab), .val (.int st), .unset, .unset, .unset, .unset, .unset, .unset, .unset, .unset] [(.int en)])) t → Steps p.tables e below (s₁.setTop (entryFrame m #[(.int p1), (.int p2), (.int p3)] maxLocals)) t := by
    intro t kt
    rw [h_en] at kt
    exact pre21 _ kt
  have r_st := own_r5 _ _ h_st
  have r_en := own_r5 _ _ h_en
  obtain ⟨sk, h_sk⟩ : ∃ k : Nat, st.toInt = (k : Int) := ⟨st.toInt.toNat, by omega⟩
  have hin : st < en → st.toInt = (sk : Int) ∧ sk < 4 := fun q => ⟨h_sk, by rw [Int32.lt_iff_toInt_lt] at q; omega⟩
  have hbyte := own_byte p1 fb h_fb
  obtain ⟨T23, gh23, X23, hE23, E23, A23, D23, -, st23⟩ := newO X15 hx hZ hown (hw _ (List.mem_of_getElem? (i := 1) rfl)) (hw _ (List.mem_of_getElem? (i := 2) rfl)) (hw _ (List.mem_of_getElem? (i := 3) rfl)) hE15 (g := (mkF m 49 #[.val (.int p1), .val (.int p2), .val (.int p3), .val (.ref ab), .val (.int st), .val (.int en), .unset, .unset, .unset, .unset, .unset, .unset, .unset] [])) rfl (hb hby at_49) (by decide) (by decide)
  obtain ⟨ob, g23⟩ : ∃ z, z = gh15.size := ⟨_, rfl⟩
  rw [← g23] at A23 D23 st23
  have ne_ab_ob : ab ≠ ob := Nat.ne_of_lt (Nat.lt_of_lt_of_le V15.lt (Nat.le_of_eq g23.symm))
  have g_ob : n0 ≤ ob := Nat.le_trans Z17 (Nat.le_of_eq g23.symm)
  have f24 := V15.ext E23
  have Z25 := Nat.le_trans Z17 E23.1
  have F_first_ob : Fld Z gh23 ob "com/example/fama/fama/table/JsonLine" "first" "Z" (.int (0 : Int32)) := D23 (Or.inl (hw _ (List.mem_of_getElem? (i := 11) rfl))) (ty := .boolean) (by decide)
  have F_bytes_ob : Fld Z gh23 ob "com/example/fama/fama/table/JsonLine" "bytes" "[B" .null := D23 (Or.inr (hw _ (List.mem_of_getElem? (i := 13) rfl))) (ty := (.array .byte)) (by decide)
  have F_start_ob : Fld Z gh23 ob "com/example/fama/fama/table/JsonLine" "start" "I" (.int (0 : Int32)) := D23 (Or.inr (hw _ (List.mem_of_getElem? (i := 15) rfl))) (ty := .int) (by decide)
  have F_end_ob : Fld Z gh23 ob "com/example/fama/fama/table/JsonLine" "end" "I" (.int (0 : Int32)) := D23 (Or.inr (hw _ (List.mem_of_getElem? (i := 17) rfl))) (ty := .int) (by decide)
  have F_at_ob : Fld Z gh23 ob "com/example/fama/fama/table/JsonLine" "at" "I" (.int (0 : Int32)) := D23 (Or.inl (hw _ (List.mem_of_getElem? (i := 19) rfl))) (ty := .int) (by decide)
  obtain ⟨_, _, ⟨T26, L26, k26, n26⟩, -, X26, ⟨Lc26, hQ26, l26, y26, z26⟩, st26⟩ := X23.specialBack hx (y := (⟨"com/example/fama/fama/table/JsonLine", "<init>", "([BII)V"⟩ : MethodName)) rfl hown (mvT hZ (hw _ (List.mem_of_getElem? (i := 4) rfl))) (mvT hZ (hw _ (List.mem_of_getElem? (i := 5) rfl))) (mvT hZ (hw _ (List.mem_of_getElem? (i := 6) rfl))) (by decide) (backOf (W := 1) (rm1 l Z a0 hw [] ob ab st en gh23 n0 Z25 A23 F_first_ob F_bytes_ob F_start_ob F_end_ob F_at_ob g_ob) hZ (hw _ (List.mem_of_getElem? (i := 6) rfl)) (hw _ (List.mem_of_getElem? (i := 3) rfl)) (by decide) (by decide)) (g := (mkF m 58 #[.val (.int p1), .val (.int p2), .val (.int p3), .val (.ref ab), .val (.int st), .val (.int en), .unset, .unset, .unset, .unset, .unset, .unset, .unset] [(.int en), (.int st), (.ref ab), (.ref ob), (.ref ob)])) rfl (by rw [hml]; rfl) (Steps.refl _) (a := ob) (argsL := [(.ref ab), (.int st), (.int en)]) (rest := [(.ref ob)]) (lenOf pd_0 rfl) rfl (by show 2 * 0 + _ ≤ _; exact Nat.le_of_eq rfl) (hb hby at_58) (fun _ _ => ⟨rfl, hE23, (by decide : 2 + 0 ≤ _), (by decide : 9 + 0 ≤ _)⟩)
  dsimp only [Pt.U, Pt.locs, Pt.cells, Pt.slots] at X26 l26 y26 z26 st26 hQ26
  subst l26 y26 z26
  obtain ⟨rfl, N26q, K26, p26_0, p26_1, p26_2, p26_3, p26_4, p26_5⟩ := hQ26
  have N26 := Fr.app N18 N26q
  have f27 := f24.keep K26 (ninS ne_ab_ob nin0)
  have f28 := A23.keep K26
  have Z34 := Nat.le_trans Z25 K26.1
  obtain ⟨cq35, kq35, q35a, q35b, q35c⟩ := isOf hZ rfl p26_0
  obtain ⟨_, _, ⟨T35, L35, k35, n35⟩, -, X35, ⟨Lc35, hQ35, l35, y35, z35⟩, st35⟩ := X26.virtualBack hx (y := (⟨"com/example/fama/fama/table/JsonLine", "atStructure", "()Z"⟩ : MethodName)) (z := (⟨"com/example/fama/fama/table/JsonLine", "atStructure", "()Z"⟩ : MethodName)) hown (mvT hZ (hw _ (List.mem_of_getElem? (i := 20) rfl))) (mvT hZ (hw _ (List.mem_of_getElem? (i := 21) rfl))) (notFace_of_selects (args := #[]) (mvT hZ (hw _ (List.mem_of_getElem? (i := 23) rfl)))) (mvT hZ (hw _ (List.mem_of_getElem? (i := 23) rfl))) (mvT hZ (hw _ (List.mem_of_getElem? (i := 22) rfl))) (by decide) (backOf (W := 0) (rm3 l Z a0 hw [] ob ab st en 4 fb sk T26.heap n0 Z34 p26_5 p26_4 p26_2 f27 hin) hZ (hw _ (List.mem_of_getElem? (i := 24) rfl)) (hw _ (List.mem_of_getElem? (i := 3) rfl)) (by decide) (by decide)) q35a q35c (g := (mkF m 65 #[.val (.int p1), .val (.int p2), .val (.int p3), .val (.ref ab), .val (.int st), .val (.int en), .val (.ref ob), .unset, .unset, .unset, .unset, .unset, .unset] [(.ref ob)])) rfl (by rw [hml]; rfl) (Steps.refl _) (argsL := []) (rest := []) (lenOf pd_1 rfl) rfl (by show 2 * 0 + _ ≤ _; exact Nat.le_of_eq rfl) (hb hby at_65) (fun _ _ => ⟨rfl, rfl, (by decide : 2 + 0 ≤ _), (by decide : 9 + 0 ≤ _)⟩)
  dsimp only [Pt.U, Pt.locs, Pt.cells, Pt.slots] at X35 l35 y35 z35 st35 hQ35
  subst l35 y35 z35
  obtain ⟨rfl, N35q, hE35⟩ := hQ35
  have N35 := Fr.app N26 N35q
  have pre36 : ∀ t, Steps p.tables e below (T35.setTop (mkF m 68 #[.val (.int p1), .val (.int p2), .val (.int p3), .val (.ref ab), .val (.int st), .val (.int en), .val (.ref ob), .unset, .unset, .unset, .unset, .unset, .unset] [(.int (fn3 ob ab st en 4 fb sk))])) t → Steps p.tables e below (s₁.setTop (entryFrame m #[(.int p1), (.int p2), (.int p3)] maxLocals)) t := by
    intro t kt
    refine pre22 _ ?_
    show Steps p.tables e below (T15.setTop (mkF m 47 #[.val (.int p1), .val (.int p2), .val (.int p3), .val (.ref ab), .val (.int st), .unset, .unset, .unset, .unset, .unset, .unset, .unset, .unset] [(.int en)])) _
    refine XS.istore X15.here hx rfl (hb hby at_47) rfl (l' := #[.val (.int p1), .val (.int p2), .val (.int p3), .val (.ref ab), .val (.int st), .val (.int en), .unset, .unset, .unset, .unset, .unset, .unset, .unset]) rfl ?_
    show Steps p.tables e below (T15.setTop (mkF m 49 #[.val (.int p1), .val (.int p2), .val (.int p3), .val (.ref ab), .val (.int st), .val (.int en), .unset, .unset, .unset, .unset, .unset, .unset, .unset] [])) _
    refine st23 _ ?_
    show Steps p.tables e below (T23.setTop (mkF m 52 #[.val (.int p1), .val (.int p2), .val (.int p3), .val (.ref ab), .val (.int st), .val (.int en), .unset, .unset, .unset, .unset, .unset, .unset, .unset] [(.ref ob)])) _
    refine XS.dup X23.here hx rfl (hb hby at_52) rfl rfl ?_
    show Steps p.tables e below (T23.setTop (mkF m 53 #[.val (.int p1), .val (.int p2), .val (.int p3), .val (.ref ab), .val (.int st), .val (.int en), .unset, .unset, .unset, .unset, .unset, .unset, .unset] [(.ref ob), (.ref ob)])) _
    refine XS.aloadN X23.here hx rfl (hb hby at_53) rfl rfl ?_
    show Steps p.tables e below (T23.setTop (mkF m 54 #[.val (.int p1), .val (.int p2), .val (.int p3), .val (.ref ab), .val (.int st), .val (.int en), .unset, .unset, .unset, .unset, .unset, .unset, .unset] [(.ref ab), (.ref ob), (.ref ob)])) _
    refine XS.iload X23.here hx rfl (hb hby at_54) rfl ?_
    show Steps p.tables e below (T23.setTop (mkF m 56 #[.val (.int p1), .val (.int p2), .val (.int p3), .val (.ref ab), .val (.int st), .val (.int en), .unset, .unset, .unset, .unset, .unset, .unset, .unset] [(.int st), (.ref ab), (.ref ob), (.ref ob)])) _
    refine XS.iload X23.here hx rfl (hb hby at_56) rfl ?_
    show Steps p.tables e below (T23.setTop (mkF m 58 #[.val (.int p1), .val (.int p2), .val (.int p3), .val (.ref ab), .val (.int st), .val (.int en), .unset, .unset, .unset, .unset, .unset, .unset, .unset] [(.int en), (.int st), (.ref ab), (.ref ob), (.ref ob)])) _
    refine st26.trans ?_
    show Steps p.tables e below (T26.setTop (mkF m 61 #[.val (.int p1), .val (.int p2), .val (.int p3), .val (.ref ab), .val (.int st), .val (.int en), .unset, .unset, .unset, .unset, .unset, .unset, .unset] [(.ref ob)])) _
    refine XS.astore X26.here hx rfl (hb hby at_61) rfl rfl (l' := #[.val (.int p1), .val (.int p2), .val (.int p3), .val (.ref ab), .val (.int st), .val (.int en), .val (.ref ob), .unset, .unset, .unset, .unset, .unset, .unset]) rfl ?_
    show Steps p.tables e below (T26.setTop (mkF m 63 #[.val (.int p1), .val (.int p2), .val (.int p3), .val (.ref ab), .val (.int st), .val (.int en), .val (.ref ob), .unset, .unset, .unset, .unset, .unset, .unset] [])) _
    refine XS.aload X26.here hx rfl (hb hby at_63) rfl rfl ?_
    show Steps p.tables e below (T26.setTop (mkF m 65 #[.val (.int p1), .val (.int p2), .val (.int p3), .val (.ref ab), .val (.int st), .val (.int en), .val (.ref ob), .unset, .unset, .unset, .unset, .unset, .unset] [(.ref ob)])) _
    refine st35.trans ?_
    exact kt
  obtain ⟨fi, h_fi⟩ : ∃ z : Int32, z = (fn3 ob ab st en 4 fb sk) := ⟨_, rfl⟩
  have pre37 : ∀ t, Steps p.tables e below (T35.setTop (mkF m 68 #[.val (.int p1), .val (.int p2), .val (.int p3), .val (.ref ab), .val (.int st), .val (.int en), .val (.ref ob), .unset, .unset, .unset, .unset, .unset, .unset] [(.int fi)])) t → Steps p.tables e below (s₁.setTop (entryFrame m #[(.int p1), (.int p2), (.int p3)] maxLocals)) t := by
    intro t kt
    rw [h_fi] at kt
    exact pre36 _ kt
  obtain ⟨cq38, kq38, q38a, q38b, q38c⟩ := isOf hZ hE35 p26_0
  obtain ⟨_, _, ⟨T38, L38, k38, n38⟩, -, X38, ⟨Lc38, hQ38, l38, y38, z38⟩, st38⟩ := X35.virtualBack hx (y := (⟨"com/example/fama/fama/table/JsonLine", "atStructure", "()Z"⟩ : MethodName)) (z := (⟨"com/example/fama/fama/table/JsonLine", "atStructure", "()Z"⟩ : MethodName)) hown (mvT hZ (hw _ (List.mem_of_getElem? (i := 20) rfl))) (mvT hZ (hw _ (List.mem_of_getElem? (i := 21) rfl))) (notFace_of_selects (args := #[]) (mvT hZ (hw _ (List.mem_of_getElem? (i := 23) rfl)))) (mvT hZ (hw _ (List.mem_of_getElem? (i := 23) rfl))) (mvT hZ (hw _ (List.mem_of_getElem? (i := 22) rfl))) (by decide) (backOf (W := 0) (rm3 l Z a0 hw [] ob ab st en 4 fb sk T26.heap n0 Z34 p26_5 p26_4 p26_2 f27 hin) hZ (hw _ (List.mem_of_getElem? (i := 24) rfl)) (hw _ (List.mem_of_getElem? (i := 3) rfl)) (by decide) (by decide)) q38a q38c (g := (mkF m 72 #[.val (.int p1), .val (.int p2), .val (.int p3), .val (.ref ab), .val (.int st), .val (.int en), .val (.ref ob), .val (.int fi), .unset, .unset, .unset, .unset, .unset] [(.ref ob)])) rfl (by rw [hml]; rfl) (Steps.refl _) (argsL := []) (rest := []) (lenOf pd_1 rfl) rfl (by show 2 * 0 + _ ≤ _; exact Nat.le_of_eq rfl) (hb hby at_72) (fun _ _ => ⟨rfl, hE35, (by decide : 2 + 0 ≤ _), (by decide : 9 + 0 ≤ _)⟩)
  dsimp only [Pt.U, Pt.locs, Pt.cells, Pt.slots] at X38 l38 y38 z38 st38 hQ38
  subst l38 y38 z38
  obtain ⟨rfl, N38q, hE38⟩ := hQ38
  have N38 := Fr.app N35 N38q
  have pre39 : ∀ t, Steps p.tables e below (T38.setTop (mkF m 75 #[.val (.int p1), .val (.int p2), .val (.int p3), .val (.ref ab), .val (.int st), .val (.int en), .val (.ref ob), .val (.int fi), .unset, .unset, .unset, .unset, .unset] [(.int (fn3 ob ab st en 4 fb sk))])) t → Steps p.tables e below (s₁.setTop (entryFrame m #[(.int p1), (.int p2), (.int p3)] maxLocals)) t := by
    intro t kt
    refine pre37 _ ?_
    show Steps p.tables e below (T35.setTop (mkF m 68 #[.val (.int p1), .val (.int p2), .val (.int p3), .val (.ref ab), .val (.int st), .val (.int en), .val (.ref ob), .unset, .unset, .unset, .unset, .unset, .unset] [(.int fi)])) _
    refine XS.istore X35.here hx rfl (hb hby at_68) rfl (l' := #[.val (.int p1), .val (.int p2), .val (.int p3), .val (.ref ab), .val (.int st), .val (.int en), .val (.ref ob), .val (.int fi), .unset, .unset, .unset, .unset, .unset]) rfl ?_
    show Steps p.tables e below (T35.setTop (mkF m 70 #[.val (.int p1), .val (.int p2), .val (.int p3), .val (.ref ab), .val (.int st), .val (.int en), .val (.ref ob), .val (.int fi), .unset, .unset, .unset, .unset, .unset] [])) _
    refine XS.aload X35.here hx rfl (hb hby at_70) rfl rfl ?_
    show Steps p.tables e below (T35.setTop (mkF m 72 #[.val (.int p1), .val (.int p2), .val (.int p3), .val (.ref ab), .val (.int st), .val (.int en), .val (.ref ob), .val (.int fi), .unset, .unset, .unset, .unset, .unset] [(.ref ob)])) _
    refine st38.trans ?_
    exact kt
  obtain ⟨se, h_se⟩ : ∃ z : Int32, z = (fn3 ob ab st en 4 fb sk) := ⟨_, rfl⟩
  have pre40 : ∀ t, Steps p.tables e below (T38.setTop (mkF m 75 #[.val (.int p1), .val (.int p2), .val (.int p3), .val (.ref ab), .val (.int st), .val (.int en), .val (.ref ob), .val (.int fi), .unset, .unset, .unset, .unset, .unset] [(.int se)])) t → Steps p.tables e below (s₁.setTop (entryFrame m #[(.int p1), (.int p2), (.int p3)] maxLocals)) t := by
    intro t kt
    rw [h_se] at kt
    exact pre39 _ kt
  obtain ⟨cq41, kq41, q41a, q41b, q41c⟩ := isOf hZ hE38 p26_0
  obtain ⟨_, _, ⟨T41, L41, k41, n41⟩, -, X41, ⟨Lc41, hQ41, l41, y41, z41⟩, st41⟩ := X38.virtualBack hx (y := (⟨"com/example/fama/fama/table/JsonLine", "atString", "()Z"⟩ : MethodName)) (z := (⟨"com/example/fama/fama/table/JsonLine", "atString", "()Z"⟩ : MethodName)) hown (mvT hZ (hw _ (List.mem_of_getElem? (i := 25) rfl))) (mvT hZ (hw _ (List.mem_of_getElem? (i := 26) rfl))) (notFace_of_selects (args := #[]) (mvT hZ (hw _ (List.mem_of_getElem? (i := 28) rfl)))) (mvT hZ (hw _ (List.mem_of_getElem? (i := 28) rfl))) (mvT hZ (hw _ (List.mem_of_getElem? (i := 27) rfl))) (by decide) (backOf (W := 0) (rm4 l Z a0 hw [] ob ab st en 4 fb sk T26.heap n0 Z34 p26_5 p26_4 p26_2 f27 hin) hZ (hw _ (List.mem_of_getElem? (i := 29) rfl)) (hw _ (List.mem_of_getElem? (i := 3) rfl)) (by decide) (by decide)) q41a q41c (g := (mkF m 79 #[.val (.int p1), .val (.int p2), .val (.int p3), .val (.ref ab), .val (.int st), .val (.int en), .val (.ref ob), .val (.int fi), .val (.int se), .unset, .unset, .unset, .unset] [(.ref ob)])) rfl (by rw [hml]; rfl) (Steps.refl _) (argsL := []) (rest := []) (lenOf pd_1 rfl) rfl (by show 2 * 0 + _ ≤ _; exact Nat.le_of_eq rfl) (hb hby at_79) (fun _ _ => ⟨rfl, hE38, (by decide : 2 + 0 ≤ _), (by decide : 9 + 0 ≤ _)⟩)
  dsimp only [Pt.U, Pt.locs, Pt.cells, Pt.slots] at X41 l41 y41 z41 st41 hQ41
  subst l41 y41 z41
  obtain ⟨rfl, N41q, hE41⟩ := hQ41
  have N41 := Fr.app N38 N41q
  have pre42 : ∀ t, Steps p.tables e below (T41.setTop (mkF m 82 #[.val (.int p1), .val (.int p2), .val (.int p3), .val (.ref ab), .val (.int st), .val (.int en), .val (.ref ob), .val (.int fi), .val (.int se), .unset, .unset, .unset, .unset] [(.int (fn4 ob ab st en 4 fb sk))])) t → Steps p.tables e below (s₁.setTop (entryFrame m #[(.int p1), (.int p2), (.int p3)] maxLocals)) t := by
    intro t kt
    refine pre40 _ ?_
    show Steps p.tables e below (T38.setTop (mkF m 75 #[.val (.int p1), .val (.int p2), .val (.int p3), .val (.ref ab), .val (.int st), .val (.int en), .val (.ref ob), .val (.int fi), .unset, .unset, .unset, .unset, .unset] [(.int se)])) _
    refine XS.istore X38.here hx rfl (hb hby at_75) rfl (l' := #[.val (.int p1), .val (.int p2), .val (.int p3), .val (.ref ab), .val (.int st), .val (.int en), .val (.ref ob), .val (.int fi), .val (.int se), .unset, .unset, .unset, .unset]) rfl ?_
    show Steps p.tables e below (T38.setTop (mkF m 77 #[.val (.int p1), .val (.int p2), .val (.int p3), .val (.ref ab), .val (.int st), .val (.int en), .val (.ref ob), .val (.int fi), .val (.int se), .unset, .unset, .unset, .unset] [])) _
    refine XS.aload X38.here hx rfl (hb hby at_77) rfl rfl ?_
    show Steps p.tables e below (T38.setTop (mkF m 79 #[.val (.int p1), .val (.int p2), .val (.int p3), .val (.ref ab), .val (.int st), .val (.int en), .val (.ref ob), .val (.int fi), .val (.int se), .unset, .unset, .unset, .unset] [(.ref ob)])) _
    refine st41.trans ?_
    exact kt
  obtain ⟨sr, h_sr⟩ : ∃ z : Int32, z = (fn4 ob ab st en 4 fb sk) := ⟨_, rfl⟩
  have pre43 : ∀ t, Steps p.tables e below (T41.setTop (mkF m 82 #[.val (.int p1), .val (.int p2), .val (.int p3), .val (.ref ab), .val (.int st), .val (.int en), .val (.ref ob), .val (.int fi), .val (.int se), .unset, .unset, .unset, .unset] [(.int sr)])) t → Steps p.tables e below (s₁.setTop (entryFrame m #[(.int p1), (.int p2), (.int p3)] maxLocals)) t := by
    intro t kt
    rw [h_sr] at kt
    exact pre42 _ kt
  have pre44 : ∀ t, Steps p.tables e below (T41.setTop (mkF m 94 #[.val (.int p1), .val (.int p2), .val (.int p3), .val (.ref ab), .val (.int st), .val (.int en), .val (.ref ob), .val (.int fi), .val (.int se), .val (.int sr), .val (.int (0 : Int32)), .val (.int (0 : Int32)), .unset] [(.int en), (.int st)])) t → Steps p.tables e below (s₁.setTop (entryFrame m #[(.int p1), (.int p2), (.int p3)] maxLocals)) t := by
    intro t kt
    refine pre43 _ ?_
    show Steps p.tables e below (T41.setTop (mkF m 82 #[.val (.int p1), .val (.int p2), .val (.int p3), .val (.ref ab), .val (.int st), .val (.int en), .val (.ref ob), .val (.int fi), .val (.int se), .unset, .unset, .unset, .unset] [(.int sr)])) _
    refine XS.istore X41.here hx rfl (hb hby at_82) rfl (l' := #[.val (.int p1), .val (.int p2), .val (.int p3), .val (.ref ab), .val (.int st), .val (.int en), .val (.ref ob), .val (.int fi), .val (.int se), .val (.int sr), .unset, .unset, .unset]) rfl ?_
    show Steps p.tables e below (T41.setTop (mkF m 84 #[.val (.int p1), .val (.int p2), .val (.int p3), .val (.ref ab), .val (.int st), .val (.int en), .val (.ref ob), .val (.int fi), .val (.int se), .val (.int sr), .unset, .unset, .unset] [])) _
    refine XS.iconst X41.here hx rfl (hb hby at_84) ?_
    show Steps p.tables e below (T41.setTop (mkF m 85 #[.val (.int p1), .val (.int p2), .val (.int p3), .val (.ref ab), .val (.int st), .val (.int en), .val (.ref ob), .val (.int fi), .val (.int se), .val (.int sr), .unset, .unset, .unset] [(.int (0 : Int32))])) _
    refine XS.istore X41.here hx rfl (hb hby at_85) rfl (l' := #[.val (.int p1), .val (.int p2), .val (.int p3), .val (.ref ab), .val (.int st), .val (.int en), .val (.ref ob), .val (.int fi), .val (.int se), .val (.int sr), .val (.int (0 : Int32)), .unset, .unset]) rfl ?_
    show Steps p.tables e below (T41.setTop (mkF m 87 #[.val (.int p1), .val (.int p2), .val (.int p3), .val (.ref ab), .val (.int st), .val (.int en), .val (.ref ob), .val (.int fi), .val (.int se), .val (.int sr), .val (.int (0 : Int32)), .unset, .unset] [])) _
    refine XS.iconst X41.here hx rfl (hb hby at_87) ?_
    show Steps p.tables e below (T41.setTop (mkF m 88 #[.val (.int p1), .val (.int p2), .val (.int p3), .val (.ref ab), .val (.int st), .val (.int en), .val (.ref ob), .val (.int fi), .val (.int se), .val (.int sr), .val (.int (0 : Int32)), .unset, .unset] [(.int (0 : Int32))])) _
    refine XS.istore X41.here hx rfl (hb hby at_88) rfl (l' := #[.val (.int p1), .val (.int p2), .val (.int p3), .val (.ref ab), .val (.int st), .val (.int en), .val (.ref ob), .val (.int fi), .val (.int se), .val (.int sr), .val (.int (0 : Int32)), .val (.int (0 : Int32)), .unset]) rfl ?_
    show Steps p.tables e below (T41.setTop (mkF m 90 #[.val (.int p1), .val (.int p2), .val (.int p3), .val (.ref ab), .val (.int st), .val (.int en), .val (.ref ob), .val (.int fi), .val (.int se), .val (.int sr), .val (.int (0 : Int32)), .val (.int (0 : Int32)), .unset] [])) _
    refine XS.iload X41.here hx rfl (hb hby at_90) rfl ?_
    show Steps p.tables e below (T41.setTop (mkF m 92 #[.val (.int p1), .val (.int p2), .val (.int p3), .val (.ref ab), .val (.int st), .val (.int en), .val (.ref ob), .val (.int fi), .val (.int se), .val (.int sr), .val (.int (0 : Int32)), .val (.int (0 : Int32)), .unset] [(.int st)])) _
    refine XS.iload X41.here hx rfl (hb hby at_92) rfl ?_
    exact kt
  by_cases hc94_45 : st < en
  · skip
    have pre46 : ∀ t, Steps p.tables e below (T41.setTop (mkF m 105 #[.val (.int p1), .val (.int p2), .val (.int p3), .val (.ref ab), .val (.int st), .val (.int en), .val (.ref ob), .val (.int fi), .val (.int se), .val (.int sr), .val (.int (0 : Int32)), .val (.int (0 : Int32)), .unset] [(.int ((fb sk) &&& (255 : Int32)))])) t → Steps p.tables e below (s₁.setTop (entryFrame m #[(.int p1), (.int p2), (.int p3)] maxLocals)) t := by
      intro t kt
      refine pre44 _ ?_
      show Steps p.tables e below (T41.setTop (mkF m 94 #[.val (.int p1), .val (.int p2), .val (.int p3), .val (.ref ab), .val (.int st), .val (.int en), .val (.ref ob), .val (.int fi), .val (.int se), .val (.int sr), .val (.int (0 : Int32)), .val (.int (0 : Int32)), .unset] [(.int en), (.int st)])) _
      refine XS.icmpNo X41.here hx rfl (hb hby at_94) rfl (XT.ii_ge_f hc94_45) ?_
      show Steps p.tables e below (T41.setTop (mkF m 97 #[.val (.int p1), .val (.int p2), .val (.int p3), .val (.ref ab), .val (.int st), .val (.int en), .val (.ref ob), .val (.int fi), .val (.int se), .val (.int sr), .val (.int (0 : Int32)), .val (.int (0 : Int32)), .unset] [])) _
      refine XS.aloadN X41.here hx rfl (hb hby at_97) rfl rfl ?_
      show Steps p.tables e below (T41.setTop (mkF m 98 #[.val (.int p1), .val (.int p2), .val (.int p3), .val (.ref ab), .val (.int st), .val (.int en), .val (.ref ob), .val (.int fi), .val (.int se), .val (.int sr), .val (.int (0 : Int32)), .val (.int (0 : Int32)), .unset] [(.ref ab)])) _
      refine XS.iload X41.here hx rfl (hb hby at_98) rfl ?_
      show Steps p.tables e below (T41.setTop (mkF m 100 #[.val (.int p1), .val (.int p2), .val (.int p3), .val (.ref ab), .val (.int st), .val (.int en), .val (.ref ob), .val (.int fi), .val (.int se), .val (.int sr), .val (.int (0 : Int32)), .val (.int (0 : Int32)), .unset] [(.int st), (.ref ab)])) _
      refine owLdB (k := sk) X41 hx hZ hE41 f27 (j := st) h_sk (hin hc94_45).2 (g := (mkF m 100 #[.val (.int p1), .val (.int p2), .val (.int p3), .val (.ref ab), .val (.int st), .val (.int en), .val (.ref ob), .val (.int fi), .val (.int se), .val (.int sr), .val (.int (0 : Int32)), .val (.int (0 : Int32)), .unset] [(.int st), (.ref ab)])) rfl rfl (hb hby at_100) _ ?_
      show Steps p.tables e below (T41.setTop (mkF m 101 #[.val (.int p1), .val (.int p2), .val (.int p3), .val (.ref ab), .val (.int st), .val (.int en), .val (.ref ob), .val (.int fi), .val (.int se), .val (.int sr), .val (.int (0 : Int32)), .val (.int (0 : Int32)), .unset] [(.int (fb sk))])) _
      refine XS.sipush X41.here hx rfl (hb hby at_101) ?_
      show Steps p.tables e below (T41.setTop (mkF m 104 #[.val (.int p1), .val (.int p2), .val (.int p3), .val (.ref ab), .val (.int st), .val (.int en), .val (.ref ob), .val (.int fi), .val (.int se), .val (.int sr), .val (.int (0 : Int32)), .val (.int (0 : Int32)), .unset] [(.int (255 : Int32)), (.int (fb sk))])) _
      refine XS.iand X41.here hx rfl (hb hby at_104) rfl ?_
      exact kt
    obtain ⟨cc, h_cc⟩ : ∃ z : Int32, z = ((fb sk) &&& (255 : Int32)) := ⟨_, rfl⟩
    have pre47 : ∀ t, Steps p.tables e below (T41.setTop (mkF m 105 #[.val (.int p1), .val (.int p2), .val (.int p3), .val (.ref ab), .val (.int st), .val (.int en), .val (.ref ob), .val (.int fi), .val (.int se), .val (.int sr), .val (.int (0 : Int32)), .val (.int (0 : Int32)), .unset] [(.int cc)])) t → Steps p.tables e below (s₁.setTop (entryFrame m #[(.int p1), (.int p2), (.int p3)] maxLocals)) t := by
      intro t kt
      rw [h_cc] at kt
      exact pre46 _ kt
    have pre48 : ∀ t, Steps p.tables e below (T41.setTop (mkF m 111 #[.val (.int p1), .val (.int p2), .val (.int p3), .val (.ref ab), .val (.int st), .val (.int en), .val (.ref ob), .val (.int fi), .val (.int se), .val (.int sr), .val (.int (0 : Int32)), .val (.int (0 : Int32)), .val (.int cc)] [(.int (123 : Int32)), (.int cc)])) t → Steps p.tables e below (s₁.setTop (entryFrame m #[(.int p1), (.int p2), (.int p3)] maxLocals)) t := by
      intro t kt
      refine pre47 _ ?_
      show Steps p.tables e below (T41.setTop (mkF m 105 #[.val (.int p1), .val (.int p2), .val (.int p3), .val (.ref ab), .val (.int st), .val (.int en), .val (.ref ob), .val (.int fi), .val (.int se), .val (.int sr), .val (.int (0 : Int32)), .val (.int (0 : Int32)), .unset] [(.int cc)])) _
      refine XS.istore X41.here hx rfl (hb hby at_105) rfl (l' := #[.val (.int p1), .val (.int p2), .val (.int p3), .val (.ref ab), .val (.int st), .val (.int en), .val (.ref ob), .val (.int fi), .val (.int se), .val (.int sr), .val (.int (0 : Int32)), .val (.int (0 : Int32)), .val (.int cc)]) rfl ?_
      show Steps p.tables e below (T41.setTop (mkF m 107 #[.val (.int p1), .val (.int p2), .val (.int p3), .val (.ref ab), .val (.int st), .val (.int en), .val (.ref ob), .val (.int fi), .val (.int se), .val (.int sr), .val (.int (0 : Int32)), .val (.int (0 : Int32)), .val (.int cc)] [])) _
      refine XS.iload X41.here hx rfl (hb hby at_107) rfl ?_
      show Steps p.tables e below (T41.setTop (mkF m 109 #[.val (.int p1), .val (.int p2), .val (.int p3), .val (.ref ab), .val (.int st), .val (.int en), .val (.ref ob), .val (.int fi), .val (.int se), .val (.int sr), .val (.int (0 : Int32)), .val (.int (0 : Int32)), .val (.int cc)] [(.int cc)])) _
      refine XS.bipush X41.here hx rfl (hb hby at_109) ?_
      exact kt
    obtain ⟨es, h_es⟩ : ∃ z : Int32, z = (if cc = (123 : Int32) then (1 : Int32) else (if cc = (91 : Int32) then (1 : Int32) else (0 : Int32))) := ⟨_, rfl⟩
    have pre51 : ∀ t, Steps p.tables e below (T41.setTop (mkF m 126 #[.val (.int p1), .val (.int p2), .val (.int p3), .val (.ref ab), .val (.int st), .val (.int en), .val (.ref ob), .val (.int fi), .val (.int se), .val (.int sr), .val (.int (0 : Int32)), .val (.int (0 : Int32)), .val (.int cc)] [(.int es)])) t → Steps p.tables e below (s₁.setTop (entryFrame m #[(.int p1), (.int p2), (.int p3)] maxLocals)) t := by
      intro t kt
      refine pre48 _ ?_
      by_cases hc111_49 : cc = (123 : Int32)
      · skip
        have q_es : es = (1 : Int32) := by rw [h_es, if_pos hc111_49]
        rw [q_es] at kt
        show Steps p.tables e below (T41.setTop (mkF m 111 #[.val (.int p1), .val (.int p2), .val (.int p3), .val (.ref ab), .val (.int st), .val (.int en), .val (.ref ob), .val (.int fi), .val (.int se), .val (.int sr), .val (.int (0 : Int32)), .val (.int (0 : Int32)), .val (.int cc)] [(.int (123 : Int32)), (.int cc)])) _
        refine XS.icmpYes X41.here hx rfl (pc0 := 111) (pc' := 121) rfl (hb hby at_111) rfl (XT.ii_eq_t hc111_49) (by decide) (by decide) ?_
        show Steps p.tables e below (T41.setTop (mkF m 121 #[.val (.int p1), .val (.int p2), .val (.int p3), .val (.ref ab), .val (.int st), .val (.int en), .val (.ref ob), .val (.int fi), .val (.int se), .val (.int sr), .val (.int (0 : Int32)), .val (.int (0 : Int32)), .val (.int cc)] [])) _
        refine XS.iconst X41.here hx rfl (hb hby at_121) ?_
        show Steps p.tables e below (T41.setTop (mkF m 122 #[.val (.int p1), .val (.int p2), .val (.int p3), .val (.ref ab), .val (.int st), .val (.int en), .val (.ref ob), .val (.int fi), .val (.int se), .val (.int sr), .val (.int (0 : Int32)), .val (.int (0 : Int32)), .val (.int cc)] [(.int (1 : Int32))])) _
        refine XS.goto X41.here hx rfl (pc0 := 122) (pc' := 126) rfl (hb hby at_122) (by decide) (by decide) ?_
        exact kt
      · skip
        show Steps p.tables e below (T41.setTop (mkF m 111 #[.val (.int p1), .val (.int p2), .val (.int p3), .val (.ref ab), .val (.int st), .val (.int en), .val (.ref ob), .val (.int fi), .val (.int se), .val (.int sr), .val (.int (0 : Int32)), .val (.int (0 : Int32)), .val (.int cc)] [(.int (123 : Int32)), (.int cc)])) _
        refine XS.icmpNo X41.here hx rfl (hb hby at_111) rfl (XT.ii_eq_f hc111_49) ?_
        show Steps p.tables e below (T41.setTop (mkF m 114 #[.val (.int p1), .val (.int p2), .val (.int p3), .val (.ref ab), .val (.int st), .val (.int en), .val (.ref ob), .val (.int fi), .val (.int se), .val (.int sr), .val (.int (0 : Int32)), .val (.int (0 : Int32)), .val (.int cc)] [])) _
        refine XS.iload X41.here hx rfl (hb hby at_114) rfl ?_
        show Steps p.tables e below (T41.setTop (mkF m 116 #[.val (.int p1), .val (.int p2), .val (.int p3), .val (.ref ab), .val (.int st), .val (.int en), .val (.ref ob), .val (.int fi), .val (.int se), .val (.int sr), .val (.int (0 : Int32)), .val (.int (0 : Int32)), .val (.int cc)] [(.int cc)])) _
        refine XS.bipush X41.here hx rfl (hb hby at_116) ?_
        by_cases hc118_50 : cc = (91 : Int32)
        · skip
          have q_es : es = (1 : Int32) := by rw [h_es, if_neg hc111_49, if_pos hc118_50]
          rw [q_es] at kt
          show Steps p.tables e below (T41.setTop (mkF m 118 #[.val (.int p1), .val (.int p2), .val (.int p3), .val (.ref ab), .val (.int st), .val (.int en), .val (.ref ob), .val (.int fi), .val (.int se), .val (.int sr), .val (.int (0 : Int32)), .val (.int (0 : Int32)), .val (.int cc)] [(.int (91 : Int32)), (.int cc)])) _
          refine XS.icmpNo X41.here hx rfl (hb hby at_118) rfl (XT.ii_ne_f hc118_50) ?_
          show Steps p.tables e below (T41.setTop (mkF m 121 #[.val (.int p1), .val (.int p2), .val (.int p3), .val (.ref ab), .val (.int st), .val (.int en), .val (.ref ob), .val (.int fi), .val (.int se), .val (.int sr), .val (.int (0 : Int32)), .val (.int (0 : Int32)), .val (.int cc)] [])) _
          refine XS.iconst X41.here hx rfl (hb hby at_121) ?_
          show Steps p.tables e below (T41.setTop (mkF m 122 #[.val (.int p1), .val (.int p2), .val (.int p3), .val (.ref ab), .val (.int st), .val (.int en), .val (.ref ob), .val (.int fi), .val (.int se), .val (.int sr), .val (.int (0 : Int32)), .val (.int (0 : Int32)), .val (.int cc)] [(.int (1 : Int32))])) _
          refine XS.goto X41.here hx rfl (pc0 := 122) (pc' := 126) rfl (hb hby at_122) (by decide) (by decide) ?_
          exact kt
        · skip
          have q_es : es = (0 : Int32) := by rw [h_es, if_neg hc111_49, if_neg hc118_50]
          rw [q_es] at kt
          show Steps p.tables e below (T41.setTop (mkF m 118 #[.val (.int p1), .val (.int p2), .val (.int p3), .val (.ref ab), .val (.int st), .val (.int en), .val (.ref ob), .val (.int fi), .val (.int se), .val (.int sr), .val (.int (0 : Int32)), .val (.int (0 : Int32)), .val (.int cc)] [(.int (91 : Int32)), (.int cc)])) _
          refine XS.icmpYes X41.here hx rfl (pc0 := 118) (pc' := 125) rfl (hb hby at_118) rfl (XT.ii_ne_t hc118_50) (by decide) (by decide) ?_
          show Steps p.tables e below (T41.setTop (mkF m 125 #[.val (.int p1), .val (.int p2), .val (.int p3), .val (.ref ab), .val (.int st), .val (.int en), .val (.ref ob), .val (.int fi), .val (.int se), .val (.int sr), .val (.int (0 : Int32)), .val (.int (0 : Int32)), .val (.int cc)] [])) _
          refine XS.iconst X41.here hx rfl (hb hby at_125) ?_
          exact kt
    have pre52 : ∀ t, Steps p.tables e below (T41.setTop (mkF m 132 #[.val (.int p1), .val (.int p2), .val (.int p3), .val (.ref ab), .val (.int st), .val (.int en), .val (.ref ob), .val (.int fi), .val (.int se), .val (.int sr), .val (.int es), .val (.int (0 : Int32)), .val (.int cc)] [(.int (34 : Int32)), (.int cc)])) t → Steps p.tables e below (s₁.setTop (entryFrame m #[(.int p1), (.int p2), (.int p3)] maxLocals)) t := by
      intro t kt
      refine pre51 _ ?_
      show Steps p.tables e below (T41.setTop (mkF m 126 #[.val (.int p1), .val (.int p2), .val (.int p3), .val (.ref ab), .val (.int st), .val (.int en), .val (.ref ob), .val (.int fi), .val (.int se), .val (.int sr), .val (.int (0 : Int32)), .val (.int (0 : Int32)), .val (.int cc)] [(.int es)])) _
      refine XS.istore X41.here hx rfl (hb hby at_126) rfl (l' := #[.val (.int p1), .val (.int p2), .val (.int p3), .val (.ref ab), .val (.int st), .val (.int en), .val (.ref ob), .val (.int fi), .val (.int se), .val (.int sr), .val (.int es), .val (.int (0 : Int32)), .val (.int cc)]) rfl ?_
      show Steps p.tables e below (T41.setTop (mkF m 128 #[.val (.int p1), .val (.int p2), .val (.int p3), .val (.ref ab), .val (.int st), .val (.int en), .val (.ref ob), .val (.int fi), .val (.int se), .val (.int sr), .val (.int es), .val (.int (0 : Int32)), .val (.int cc)] [])) _
      refine XS.iload X41.here hx rfl (hb hby at_128) rfl ?_
      show Steps p.tables e below (T41.setTop (mkF m 130 #[.val (.int p1), .val (.int p2), .val (.int p3), .val (.ref ab), .val (.int st), .val (.int en), .val (.ref ob), .val (.int fi), .val (.int se), .val (.int sr), .val (.int es), .val (.int (0 : Int32)), .val (.int cc)] [(.int cc)])) _
      refine XS.bipush X41.here hx rfl (hb hby at_130) ?_
      exact kt
    obtain ⟨et, h_et⟩ : ∃ z : Int32, z = (if cc = (34 : Int32) then (1 : Int32) else (0 : Int32)) := ⟨_, rfl⟩
    have pre54 : ∀ t, Steps p.tables e below (T41.setTop (mkF m 140 #[.val (.int p1), .val (.int p2), .val (.int p3), .val (.ref ab), .val (.int st), .val (.int en), .val (.ref ob), .val (.int fi), .val (.int se), .val (.int sr), .val (.int es), .val (.int (0 : Int32)), .val (.int cc)] [(.int et)])) t → Steps p.tables e below (s₁.setTop (entryFrame m #[(.int p1), (.int p2), (.int p3)] maxLocals)) t := by
      intro t kt
      refine pre52 _ ?_
      by_cases hc132_53 : cc = (34 : Int32)
      · skip
        have q_et : et = (1 : Int32) := by rw [h_et, if_pos hc132_53]
        rw [q_et] at kt
        show Steps p.tables e below (T41.setTop (mkF m 132 #[.val (.int p1), .val (.int p2), .val (.int p3), .val (.ref ab), .val (.int st), .val (.int en), .val (.ref ob), .val (.int fi), .val (.int se), .val (.int sr), .val (.int es), .val (.int (0 : Int32)), .val (.int cc)] [(.int (34 : Int32)), (.int cc)])) _
        refine XS.icmpNo X41.here hx rfl (hb hby at_132) rfl (XT.ii_ne_f hc132_53) ?_
        show Steps p.tables e below (T41.setTop (mkF m 135 #[.val (.int p1), .val (.int p2), .val (.int p3), .val (.ref ab), .val (.int st), .val (.int en), .val (.ref ob), .val (.int fi), .val (.int se), .val (.int sr), .val (.int es), .val (.int (0 : Int32)), .val (.int cc)] [])) _
        refine XS.iconst X41.here hx rfl (hb hby at_135) ?_
        show Steps p.tables e below (T41.setTop (mkF m 136 #[.val (.int p1), .val (.int p2), .val (.int p3), .val (.ref ab), .val (.int st), .val (.int en), .val (.ref ob), .val (.int fi), .val (.int se), .val (.int sr), .val (.int es), .val (.int (0 : Int32)), .val (.int cc)] [(.int (1 : Int32))])) _
        refine XS.goto X41.here hx rfl (pc0 := 136) (pc' := 140) rfl (hb hby at_136) (by decide) (by decide) ?_
        exact kt
      · skip
        have q_et : et = (0 : Int32) := by rw [h_et, if_neg hc132_53]
        rw [q_et] at kt
        show Steps p.tables e below (T41.setTop (mkF m 132 #[.val (.int p1), .val (.int p2), .val (.int p3), .val (.ref ab), .val (.int st), .val (.int en), .val (.ref ob), .val (.int fi), .val (.int se), .val (.int sr), .val (.int es), .val (.int (0 : Int32)), .val (.int cc)] [(.int (34 : Int32)), (.int cc)])) _
        refine XS.icmpYes X41.here hx rfl (pc0 := 132) (pc' := 139) rfl (hb hby at_132) rfl (XT.ii_ne_t hc132_53) (by decide) (by decide) ?_
        show Steps p.tables e below (T41.setTop (mkF m 139 #[.val (.int p1), .val (.int p2), .val (.int p3), .val (.ref ab), .val (.int st), .val (.int en), .val (.ref ob), .val (.int fi), .val (.int se), .val (.int sr), .val (.int es), .val (.int (0 : Int32)), .val (.int cc)] [])) _
        refine XS.iconst X41.here hx rfl (hb hby at_139) ?_
        exact kt
    have pre55 : ∀ t, Steps p.tables e below (T41.setTop (mkF m 146 #[.val (.int p1), .val (.int p2), .val (.int p3), .val (.ref ab), .val (.int st), .val (.int en), .val (.ref ob), .val (.int fi), .val (.int se), .val (.int sr), .val (.int es), .val (.int et), .val (.int cc)] [(.int es), (.int fi)])) t → Steps p.tables e below (s₁.setTop (entryFrame m #[(.int p1), (.int p2), (.int p3)] maxLocals)) t := by
      intro t kt
      refine pre54 _ ?_
      show Steps p.tables e below (T41.setTop (mkF m 140 #[.val (.int p1), .val (.int p2), .val (.int p3), .val (.ref ab), .val (.int st), .val (.int en), .val (.ref ob), .val (.int fi), .val (.int se), .val (.int sr), .val (.int es), .val (.int (0 : Int32)), .val (.int cc)] [(.int et)])) _
      refine XS.istore X41.here hx rfl (hb hby at_140) rfl (l' := #[.val (.int p1), .val (.int p2), .val (.int p3), .val (.ref ab), .val (.int st), .val (.int en), .val (.ref ob), .val (.int fi), .val (.int se), .val (.int sr), .val (.int es), .val (.int et), .val (.int cc)]) rfl ?_
      show Steps p.tables e below (T41.setTop (mkF m 142 #[.val (.int p1), .val (.int p2), .val (.int p3), .val (.ref ab), .val (.int st), .val (.int en), .val (.ref ob), .val (.int fi), .val (.int se), .val (.int sr), .val (.int es), .val (.int et), .val (.int cc)] [])) _
      refine XS.iload X41.here hx rfl (hb hby at_142) rfl ?_
      show Steps p.tables e below (T41.setTop (mkF m 144 #[.val (.int p1), .val (.int p2), .val (.int p3), .val (.ref ab), .val (.int st), .val (.int en), .val (.ref ob), .val (.int fi), .val (.int se), .val (.int sr), .val (.int es), .val (.int et), .val (.int cc)] [(.int fi)])) _
      refine XS.iload X41.here hx rfl (hb hby at_144) rfl ?_
      exact kt
    by_cases hc146_56 : fi = es
    · skip
      have pre57 : ∀ t, Steps p.tables e below (T41.setTop (mkF m 153 #[.val (.int p1), .val (.int p2), .val (.int p3), .val (.ref ab), .val (.int st), .val (.int en), .val (.ref ob), .val (.int fi), .val (.int se), .val (.int sr), .val (.int es), .val (.int et), .val (.int cc)] [(.int es), (.int se)])) t → Steps p.tables e below (s₁.setTop (entryFrame m #[(.int p1), (.int p2), (.int p3)] maxLocals)) t := by
        intro t kt
        refine pre55 _ ?_
        show Steps p.tables e below (T41.setTop (mkF m 146 #[.val (.int p1), .val (.int p2), .val (.int p3), .val (.ref ab), .val (.int st), .val (.int en), .val (.ref ob), .val (.int fi), .val (.int se), .val (.int sr), .val (.int es), .val (.int et), .val (.int cc)] [(.int es), (.int fi)])) _
        refine XS.icmpNo X41.here hx rfl (hb hby at_146) rfl (XT.ii_ne_f hc146_56) ?_
        show Steps p.tables e below (T41.setTop (mkF m 149 #[.val (.int p1), .val (.int p2), .val (.int p3), .val (.ref ab), .val (.int st), .val (.int en), .val (.ref ob), .val (.int fi), .val (.int se), .val (.int sr), .val (.int es), .val (.int et), .val (.int cc)] [])) _
        refine XS.iload X41.here hx rfl (hb hby at_149) rfl ?_
        show Steps p.tables e below (T41.setTop (mkF m 151 #[.val (.int p1), .val (.int p2), .val (.int p3), .val (.ref ab), .val (.int st), .val (.int en), .val (.ref ob), .val (.int fi), .val (.int se), .val (.int sr), .val (.int es), .val (.int et), .val (.int cc)] [(.int se)])) _
        refine XS.iload X41.here hx rfl (hb hby at_151) rfl ?_
        exact kt
      by_cases hc153_58 : se = es
      · skip
        have pre59 : ∀ t, Steps p.tables e below (T41.setTop (mkF m 160 #[.val (.int p1), .val (.int p2), .val (.int p3), .val (.ref ab), .val (.int st), .val (.int en), .val (.ref ob), .val (.int fi), .val (.int se), .val (.int sr), .val (.int es), .val (.int et), .val (.int cc)] [(.int et), (.int sr)])) t → Steps p.tables e below (s₁.setTop (entryFrame m #[(.int p1), (.int p2), (.int p3)] maxLocals)) t := by
          intro t kt
          refine pre57 _ ?_
          show Steps p.tables e below (T41.setTop (mkF m 153 #[.val (.int p1), .val (.int p2), .val (.int p3), .val (.ref ab), .val (.int st), .val (.int en), .val (.ref ob), .val (.int fi), .val (.int se), .val (.int sr), .val (.int es), .val (.int et), .val (.int cc)] [(.int es), (.int se)])) _
          refine XS.icmpNo X41.here hx rfl (hb hby at_153) rfl (XT.ii_ne_f hc153_58) ?_
          show Steps p.tables e below (T41.setTop (mkF m 156 #[.val (.int p1), .val (.int p2), .val (.int p3), .val (.ref ab), .val (.int st), .val (.int en), .val (.ref ob), .val (.int fi), .val (.int se), .val (.int sr), .val (.int es), .val (.int et), .val (.int cc)] [])) _
          refine XS.iload X41.here hx rfl (hb hby at_156) rfl ?_
          show Steps p.tables e below (T41.setTop (mkF m 158 #[.val (.int p1), .val (.int p2), .val (.int p3), .val (.ref ab), .val (.int st), .val (.int en), .val (.ref ob), .val (.int fi), .val (.int se), .val (.int sr), .val (.int es), .val (.int et), .val (.int cc)] [(.int sr)])) _
          refine XS.iload X41.here hx rfl (hb hby at_158) rfl ?_
          exact kt
        by_cases hc160_60 : sr = et
        · skip
          have pre61 : ∀ t, Steps p.tables e below (T41.setTop (mkF m 168 #[.val (.int p1), .val (.int p2), .val (.int p3), .val (.ref ab), .val (.int st), .val (.int en), .val (.ref ob), .val (.int fi), .val (.int se), .val (.int sr), .val (.int es), .val (.int et), .val (.int cc)] [(.int (1 : Int32))])) t → Steps p.tables e below (s₁.setTop (entryFrame m #[(.int p1), (.int p2), (.int p3)] maxLocals)) t := by
            intro t kt
            refine pre59 _ ?_
            show Steps p.tables e below (T41.setTop (mkF m 160 #[.val (.int p1), .val (.int p2), .val (.int p3), .val (.ref ab), .val (.int st), .val (.int en), .val (.ref ob), .val (.int fi), .val (.int se), .val (.int sr), .val (.int es), .val (.int et), .val (.int cc)] [(.int et), (.int sr)])) _
            refine XS.icmpNo X41.here hx rfl (hb hby at_160) rfl (XT.ii_ne_f hc160_60) ?_
            show Steps p.tables e below (T41.setTop (mkF m 163 #[.val (.int p1), .val (.int p2), .val (.int p3), .val (.ref ab), .val (.int st), .val (.int en), .val (.ref ob), .val (.int fi), .val (.int se), .val (.int sr), .val (.int es), .val (.int et), .val (.int cc)] [])) _
            refine XS.iconst X41.here hx rfl (hb hby at_163) ?_
            show Steps p.tables e below (T41.setTop (mkF m 164 #[.val (.int p1), .val (.int p2), .val (.int p3), .val (.ref ab), .val (.int st), .val (.int en), .val (.ref ob), .val (.int fi), .val (.int se), .val (.int sr), .val (.int es), .val (.int et), .val (.int cc)] [(.int (1 : Int32))])) _
            refine XS.goto X41.here hx rfl (pc0 := 164) (pc' := 168) rfl (hb hby at_164) (by decide) (by decide) ?_
            exact kt
          obtain ⟨fs, hr, hrun, hended, hW, hsame⟩ := X41.leave (v := some (.int (1 : Int32))) (fun h => by rw [Bd.returns] at h; cases h)
          refine ⟨_, _, pre61 _ ?_, hrun, hended, _, _, rfl, ?_, ⟨_, rfl⟩, hW, hsame.mono (by decide) (by decide)⟩
          · show Steps p.tables e below (T41.setTop (mkF m 168 #[.val (.int p1), .val (.int p2), .val (.int p3), .val (.ref ab), .val (.int st), .val (.int en), .val (.ref ob), .val (.int fi), .val (.int se), .val (.int sr), .val (.int es), .val (.int et), .val (.int cc)] [(.int (1 : Int32))])) _
            exact retN X41 hx (t := .boolean) Bd.returns (by simp) (hb hby at_168) hr
          · show Q0 Z p1 p2 p3 h0 n0 _ T41.heap _
            rw [hE41]
            exact ⟨rfl, N41⟩
        · skip
          exact absurd (own_t1 _ _ st en _ fb sk sr hc94_45 cc et h_sr h_cc h_et (hbyte sk)) hc160_60
      · skip
        exact absurd (own_s1 _ _ st en _ fb sk se hc94_45 cc es h_se h_cc h_es (hbyte sk)) hc153_58
    · skip
      exact absurd (own_s1 _ _ st en _ fb sk fi hc94_45 cc es h_fi h_cc h_es (hbyte sk)) hc146_56
  · skip
    have pre62 : ∀ t, Steps p.tables e below (T41.setTop (mkF m 146 #[.val (.int p1), .val (.int p2), .val (.int p3), .val (.ref ab), .val (.int st), .val (.int en), .val (.ref ob), .val (.int fi), .val (.int se), .val (.int sr), .val (.int (0 : Int32)), .val (.int (0 : Int32)), .unset] [(.int (0 : Int32)), (.int fi)])) t → Steps p.tables e below (s₁.setTop (entryFrame m #[(.int p1), (.int p2), (.int p3)] maxLocals)) t := by
      intro t kt
      refine pre44 _ ?_
      show Steps p.tables e below (T41.setTop (mkF m 94 #[.val (.int p1), .val (.int p2), .val (.int p3), .val (.ref ab), .val (.int st), .val (.int en), .val (.ref ob), .val (.int fi), .val (.int se), .val (.int sr), .val (.int (0 : Int32)), .val (.int (0 : Int32)), .unset] [(.int en), (.int st)])) _
      refine XS.icmpYes X41.here hx rfl (pc0 := 94) (pc' := 142) rfl (hb hby at_94) rfl (XT.ii_ge_t hc94_45) (by decide) (by decide) ?_
      show Steps p.tables e below (T41.setTop (mkF m 142 #[.val (.int p1), .val (.int p2), .val (.int p3), .val (.ref ab), .val (.int st), .val (.int en), .val (.ref ob), .val (.int fi), .val (.int se), .val (.int sr), .val (.int (0 : Int32)), .val (.int (0 : Int32)), .unset] [])) _
      refine XS.iload X41.here hx rfl (hb hby at_142) rfl ?_
      show Steps p.tables e below (T41.setTop (mkF m 144 #[.val (.int p1), .val (.int p2), .val (.int p3), .val (.ref ab), .val (.int st), .val (.int en), .val (.ref ob), .val (.int fi), .val (.int se), .val (.int sr), .val (.int (0 : Int32)), .val (.int (0 : Int32)), .unset] [(.int fi)])) _
      refine XS.iload X41.here hx rfl (hb hby at_144) rfl ?_
      exact kt
    by_cases hc146_63 : fi = (0 : Int32)
    · skip
      have pre64 : ∀ t, Steps p.tables e below (T41.setTop (mkF m 153 #[.val (.int p1), .val (.int p2), .val (.int p3), .val (.ref ab), .val (.int st), .val (.int en), .val (.ref ob), .val (.int fi), .val (.int se), .val (.int sr), .val (.int (0 : Int32)), .val (.int (0 : Int32)), .unset] [(.int (0 : Int32)), (.int se)])) t → Steps p.tables e below (s₁.setTop (entryFrame m #[(.int p1), (.int p2), (.int p3)] maxLocals)) t := by
        intro t kt
        refine pre62 _ ?_
        show Steps p.tables e below (T41.setTop (mkF m 146 #[.val (.int p1), .val (.int p2), .val (.int p3), .val (.ref ab), .val (.int st), .val (.int en), .val (.ref ob), .val (.int fi), .val (.int se), .val (.int sr), .val (.int (0 : Int32)), .val (.int (0 : Int32)), .unset] [(.int (0 : Int32)), (.int fi)])) _
        refine XS.icmpNo X41.here hx rfl (hb hby at_146) rfl (XT.ii_ne_f hc146_63) ?_
        show Steps p.tables e below (T41.setTop (mkF m 149 #[.val (.int p1), .val (.int p2), .val (.int p3), .val (.ref ab), .val (.int st), .val (.int en), .val (.ref ob), .val (.int fi), .val (.int se), .val (.int sr), .val (.int (0 : Int32)), .val (.int (0 : Int32)), .unset] [])) _
        refine XS.iload X41.here hx rfl (hb hby at_149) rfl ?_
        show Steps p.tables e below (T41.setTop (mkF m 151 #[.val (.int p1), .val (.int p2), .val (.int p3), .val (.ref ab), .val (.int st), .val (.int en), .val (.ref ob), .val (.int fi), .val (.int se), .val (.int sr), .val (.int (0 : Int32)), .val (.int (0 : Int32)), .unset] [(.int se)])) _
        refine XS.iload X41.here hx rfl (hb hby at_151) rfl ?_
        exact kt
      by_cases hc153_65 : se = (0 : Int32)
      · skip
        have pre66 : ∀ t, Steps p.tables e below (T41.setTop (mkF m 160 #[.val (.int p1), .val (.int p2), .val (.int p3), .val (.ref ab), .val (.int st), .val (.int en), .val (.ref ob), .val (.int fi), .val (.int se), .val (.int sr), .val (.int (0 : Int32)), .val (.int (0 : Int32)), .unset] [(.int (0 : Int32)), (.int sr)])) t → Steps p.tables e below (s₁.setTop (entryFrame m #[(.int p1), (.int p2), (.int p3)] maxLocals)) t := by
          intro t kt
          refine pre64 _ ?_
          show Steps p.tables e below (T41.setTop (mkF m 153 #[.val (.int p1), .val (.int p2), .val (.int p3), .val (.ref ab), .val (.int st), .val (.int en), .val (.ref ob), .val (.int fi), .val (.int se), .val (.int sr), .val (.int (0 : Int32)), .val (.int (0 : Int32)), .unset] [(.int (0 : Int32)), (.int se)])) _
          refine XS.icmpNo X41.here hx rfl (hb hby at_153) rfl (XT.ii_ne_f hc153_65) ?_
          show Steps p.tables e below (T41.setTop (mkF m 156 #[.val (.int p1), .val (.int p2), .val (.int p3), .val (.ref ab), .val (.int st), .val (.int en), .val (.ref ob), .val (.int fi), .val (.int se), .val (.int sr), .val (.int (0 : Int32)), .val (.int (0 : Int32)), .unset] [])) _
          refine XS.iload X41.here hx rfl (hb hby at_156) rfl ?_
          show Steps p.tables e below (T41.setTop (mkF m 158 #[.val (.int p1), .val (.int p2), .val (.int p3), .val (.ref ab), .val (.int st), .val (.int en), .val (.ref ob), .val (.int fi), .val (.int se), .val (.int sr), .val (.int (0 : Int32)), .val (.int (0 : Int32)), .unset] [(.int sr)])) _
          refine XS.iload X41.here hx rfl (hb hby at_158) rfl ?_
          exact kt
        by_cases hc160_67 : sr = (0 : Int32)
        · skip
          have pre68 : ∀ t, Steps p.tables e below (T41.setTop (mkF m 168 #[.val (.int p1), .val (.int p2), .val (.int p3), .val (.ref ab), .val (.int st), .val (.int en), .val (.ref ob), .val (.int fi), .val (.int se), .val (.int sr), .val (.int (0 : Int32)), .val (.int (0 : Int32)), .unset] [(.int (1 : Int32))])) t → Steps p.tables e below (s₁.setTop (entryFrame m #[(.int p1), (.int p2), (.int p3)] maxLocals)) t := by
            intro t kt
            refine pre66 _ ?_
            show Steps p.tables e below (T41.setTop (mkF m 160 #[.val (.int p1), .val (.int p2), .val (.int p3), .val (.ref ab), .val (.int st), .val (.int en), .val (.ref ob), .val (.int fi), .val (.int se), .val (.int sr), .val (.int (0 : Int32)), .val (.int (0 : Int32)), .unset] [(.int (0 : Int32)), (.int sr)])) _
            refine XS.icmpNo X41.here hx rfl (hb hby at_160) rfl (XT.ii_ne_f hc160_67) ?_
            show Steps p.tables e below (T41.setTop (mkF m 163 #[.val (.int p1), .val (.int p2), .val (.int p3), .val (.ref ab), .val (.int st), .val (.int en), .val (.ref ob), .val (.int fi), .val (.int se), .val (.int sr), .val (.int (0 : Int32)), .val (.int (0 : Int32)), .unset] [])) _
            refine XS.iconst X41.here hx rfl (hb hby at_163) ?_
            show Steps p.tables e below (T41.setTop (mkF m 164 #[.val (.int p1), .val (.int p2), .val (.int p3), .val (.ref ab), .val (.int st), .val (.int en), .val (.ref ob), .val (.int fi), .val (.int se), .val (.int sr), .val (.int (0 : Int32)), .val (.int (0 : Int32)), .unset] [(.int (1 : Int32))])) _
            refine XS.goto X41.here hx rfl (pc0 := 164) (pc' := 168) rfl (hb hby at_164) (by decide) (by decide) ?_
            exact kt
          obtain ⟨fs, hr, hrun, hended, hW, hsame⟩ := X41.leave (v := some (.int (1 : Int32))) (fun h => by rw [Bd.returns] at h; cases h)
          refine ⟨_, _, pre68 _ ?_, hrun, hended, _, _, rfl, ?_, ⟨_, rfl⟩, hW, hsame.mono (by decide) (by decide)⟩
          · show Steps p.tables e below (T41.setTop (mkF m 168 #[.val (.int p1), .val (.int p2), .val (.int p3), .val (.ref ab), .val (.int st), .val (.int en), .val (.ref ob), .val (.int fi), .val (.int se), .val (.int sr), .val (.int (0 : Int32)), .val (.int (0 : Int32)), .unset] [(.int (1 : Int32))])) _
            exact retN X41 hx (t := .boolean) Bd.returns (by simp) (hb hby at_168) hr
          · show Q0 Z p1 p2 p3 h0 n0 _ T41.heap _
            rw [hE41]
            exact ⟨rfl, N41⟩
        · skip
          exact absurd (own_t0 _ _ st en _ fb sk sr hc94_45 h_sr) hc160_67
      · skip
        exact absurd (own_s0 _ _ st en _ fb sk se hc94_45 h_se) hc153_65
    · skip
      exact absurd (own_s0 _ _ st en _ fb sk fi hc94_45 h_fi) hc146_63
set_option maxRecDepth 65536 in
set_option maxHeartbeats 40000000 in
theorem comes_1 {Post : Tables → Env → Array Value → State → Outcome → State → Prop} (hpost : ∀ tb e args s v u, (limb_1_1.after args s (.returned v) u = true ∧ limb_1_2.after args s (.returned v) u = true ∧ True) → FrameEnd s (.returned v) u (Jvm.fieldLocs frame_1_writes args s ++ Jvm.arrayLocs frame_1_arrays args s ++ Jvm.staticLocs frame_1_statics s) 16 128 → Post tb e args s (.returned v) u) :
    ArmFor flags0 classFile x code maxLocals ret World_1 tables_1 room_1 Calls_1 rest_1 Pre_1 Post := by
  intro l hfl _ _ p e ha hc hk s m args below hf hA hF happ hP
  obtain ⟨hcalls, hrest, hpre⟩ := hP
  obtain ⟨-, -, -, hnamed, -, -, -, hat⟩ := (Spec.applies_iff hf).mp happ
  obtain ⟨hg, hn⟩ := and_e (Cond.before_iff.mp (show (Jvm.Cond.and given_1 narrow_1).before args s = true from hpre))
  obtain ⟨g1, g2⟩ := and_e hg
  obtain ⟨g3, g4⟩ := and_e g2
  obtain ⟨g5, g6⟩ := and_e g4
  obtain ⟨w0, w1, w2, rfl⟩ : ∃ w0 w1 w2 : Value, args = #[w0, w1, w2] := by
    have hs : args.size = 3 := by simpa [Cond.value, given_1] using g1
    obtain ⟨L⟩ := args
    match L, hs with
    | [w0, w1, w2], _ => exact ⟨w0, w1, w2, rfl⟩
  have hw := fun d (hd : d ∈ tables_1) => atoms_spec (ws := Jvm.Cond.code x code maxLocals ret :: tables_1) hat d (List.mem_cons_of_mem _ hd)
  have hfit : Fit s := fun {y c} hc i hi => by
    obtain ⟨ha, rfl⟩ := Array.getElem?_eq_some_iff.mp hc
    have q := List.all_eq_true.mp ((Array.all_eq_true_iff_forall_mem.mp hF) _ (Array.getElem_mem ha)) i (List.mem_range.mpr hi)
    simpa [Array.getElem?_eq_getElem hi] using q
  obtain ⟨i0, ei0⟩ := is_v g3
  obtain rfl : w0 = (.int i0) := Option.some.inj ei0
  obtain ⟨i1, ei1⟩ := is_v g5
  obtain rfl : w1 = (.int i1) := Option.some.inj ei1
  obtain ⟨i2, ei2⟩ := is_v g6
  obtain rfl : w2 = (.int i2) := Option.some.inj ei2
  obtain ⟨n, o, h1, h2, h3, _, L, rfl, ⟨rfl, N⟩, hq⟩ := rm0 l s _ hw tables_1 i0 i1 i2 s.heap s.heap.size (Nat.le_refl _) p e ha hc hk s m _ below hf ((Spec.applies_iff_loose hf).mp happ).1 ⟨rfl, State.Warmed39.refl s, rfl⟩ trivial
  refine ⟨n, _, h1, h2, h3, hpost _ _ _ _ _ _ ⟨Cond.after_iff.mpr rfl, Cond.after_iff.mpr (eq_i res_at (Term.int_eval (1)) rfl), trivial⟩ ⟨hq.1, hq.2.1, (hq.2.2.sift fun y hy => Or.inr (N y hy)).mono (by decide) (by decide)⟩⟩
theorem main_1_1 : Claimed_1_1 := comes_1 fun _ _ _ _ _ _ h hF => ⟨h.1, hF⟩
theorem main_1_2 : Claimed_1_2 := comes_1 fun _ _ _ _ _ _ h hF => ⟨h.2.1, hF⟩
end Jvm.Pilot.@@N@@
namespace Jvm.Pilot.@@N@@
open Jvm Jvm.ClassFile Sem Op Lib Jvm.Free Jvm.Stand Jvm.Pilot.@@N@@.Jvm.D
/-! MADE BY PROGRAM (witnessworld.py) out of the Statement's table words and the real class files: 9 classes; the members and pool entries that the words name. The judged class is class 1, her method 1. -/
namespace start1
open Jvm.ClassFile
def u (s : String) : CpInfo := .utf8 (stringToUtf16 s)
/-- a pool by its gaps: so many unusable entries, then the entry; so many at the end -/
def gap : Nat → List CpInfo → List CpInfo
  | 0, r => r
  | n + 1, r => .unusable :: gap n r
def poolList (es : List (Nat × CpInfo)) (last : Nat) : List CpInfo := es.foldr (fun e r => gap e.1 (e.2 :: r)) (gap last [])
def pool (es : List (Nat × CpInfo)) (last : Nat) : Array CpInfo := ⟨poolList es last⟩
def fileOf (pool : Array CpInfo) (this : Nat) (attrs : Array Attribute := #[]) (ms : Array MethodInfo := #[]) (fl : Nat := 33) (sup : Nat := 0) (ifs : Array Nat := #[]) (fds : Array FieldInfo := #[]) : ClassFile where
  minorVersion := 0
  majorVersion := 65
  constantPool := pool
  accessFlags := fl
  thisClass := this
  superClass := sup
  interfaces := ifs
  fields := fds
  methods := ms
  attributes := attrs
def plain (name : String) (sup : Option ClassId) : Class where
  name := name
  kind := .ordinary
  loader := none
  accessFlags := 33
  super := sup
  interfaces := #[]
  cf := none
  fields := #[]
  methods := #[]
  instanceTypes := #[]
  staticTypes := #[]
  resolved := #[]
  callSites := []
  init := .initialized
  statics := none
  mirror := none

def pool0 : Array CpInfo := pool [(5, u "<init>"), (0, u "()V"), (1, .class_ 10), (1, u "java/lang/Object")] 113

def k0c0 : Code := { maxStack := 0, maxLocals := 1, code := object_method_1_code, exceptionTable := #[], attributes := #[] }
def k0m0 : Method := { name := "<init>", desc := "()V", sig := { parameters := [], returnType := none }, accessFlags := 1, code := some k0c0 }
/-- java/lang/Object -/
def k0 : Class := { plain "java/lang/Object" none with
  accessFlags := 33
  interfaces := #[]
  cf := some (fileOf pool0 8 #[] #[{ accessFlags := 1, nameIndex := 5, descriptorIndex := 6, attributes := #[] }] 33 0 #[] #[])
  fields := #[]
  methods := #[k0m0]
  instanceTypes := #[]
  staticTypes := #[]
  resolved := Array.replicate 124 none
  statics := none }

def pool1 : Array CpInfo := pool [(2, .class_ 4), (1, u "java/lang/Object"), (0, u "<init>"), (0, u "()V"), (0, .class_ 8), (0, u "com/example/fama/fama/table/JsonLine"), (0, .methodref 7 10), (0, .nameAndType 5 11), (0, u "([BII)V"), (0, .methodref 7 13), (0, .nameAndType 14 15), (0, u "atStructure"), (0, u "()Z"), (0, .methodref 7 17), (0, .nameAndType 18 15), (0, u "atString"), (0, .class_ 20), (0, u "com/example/fama/fama/table/JsonLineAtStructurePinLaw"), (2, u "law"), (0, u "(III)Z")] 5

def k1m0 : Method := { name := "<init>", desc := "()V", sig := { parameters := [], returnType := none }, accessFlags := 1, code := none }
def k1c1 : Code := { maxStack := 5, maxLocals := 13, code := code, exceptionTable := #[], attributes := #[] }
def k1m1 : Method := { name := "law", desc := "(III)Z", sig := { parameters := [.int, .int, .int], returnType := some .boolean }, accessFlags := 9, code := some k1c1 }
/-- com/example/fama/fama/table/JsonLineAtStructurePinLaw -/
def k1 : Class := { plain "com/example/fama/fama/table/JsonLineAtStructurePinLaw" (some 0) with
  accessFlags := 49
  interfaces := #[]
  cf := some (fileOf pool1 19 #[] #[{ accessFlags := 1, nameIndex := 5, descriptorIndex := 6, attributes := #[] }, { accessFlags := 9, nameIndex := 23, descriptorIndex := 24, attributes := #[] }] 49 2 #[] #[])
  fields := #[]
  methods := #[k1m0, k1m1]
  instanceTypes := #[]
  staticTypes := #[]
  resolved := Array.replicate 30 none
  statics := none }

def pool2 : Array CpInfo := pool [(1, .methodref 2 3), (0, .class_ 4), (0, .nameAndType 5 6), (0, u "java/lang/Object"), (0, u "<init>"), (0, u "()V"), (0, .fieldref 8 9), (0, .class_ 10), (0, .nameAndType 11 12), (0, u "com/example/fama/fama/table/JsonLine"), (0, u "first"), (0, u "Z"), (0, .fieldref 8 14), (0, .nameAndType 15 16), (0, u "bytes"), (0, u "[B"), (0, .fieldref 8 18), (0, .nameAndType 19 20), (0, u "start"), (0, u "I"), (0, .fieldref 8 22), (0, .nameAndType 23 20), (0, u "end"), (0, .fieldref 8 25), (0, .nameAndType 26 20), (0, u "at"), (3, .class_ 31), (0, u "com/example/fama/fama/table/JsonLine$Malformed"), (19, u "atString"), (0, u "()Z"), (14, u "atStructure"), (116, u "AFTER_MEMBER"), (0, u "Ljava/lang/String;"), (1, u "INVALID_ESCAPE"), (0, u "([BII)V")] 33

def k2c0 : Code := { maxStack := 2, maxLocals := 4, code := prog_30_method_1_code, exceptionTable := #[], attributes := #[] }
def k2m0 : Method := { name := "<init>", desc := "([BII)V", sig := { parameters := [(.array .byte), .int, .int], returnType := none }, accessFlags := 0, code := some k2c0 }
def k2c1 : Code := { maxStack := 2, maxLocals := 1, code := prog_30_method_4_code, exceptionTable := #[], attributes := #[] }
def k2m1 : Method := { name := "atString", desc := "()Z", sig := { parameters := [], returnType := some .boolean }, accessFlags := 0, code := some k2c1 }
def k2c2 : Code := { maxStack := 2, maxLocals := 1, code := prog_30_method_5_code, exceptionTable := #[], attributes := #[] }
def k2m2 : Method := { name := "atStructure", desc := "()Z", sig := { parameters := [], returnType := some .boolean }, accessFlags := 0, code := some k2c2 }
/-- com/example/fama/fama/table/JsonLine -/
def k2 : Class := { plain "com/example/fama/fama/table/JsonLine" (some 0) with
  accessFlags := 48
  interfaces := #[]
  cf := some (fileOf pool2 8 #[.nestMembers #[30]] #[{ accessFlags := 0, nameIndex := 5, descriptorIndex := 188, attributes := #[] }, { accessFlags := 0, nameIndex := 51, descriptorIndex := 52, attributes := #[] }, { accessFlags := 0, nameIndex := 67, descriptorIndex := 52, attributes := #[] }] 48 2 #[] #[{ accessFlags := 26, nameIndex := 184, descriptorIndex := 185, attributes := #[] }, { accessFlags := 26, nameIndex := 187, descriptorIndex := 185, attributes := #[] }, { accessFlags := 18, nameIndex := 15, descriptorIndex := 16, attributes := #[] }, { accessFlags := 18, nameIndex := 19, descriptorIndex := 20, attributes := #[] }, { accessFlags := 18, nameIndex := 23, descriptorIndex := 20, attributes := #[] }, { accessFlags := 2, nameIndex := 26, descriptorIndex := 20, attributes := #[] }, { accessFlags := 2, nameIndex := 11, descriptorIndex := 12, attributes := #[] }])
  fields := #[{ name := "AFTER_MEMBER", type := (.object "java/lang/String"), accessFlags := 26, slot := 0, constantValue := 0 }, { name := "INVALID_ESCAPE", type := (.object "java/lang/String"), accessFlags := 26, slot := 1, constantValue := 0 }, { name := "bytes", type := (.array .byte), accessFlags := 18, slot := 0, constantValue := 0 }, { name := "start", type := .int, accessFlags := 18, slot := 1, constantValue := 0 }, { name := "end", type := .int, accessFlags := 18, slot := 2, constantValue := 0 }, { name := "at", type := .int, accessFlags := 2, slot := 3, constantValue := 0 }, { name := "first", type := .boolean, accessFlags := 2, slot := 4, constantValue := 0 }]
  methods := #[k2m0, k2m1, k2m2]
  instanceTypes := #[(.array .byte), .int, .int, .int, .boolean]
  staticTypes := #[(.object "java/lang/String"), (.object "java/lang/String")]
  resolved := Array.replicate 222 none
  statics := none }

def pool3 : Array CpInfo := pool [(1, u "java/lang/Cloneable"), (0, .class_ 1), (0, u "java/lang/Object"), (0, .class_ 3)] 3

/-- java/lang/Cloneable -/
def k3 : Class := { plain "java/lang/Cloneable" (some 0) with
  accessFlags := 1537
  interfaces := #[]
  cf := some (fileOf pool3 2 #[] #[] 1537 4 #[] #[])
  fields := #[]
  methods := #[]
  instanceTypes := #[]
  staticTypes := #[]
  resolved := Array.replicate 8 none
  statics := none }

def pool4 : Array CpInfo := pool [(1, u "java/io/Serializable"), (0, .class_ 1), (0, u "java/lang/Object"), (0, .class_ 3)] 3

/-- java/io/Serializable -/
def k4 : Class := { plain "java/io/Serializable" (some 0) with
  accessFlags := 1537
  interfaces := #[]
  cf := some (fileOf pool4 2 #[] #[] 1537 4 #[] #[])
  fields := #[]
  methods := #[]
  instanceTypes := #[]
  staticTypes := #[]
  resolved := Array.replicate 8 none
  statics := none }

/-- the primitive byte -/
def k5 : Class := { plain "byte" none with kind := .primitive 'B', accessFlags := 0x411 }
/-- [B -/
def k6 : Class := { plain "[B" (some 0) with kind := .array 5 .byte, interfaces := #[3, 4], accessFlags := 1041 }

/-- the primitive int -/
def k7 : Class := { plain "int" none with kind := .primitive 'I', accessFlags := 0x411 }
/-- [I -/
def k8 : Class := { plain "[I" (some 0) with kind := .array 7 .int, interfaces := #[3, 4], accessFlags := 1041 }

def heap : Heap := #[]
def classes : Array Class := #[k0, k1, k2, k3, k4, k5, k6, k7, k8]
def interned : List (Array UInt16 × Addr) := []
def slotsUsed : Nat := 0
def theMethod : MethodId := ⟨1, 1⟩
def args0 : Array Value := #[.int 5, .int 1, .int 3]
def aboutOver (below : List Frame) : State where
  vm := { classes := classes, interned := interned.toArray }
  heap := heap
  slotsUsed := slotsUsed
  threads := #[{ frames := .invoking theMethod args0 :: below }]
def below0 : List Frame := [.native { method := ⟨0, 0⟩, args := #[] }]
def about1 : State := aboutOver below0
def p0 : Program := .bare "" "" ""
def e0 : Env := launch0.env 0 0 0
theorem w_frames : about1.frames = Frame.invoking theMethod args0 :: below0 := rfl
set_option maxRecDepth 65536 in
theorem w_args : argsFit about1.vm theMethod args0 = true := by decide +kernel
set_option maxRecDepth 65536 in
theorem w_heap : heapFits about1 = true := by decide +kernel
set_option maxRecDepth 65536 in
theorem w_runnable : about1.curStatus? = some .runnable := by decide +kernel
set_option maxRecDepth 65536 in
theorem w_alone : about1.alone = true := by decide +kernel
set_option maxRecDepth 65536 in
theorem w_named : about1.methodNamed? x = some theMethod := by decide +kernel
set_option maxRecDepth 65536 in
theorem w_hears : about1.hears theMethod below0 = true := by decide +kernel
set_option maxRecDepth 65536 in
theorem w_ripe : about1.ripe theMethod args0 below0 = true := by decide +kernel
theorem w_running : about1.status = .running := rfl
set_option maxRecDepth 65536 in
theorem w_room : about1.hasRoom e0.platform room_1 = true :=
  launch0.hasRoom_least _ room_1 (by decide +kernel) (by decide +kernel) (by decide +kernel) (by decide +kernel) (by decide +kernel) (by decide +kernel)
theorem allAtoms_all (ts : List Jvm.Cond) (a : Array Jvm.Value) (st : Jvm.State) : (allAtoms ts).before a st = ts.all (fun c => c.before a st) := by
  induction ts with
  | nil => rfl
  | cons c t ih =>
    show (Jvm.Cond.and c (allAtoms t)).before a st = _
    rw [Jvm.Cond.before_and, ih, List.all_cons]
def words1 : List Jvm.Cond := Jvm.Cond.code x code maxLocals ret :: tables_1
/-- a 'code' word, met by the world's own term for the bytes: nothing is compared byte by byte -/
theorem code_word {y : MethodName} {bytes : ByteArray} {mx : Nat} {rt : Option FieldType} {a : Array Value} {s : State} {m : MethodId} {meth : Method} {c : Code} (h1 : s.methodNamed? y = some m) (h2 : s.vm.method? m = some meth) (h3 : meth.code = some c) (h4 : c.code = bytes)
    (h5 : (c.maxLocals == mx && c.exceptionTable.isEmpty && decide (c.maxStack ≤ mostOperands) && decide (meth.sig.returnType = rt) && !meth.locks && decide (parseMethodDescriptor y.desc = some meth.sig)) = true) : (Jvm.Cond.code y bytes mx rt).before a s = true := by
  simp only [Bool.and_eq_true, beq_iff_eq, Bool.not_eq_true', decide_eq_true_eq] at h5
  obtain ⟨⟨⟨⟨⟨g1, g2⟩, g3⟩, g4⟩, g5⟩, g6⟩ := h5
  simp [Cond.before, Cond.holds, Cond.value, h1, h2, h3, h4, g1, g2, g3, g4, g5, g6]
def isCode : Jvm.Cond → Bool
  | .code _ _ _ _ => true
  | _ => false
theorem all_split {L : List Jvm.Cond} {P : Jvm.Cond → Bool} (h1 : L.all (fun c => isCode c || P c) = true) (h2 : ∀ c ∈ L.filter isCode, P c = true) : L.all P = true := by
  refine List.all_eq_true.mpr fun c hc => ?_
  have h := List.all_eq_true.mp h1 c hc
  rcases Bool.eq_false_or_eq_true (isCode c) with hi | hi
  · exact h2 c (List.mem_filter.mpr ⟨hc, hi⟩)
  · simpa [hi] using h
set_option maxRecDepth 65536 in
theorem w_c0 : (Jvm.Cond.code x code maxLocals ret).before args0 about1 = true := code_word (m := ⟨1, 1⟩) (meth := k1m1) (c := k1c1) (by decide +kernel) rfl rfl rfl (by decide +kernel)
set_option maxRecDepth 65536 in
theorem w_c1 : (Jvm.Cond.code ({ cls := "com/example/fama/fama/table/JsonLine", name := "<init>", desc := "([BII)V" } : Jvm.MethodName) prog_30_method_1_code (4 : Nat) (Option.none : Option Jvm.ClassFile.FieldType)).before args0 about1 = true := code_word (m := ⟨2, 0⟩) (meth := k2m0) (c := k2c0) (by decide +kernel) rfl rfl rfl (by decide +kernel)
set_option maxRecDepth 65536 in
theorem w_c2 : (Jvm.Cond.code ({ cls := "java/lang/Object", name := "<init>", desc := "()V" } : Jvm.MethodName) object_method_1_code (1 : Nat) (Option.none : Option Jvm.ClassFile.FieldType)).before args0 about1 = true := code_word (m := ⟨0, 0⟩) (meth := k0m0) (c := k0c0) (by decide +kernel) rfl rfl rfl (by decide +kernel)
set_option maxRecDepth 65536 in
theorem w_c3 : (Jvm.Cond.code ({ cls := "com/example/fama/fama/table/JsonLine", name := "atStructure", desc := "()Z" } : Jvm.MethodName) prog_30_method_5_code (1 : Nat) (Option.some Jvm.ClassFile.FieldType.boolean)).before args0 about1 = true := code_word (m := ⟨2, 2⟩) (meth := k2m2) (c := k2c2) (by decide +kernel) rfl rfl rfl (by decide +kernel)
set_option maxRecDepth 65536 in
theorem w_c4 : (Jvm.Cond.code ({ cls := "com/example/fama/fama/table/JsonLine", name := "atString", desc := "()Z" } : Jvm.MethodName) prog_30_method_4_code (1 : Nat) (Option.some Jvm.ClassFile.FieldType.boolean)).before args0 about1 = true := code_word (m := ⟨2, 1⟩) (meth := k2m1) (c := k2c1) (by decide +kernel) rfl rfl rfl (by decide +kernel)
def codes1 : List Jvm.Cond := [Jvm.Cond.code x code maxLocals ret, Jvm.Cond.code ({ cls := "com/example/fama/fama/table/JsonLine", name := "<init>", desc := "([BII)V" } : Jvm.MethodName) prog_30_method_1_code (4 : Nat) (Option.none : Option Jvm.ClassFile.FieldType), Jvm.Cond.code ({ cls := "java/lang/Object", name := "<init>", desc := "()V" } : Jvm.MethodName) object_method_1_code (1 : Nat) (Option.none : Option Jvm.ClassFile.FieldType), Jvm.Cond.code ({ cls := "com/example/fama/fama/table/JsonLine", name := "atStructure", desc := "()Z" } : Jvm.MethodName) prog_30_method_5_code (1 : Nat) (Option.some Jvm.ClassFile.FieldType.boolean), Jvm.Cond.code ({ cls := "com/example/fama/fama/table/JsonLine", name := "atString", desc := "()Z" } : Jvm.MethodName) prog_30_method_4_code (1 : Nat) (Option.some Jvm.ClassFile.FieldType.boolean)]
set_option maxRecDepth 65536 in
theorem codes_eq : words1.filter isCode = codes1 := rfl
theorem w_codes : ∀ c ∈ words1.filter isCode, c.before args0 about1 = true := by
  rw [codes_eq]
  intro c hc
  simp only [codes1, List.mem_cons, List.not_mem_nil, or_false] at hc
  rcases hc with rfl | rfl | rfl | rfl | rfl
  · exact w_c0
  · exact w_c1
  · exact w_c2
  · exact w_c3
  · exact w_c4
set_option maxRecDepth 65536 in
theorem w_t1 : (words1.take 24).all (fun c => isCode c || c.before args0 about1) = true := by decide +kernel
set_option maxRecDepth 65536 in
theorem w_t2 : (words1.drop 24).all (fun c => isCode c || c.before args0 about1) = true := by decide +kernel
theorem w_tables : (allAtoms (Jvm.Cond.code x code maxLocals ret :: tables_1)).before args0 about1 = true := by
  rw [allAtoms_all]
  show words1.all (fun c => c.before args0 about1) = true
  refine all_split ?_ w_codes
  rw [← List.take_append_drop 24 words1, List.all_append, w_t1, w_t2]
  rfl
set_option maxRecDepth 65536 in
theorem w_case : (Jvm.Cond.and given_1 narrow_1).before args0 about1 = true := by decide +kernel
theorem w_applies : (headSpec (Jvm.Cond.code x code maxLocals ret :: tables_1) room_1).applies x e0.platform about1 = true :=
  (Spec.applies_iff w_frames).mpr ⟨w_running, w_runnable, w_alone, w_named, w_hears, w_ripe, w_room, w_tables⟩
theorem atStart : AtStart classFile x code maxLocals ret World_1 tables_1 room_1 Calls_1 rest_1 Pre_1 launch0 p0 e0 about1 theMethod args0 below0 :=
  ⟨lists_1, trivial, launch0.admits_env _ _ _, launch0.least_env, fairChoices_fair.cas, fairChoices_fair.clock, w_frames, w_args, w_heap, w_applies, trivial, trivial, w_case⟩
end start1
theorem witness_1 : WitnessClaimed_1 := ⟨start1.p0, start1.e0, start1.about1, start1.theMethod, start1.args0, start1.below0, start1.atStart⟩
end Jvm.Pilot.@@N@@
