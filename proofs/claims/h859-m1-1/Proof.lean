import JvmDerived
import JvmDerived.Pilot.@@N@@Statement
import JvmDerived.Pilot.@@N@@Code
set_option linter.unusedVariables false
set_option linter.unusedSimpArgs false
namespace Jvm.Pilot.@@N@@
open Jvm Jvm.ClassFile Sem Op Lib Jvm.Free Jvm.Stand Jvm.LawKit Jvm.RoadKit Bundle Jvm.Pilot.@@N@@.Jvm.D
section Own
variable {p : Program} {l : Launch} {e : Env} {R : Room} {s : State} {m : MethodId} {args : Array Value} {below : List Frame} {meth : Method} {c : Code} {T : State} {locs : List Loc} {cells slots : Nat} {Z : State} {h h' : Heap} {a b : Addr} {n k : Nat}
/-- a function with one place turned -/
def owUp {α : Type} (f : Nat → α) (k : Nat) (v : α) : Nat → α := fun i => if i = k then v else f i
theorem owUp_at {α : Type} {f : Nat → α} {k : Nat} {v : α} : owUp f k v k = v := if_pos rfl
theorem owUp_ne {α : Type} {f : Nat → α} {k i : Nat} {v : α} (q : i ≠ k) : owUp f k v i = f i := if_neg q
theorem owUpP {α : Type} {P : α → Prop} {f : Nat → α} {k : Nat} {v : α} (hf : ∀ i, P (f i)) (hv : P v) : ∀ i, P (owUp f k v i) := fun i => by
  by_cases q : i = k
  · rw [q, owUp_at]; exact hv
  · rw [owUp_ne q]; exact hf i
theorem owIdx {j : Int32} {k : Nat} (hj : j.toInt = (k : Int)) : j.toNatClampNeg = k := by
  have q : j.toNatClampNeg = j.toInt.toNat := rfl
  rw [q, hj]; rfl
theorem owIn {j : Int32} {k n sz : Nat} (hj : j.toInt = (k : Int)) (hk : k < n) (hs : sz = n) : ¬ (j < 0 ∨ sz ≤ j.toNatClampNeg) := by
  rw [owIdx hj, Int32.lt_iff_toInt_lt, hj, hs]
  have q : (0 : Int32).toInt = 0 := rfl
  omega
theorem owSlot {cl : Cell} {k i : Nat} {v : Value} (hk : k < cl.slots.size) : (cl.setSlot k v).slots[i]? = if i = k then some v else cl.slots[i]? := by
  by_cases q : i = k
  · subst q; rw [if_pos rfl]; simp [Cell.setSlot, hk]
  · rw [if_neg q]; exact Array.getElem?_setIfInBounds_ne (Ne.symm q)
/-- an array of ints (bytes, chars ..) whose components a function tells -/
def owAI (Z : State) (h : Heap) (a : Addr) (ty : FieldType) (n : Nat) (f : Nat → Int32) : Prop := ∃ c : Cell, Arr Z h a c ty ∧ c.slots.size = n ∧ ∀ i, i < n → c.slots[i]? = some (.int (f i))
/-- an array of longs -/
def owAJ (Z : State) (h : Heap) (a : Addr) (ty : FieldType) (n : Nat) (f : Nat → Int64) : Prop := ∃ c : Cell, Arr Z h a c ty ∧ c.slots.size = n ∧ ∀ i, i < n → c.slots[i]? = some (.long (f i))
theorem owAI.lt {ty : FieldType} {f : Nat → Int32} (F : owAI Z h a ty n f) : a < h.size := by obtain ⟨c, A, -⟩ := F; exact A.lt
theorem owAI.ext {ty : FieldType} {f : Nat → Int32} (F : owAI Z h a ty n f) (E : Ext h h') : owAI Z h' a ty n f := by obtain ⟨c, A, r⟩ := F; exact ⟨c, A.ext E, r⟩
theorem owAI.other {ty : FieldType} {f : Nat → Int32} {sl : Nat} {v : Value} (F : owAI Z h b ty n f) (W : Wr h h' a sl v) (q : b ≠ a) : owAI Z h' b ty n f := by obtain ⟨c, A, r⟩ := F; exact ⟨c, A.other W q, r⟩
theorem owAI.keep {ty : FieldType} {f : Nat → Int32} {ws : List Addr} (F : owAI Z h a ty n f) (K : Keep h h' ws) (q : a ∉ ws) : owAI Z h' a ty n f := by obtain ⟨c, A, r⟩ := F; exact ⟨c, ⟨K.2.1 a c A.1 q, A.2⟩, r⟩
theorem owAJ.lt {ty : FieldType} {f : Nat → Int64} (F : owAJ Z h a ty n f) : a < h.size := by obtain ⟨c, A, -⟩ := F; exact A.lt
theorem owAJ.ext {ty : FieldType} {f : Nat → Int64} (F : owAJ Z h a ty n f) (E : Ext h h') : owAJ Z h' a ty n f := by obtain ⟨c, A, r⟩ := F; exact ⟨c, A.ext E, r⟩
theorem owAJ.other {ty : FieldType} {f : Nat → Int64} {sl : Nat} {v : Value} (F : owAJ Z h b ty n f) (W : Wr h h' a sl v) (q : b ≠ a) : owAJ Z h' b ty n f := by obtain ⟨c, A, r⟩ := F; exact ⟨c, A.other W q, r⟩
theorem owAJ.keep {ty : FieldType} {f : Nat → Int64} {ws : List Addr} (F : owAJ Z h a ty n f) (K : Keep h h' ws) (q : a ∉ ws) : owAJ Z h' a ty n f := by obtain ⟨c, A, r⟩ := F; exact ⟨c, ⟨K.2.1 a c A.1 q, A.2⟩, r⟩
theorem owAI.new {ty : FieldType} {k : ClassId} {z : Int32} (A : Arr Z h a (newA k ty z) ty) (hz : z.toInt = (n : Int)) (hd : defaultValue ty = .int 0) : owAI Z h a ty n (fun _ => 0) :=
  ⟨_, A, by rw [sz_new]; exact owIdx hz, fun i hi => by rw [← hd]; simp [newA, owIdx hz, hi]⟩
theorem owAJ.new {ty : FieldType} {k : ClassId} {z : Int32} (A : Arr Z h a (newA k ty z) ty) (hz : z.toInt = (n : Int)) (hd : defaultValue ty = .long 0) : owAJ Z h a ty n (fun _ => 0) :=
  ⟨_, A, by rw [sz_new]; exact owIdx hz, fun i hi => by rw [← hd]; simp [newA, owIdx hz, hi]⟩
theorem owAI.to {ty : FieldType} {f g : Nat → Int32} (F : owAI Z h a ty n f) (q : ∀ i, i < n → f i = g i) : owAI Z h a ty n g := by
  obtain ⟨c, A, S, H⟩ := F; exact ⟨c, A, S, fun i hi => by rw [H i hi, q i hi]⟩
theorem owAJ.to {ty : FieldType} {f g : Nat → Int64} (F : owAJ Z h a ty n f) (q : ∀ i, i < n → f i = g i) : owAJ Z h a ty n g := by
  obtain ⟨c, A, S, H⟩ := F; exact ⟨c, A, S, fun i hi => by rw [H i hi, q i hi]⟩
theorem owLdB (X : Stand p l e R s m args below meth c T locs cells slots) (hx : p.tables.exec = Jvm.exec) (hZ : Z.Warmed39 s.vm) (eT : T.heap = h) {f : Nat → Int32} (A : owAI Z h a .byte n f) {j : Int32} (hj : j.toInt = (k : Int)) (hk : k < n) {g : JFrame} (hg : g.method = m) {rest : List Value} (hs : g.stack = .int j :: .ref a :: rest) (hd : decode c.code g.pc = .ok (.baload, 1)) (target : State) (kt : Steps p.tables e below (T.setTop { g with pc := g.pc + 1, stack := .int (f k) :: rest }) target) : Steps p.tables e below (T.setTop g) target := by
  obtain ⟨cl, Ar, S, H⟩ := A
  exact X.baloadBytes hx (by rw [eT]; exact Ar.1) (State.isArrayOf_alike hZ.alike Ar.2.1) Ar.2.2 (owIn hj hk S) (by rw [owIdx hj]; exact H k hk) hg hs hd target kt
theorem owLdC (X : Stand p l e R s m args below meth c T locs cells slots) (hx : p.tables.exec = Jvm.exec) (hZ : Z.Warmed39 s.vm) (eT : T.heap = h) {f : Nat → Int32} (A : owAI Z h a .char n f) {j : Int32} (hj : j.toInt = (k : Int)) (hk : k < n) {g : JFrame} (hg : g.method = m) {rest : List Value} (hs : g.stack = .int j :: .ref a :: rest) (hd : decode c.code g.pc = .ok (.caload, 1)) (target : State) (kt : Steps p.tables e below (T.setTop { g with pc := g.pc + 1, stack := .int (f k) :: rest }) target) : Steps p.tables e below (T.setTop g) target := by
  obtain ⟨cl, Ar, S, H⟩ := A
  exact X.caload hx (by rw [eT]; exact Ar.1) (State.isArrayOf_alike hZ.alike Ar.2.1) Ar.2.2 (owIn hj hk S) (by rw [owIdx hj]; exact H k hk) hg hs hd target kt
theorem owLdI (X : Stand p l e R s m args below meth c T locs cells slots) (hx : p.tables.exec = Jvm.exec) (hZ : Z.Warmed39 s.vm) (eT : T.heap = h) {f : Nat → Int32} (A : owAI Z h a .int n f) {j : Int32} (hj : j.toInt = (k : Int)) (hk : k < n) {g : JFrame} (hg : g.method = m) {rest : List Value} (hs : g.stack = .int j :: .ref a :: rest) (hd : decode c.code g.pc = .ok (.iaload, 1)) (target : State) (kt : Steps p.tables e below (T.setTop { g with pc := g.pc + 1, stack := .int (f k) :: rest }) target) : Steps p.tables e below (T.setTop g) target := by
  obtain ⟨cl, Ar, S, H⟩ := A
  exact X.iaload hx (by rw [eT]; exact Ar.1) (State.isArrayOf_alike hZ.alike Ar.2.1) Ar.2.2 (owIn hj hk S) (by rw [owIdx hj]; exact H k hk) hg hs hd target kt
theorem owLdJ (X : Stand p l e R s m args below meth c T locs cells slots) (hx : p.tables.exec = Jvm.exec) (hZ : Z.Warmed39 s.vm) (eT : T.heap = h) {f : Nat → Int64} (A : owAJ Z h a .long n f) {j : Int32} (hj : j.toInt = (k : Int)) (hk : k < n) {g : JFrame} (hg : g.method = m) {rest : List Value} (hs : g.stack = .int j :: .ref a :: rest) (hd : decode c.code g.pc = .ok (.laload, 1)) (target : State) (kt : Steps p.tables e below (T.setTop { g with pc := g.pc + 1, stack := .long (f k) :: rest }) target) : Steps p.tables e below (T.setTop g) target := by
  obtain ⟨cl, Ar, S, H⟩ := A
  exact X.laload hx (by rw [eT]; exact Ar.1) (State.isArrayOf_alike hZ.alike Ar.2.1) Ar.2.2 (owIn hj hk S) (by rw [owIdx hj]; exact H k hk) hg hs hd target kt
/-- an array of objects -/
def owAR (Z : State) (h : Heap) (a : Addr) (ty : FieldType) (n : Nat) (f : Nat → Addr) : Prop := ∃ c : Cell, Arr Z h a c ty ∧ c.slots.size = n ∧ ∀ i, i < n → c.slots[i]? = some (.ref (f i))
theorem owAR.lt {ty : FieldType} {f : Nat → Addr} (F : owAR Z h a ty n f) : a < h.size := by obtain ⟨c, A, -⟩ := F; exact A.lt
theorem owAR.ext {ty : FieldType} {f : Nat → Addr} (F : owAR Z h a ty n f) (E : Ext h h') : owAR Z h' a ty n f := by obtain ⟨c, A, r⟩ := F; exact ⟨c, A.ext E, r⟩
theorem owLdR (X : Stand p l e R s m args below meth c T locs cells slots) (hx : p.tables.exec = Jvm.exec) (hZ : Z.Warmed39 s.vm) (eT : T.heap = h) {ty : FieldType} {f : Nat → Addr} (A : owAR Z h a ty n f) (hty : ty.isReference = true) {j : Int32} (hj : j.toInt = (k : Int)) (hk : k < n) {g : JFrame} (hg : g.method = m) {rest : List Value} (hs : g.stack = .int j :: .ref a :: rest) (hd : decode c.code g.pc = .ok (.aaload, 1)) (target : State) (kt : Steps p.tables e below (T.setTop { g with pc := g.pc + 1, stack := .ref (f k) :: rest }) target) : Steps p.tables e below (T.setTop g) target := by
  obtain ⟨cl, Ar, S, H⟩ := A
  exact X.aaload hx (by rw [eT]; exact Ar.1) (State.isArrayOf_alike hZ.alike Ar.2.1) hty Ar.2.2 (owIn hj hk S) (by rw [owIdx hj]; exact H k hk) hg hs hd target kt
theorem owLenI (X : Stand p l e R s m args below meth c T locs cells slots) (hx : p.tables.exec = Jvm.exec) (hZ : Z.Warmed39 s.vm) (eT : T.heap = h) {ty : FieldType} {f : Nat → Int32} (A : owAI Z h a ty n f) {z : Int32} (hz : n.toInt32 = z) {g : JFrame} (hg : g.method = m) {rest : List Value} (hs : g.stack = .ref a :: rest) (hd : decode c.code g.pc = .ok (.arraylength, 1)) (target : State) (kt : Steps p.tables e below (T.setTop { g with pc := g.pc + 1, stack := .int z :: rest }) target) : Steps p.tables e below (T.setTop g) target := by
  obtain ⟨cl, Ar, S, H⟩ := A
  exact X.arraylength hx (by rw [eT]; exact Ar.1) (State.isArrayOf_alike hZ.alike Ar.2.1) hg hs hd target (by rw [S, hz]; exact kt)
theorem owLenJ (X : Stand p l e R s m args below meth c T locs cells slots) (hx : p.tables.exec = Jvm.exec) (hZ : Z.Warmed39 s.vm) (eT : T.heap = h) {ty : FieldType} {f : Nat → Int64} (A : owAJ Z h a ty n f) {z : Int32} (hz : n.toInt32 = z) {g : JFrame} (hg : g.method = m) {rest : List Value} (hs : g.stack = .ref a :: rest) (hd : decode c.code g.pc = .ok (.arraylength, 1)) (target : State) (kt : Steps p.tables e below (T.setTop { g with pc := g.pc + 1, stack := .int z :: rest }) target) : Steps p.tables e below (T.setTop g) target := by
  obtain ⟨cl, Ar, S, H⟩ := A
  exact X.arraylength hx (by rw [eT]; exact Ar.1) (State.isArrayOf_alike hZ.alike Ar.2.1) hg hs hd target (by rw [S, hz]; exact kt)
theorem owSetI {ty : FieldType} {f : Nat → Int32} {cl : Cell} {x : Int32} (Ar : Arr Z h a cl ty) (S : cl.slots.size = n) (H : ∀ i, i < n → cl.slots[i]? = some (.int (f i))) (hk : k < n) (W : Wr h h' a k (.int x)) : owAI Z h' a ty n (owUp f k x) :=
  ⟨cl.setSlot k (.int x), Ar.same W, by rw [sz_set]; exact S, fun i hi => by
    rw [owSlot (by omega)]
    by_cases q : i = k
    · rw [if_pos q, q, owUp_at]
    · rw [if_neg q, owUp_ne q]; exact H i hi⟩
theorem owSetJ {ty : FieldType} {f : Nat → Int64} {cl : Cell} {x : Int64} (Ar : Arr Z h a cl ty) (S : cl.slots.size = n) (H : ∀ i, i < n → cl.slots[i]? = some (.long (f i))) (hk : k < n) (W : Wr h h' a k (.long x)) : owAJ Z h' a ty n (owUp f k x) :=
  ⟨cl.setSlot k (.long x), Ar.same W, by rw [sz_set]; exact S, fun i hi => by
    rw [owSlot (by omega)]
    by_cases q : i = k
    · rw [if_pos q, q, owUp_at]
    · rw [if_neg q, owUp_ne q]; exact H i hi⟩
theorem owStB (X : Stand p l e R s m args below meth c T locs cells slots) (hx : p.tables.exec = Jvm.exec) (hZ : Z.Warmed39 s.vm) (eT : T.heap = h) {f : Nat → Int32} (A : owAI Z h a .byte n f) {j x : Int32} (hj : j.toInt = (k : Int)) (hk : k < n) {g : JFrame} (hg : g.method = m) {rest : List Value} (hs : g.stack = .int x :: .int j :: .ref a :: rest) (hd : decode c.code g.pc = .ok (.bastore, 1)) :
    ∃ T' h', Stand p l e R s m args below meth c T' (locs ++ [⟨a, k⟩]) cells slots ∧ T'.heap = h' ∧ Wr h h' a k (.int x.toInt8.toInt32) ∧ owAI Z h' a .byte n (owUp f k x.toInt8.toInt32) ∧ ∀ target, Steps p.tables e below (T'.setTop { g with pc := g.pc + 1, stack := rest }) target → Steps p.tables e below (T.setTop g) target := by
  obtain ⟨cl, Ar, S, H⟩ := A
  have st := stB X hx hZ eT Ar (j := j) (owIn hj hk S) hg hs hd
  rw [owIdx hj] at st
  obtain ⟨T', h', X', e', W, st⟩ := st
  exact ⟨T', h', X', e', W, owSetI Ar S H hk W, st⟩
theorem owStC (X : Stand p l e R s m args below meth c T locs cells slots) (hx : p.tables.exec = Jvm.exec) (hZ : Z.Warmed39 s.vm) (eT : T.heap = h) {f : Nat → Int32} (A : owAI Z h a .char n f) {j x : Int32} (hj : j.toInt = (k : Int)) (hk : k < n) {g : JFrame} (hg : g.method = m) {rest : List Value} (hs : g.stack = .int x :: .int j :: .ref a :: rest) (hd : decode c.code g.pc = .ok (.castore, 1)) :
    ∃ T' h', Stand p l e R s m args below meth c T' (locs ++ [⟨a, k⟩]) cells slots ∧ T'.heap = h' ∧ Wr h h' a k (.int x.toUInt32.toUInt16.toUInt32.toInt32) ∧ owAI Z h' a .char n (owUp f k x.toUInt32.toUInt16.toUInt32.toInt32) ∧ ∀ target, Steps p.tables e below (T'.setTop { g with pc := g.pc + 1, stack := rest }) target → Steps p.tables e below (T.setTop g) target := by
  obtain ⟨cl, Ar, S, H⟩ := A
  have st := stC X hx hZ eT Ar (j := j) (owIn hj hk S) hg hs hd
  rw [owIdx hj] at st
  obtain ⟨T', h', X', e', W, st⟩ := st
  exact ⟨T', h', X', e', W, owSetI Ar S H hk W, st⟩
theorem owStI (X : Stand p l e R s m args below meth c T locs cells slots) (hx : p.tables.exec = Jvm.exec) (hZ : Z.Warmed39 s.vm) (eT : T.heap = h) {f : Nat → Int32} (A : owAI Z h a .int n f) {j x : Int32} (hj : j.toInt = (k : Int)) (hk : k < n) {g : JFrame} (hg : g.method = m) {rest : List Value} (hs : g.stack = .int x :: .int j :: .ref a :: rest) (hd : decode c.code g.pc = .ok (.iastore, 1)) :
    ∃ T' h', Stand p l e R s m args below meth c T' (locs ++ [⟨a, k⟩]) cells slots ∧ T'.heap = h' ∧ Wr h h' a k (.int x) ∧ owAI Z h' a .int n (owUp f k x) ∧ ∀ target, Steps p.tables e below (T'.setTop { g with pc := g.pc + 1, stack := rest }) target → Steps p.tables e below (T.setTop g) target := by
  obtain ⟨cl, Ar, S, H⟩ := A
  have st := stI X hx hZ eT Ar (j := j) (owIn hj hk S) hg hs hd
  rw [owIdx hj] at st
  obtain ⟨T', h', X', e', W, st⟩ := st
  exact ⟨T', h', X', e', W, owSetI Ar S H hk W, st⟩
theorem owStJ (X : Stand p l e R s m args below meth c T locs cells slots) (hx : p.tables.exec = Jvm.exec) (hZ : Z.Warmed39 s.vm) (eT : T.heap = h) {f : Nat → Int64} (A : owAJ Z h a .long n f) {j : Int32} {x : Int64} (hj : j.toInt = (k : Int)) (hk : k < n) {g : JFrame} (hg : g.method = m) {rest : List Value} (hs : g.stack = .long x :: .int j :: .ref a :: rest) (hd : decode c.code g.pc = .ok (.lastore, 1)) :
    ∃ T' h', Stand p l e R s m args below meth c T' (locs ++ [⟨a, k⟩]) cells slots ∧ T'.heap = h' ∧ Wr h h' a k (.long x) ∧ owAJ Z h' a .long n (owUp f k x) ∧ ∀ target, Steps p.tables e below (T'.setTop { g with pc := g.pc + 1, stack := rest }) target → Steps p.tables e below (T.setTop g) target := by
  obtain ⟨cl, Ar, S, H⟩ := A
  have st := stJ X hx hZ eT Ar (j := j) (owIn hj hk S) hg hs hd
  rw [owIdx hj] at st
  obtain ⟨T', h', X', e', W, st⟩ := st
  exact ⟨T', h', X', e', W, owSetJ Ar S H hk W, st⟩
theorem owSel {s : State} {args : Array Value} {y : MethodName} {n : Nat} (hi : (Cond.instantiable y.cls n).before args s = true) (hpriv : s.PrivateAt y) (hinst : (Cond.instanceMethod y).before args s = true) (hy : y.cls ≠ "java/lang/invoke/MethodHandle" ∧ y.cls ≠ "java/lang/invoke/VarHandle") : (Cond.selects y.cls y y).before args s = true := by
  obtain ⟨c, k, h1, h2, -, h4, -⟩ := Cond.instantiable_spec hi
  have h5 : k.isInterface = false := by cases hq : k.isInterface <;> simp_all
  exact selects_self_of_private h1 h2 h5 hpriv hinst hy
theorem owRetI (X : Stand p l e R s m args below meth c T locs cells slots) (hx : p.tables.exec = Jvm.exec) {pc : Nat} {Ls : Array Slot} {z : Int32} (hret : meth.sig.returnType = some .int) (hd : decode c.code pc = .ok (.ireturn, 1)) {fs : List Frame}
    (hl : ∀ (f : JFrame) (acts : List Action), f.method = m → f.locked = none → f.entered = [] → (doReturn e (T.setTop f) acts (some (.int z))).1 = T.setFrames fs) : Steps p.tables e below (T.setTop (mkF m pc Ls [.int z])) (T.setFrames fs) :=
  X.ireturnOut hx hret rfl (Or.inl rfl) hd hl
end Own

theorem own_ix {p2 : Int32} {kb : Nat} (c : Int32) (d : Nat) (h : p2.toInt = (kb : Int)) (h1 : kb ≤ 1) (hc : c.toInt = (d : Int)) (hd : d ≤ 3) : (p2 + c).toInt = ((kb + d : Nat) : Int) := by
  have q := c_iadd p2 c
  have r := rng32 (p2 + c)
  omega
theorem d1_0 : decode prog_50_method_9_code 0 = .ok (.aload_n 0, 1) := by decide +kernel
theorem d1_1 : decode prog_50_method_9_code 1 = .ok (.iload_n 1, 1) := by decide +kernel
theorem d1_2 : decode prog_50_method_9_code 2 = .ok (.baload, 1) := by decide +kernel
theorem d1_3 : decode prog_50_method_9_code 3 = .ok (.sipush 255, 3) := by decide +kernel
theorem d1_6 : decode prog_50_method_9_code 6 = .ok (.iand, 1) := by decide +kernel
theorem d1_7 : decode prog_50_method_9_code 7 = .ok (.istore_n 3, 1) := by decide +kernel
theorem d1_8 : decode prog_50_method_9_code 8 = .ok (.iconst 0, 1) := by decide +kernel
theorem d1_9 : decode prog_50_method_9_code 9 = .ok (.istore 4, 2) := by decide +kernel
theorem d1_11 : decode prog_50_method_9_code 11 = .ok (.sipush 128, 3) := by decide +kernel
theorem d1_14 : decode prog_50_method_9_code 14 = .ok (.istore 5, 2) := by decide +kernel
theorem d1_16 : decode prog_50_method_9_code 16 = .ok (.sipush 191, 3) := by decide +kernel
theorem d1_19 : decode prog_50_method_9_code 19 = .ok (.istore 6, 2) := by decide +kernel
theorem d1_21 : decode prog_50_method_9_code 21 = .ok (.iload_n 3, 1) := by decide +kernel
theorem d1_22 : decode prog_50_method_9_code 22 = .ok (.sipush 128, 3) := by decide +kernel
theorem d1_25 : decode prog_50_method_9_code 25 = .ok (.if_icmp .ge 9, 3) := by decide +kernel
theorem d1_28 : decode prog_50_method_9_code 28 = .ok (.iconst 1, 1) := by decide +kernel
theorem d1_29 : decode prog_50_method_9_code 29 = .ok (.istore 4, 2) := by decide +kernel
theorem d1_31 : decode prog_50_method_9_code 31 = .ok (.goto 128, 3) := by decide +kernel
theorem d1_34 : decode prog_50_method_9_code 34 = .ok (.iload_n 3, 1) := by decide +kernel
theorem d1_35 : decode prog_50_method_9_code 35 = .ok (.sipush 194, 3) := by decide +kernel
theorem d1_38 : decode prog_50_method_9_code 38 = .ok (.if_icmp .lt 16, 3) := by decide +kernel
theorem d1_41 : decode prog_50_method_9_code 41 = .ok (.iload_n 3, 1) := by decide +kernel
theorem d1_42 : decode prog_50_method_9_code 42 = .ok (.sipush 223, 3) := by decide +kernel
theorem d1_45 : decode prog_50_method_9_code 45 = .ok (.if_icmp .gt 9, 3) := by decide +kernel
theorem d1_48 : decode prog_50_method_9_code 48 = .ok (.iconst 2, 1) := by decide +kernel
theorem d1_49 : decode prog_50_method_9_code 49 = .ok (.istore 4, 2) := by decide +kernel
theorem d1_51 : decode prog_50_method_9_code 51 = .ok (.goto 108, 3) := by decide +kernel
theorem d1_54 : decode prog_50_method_9_code 54 = .ok (.iload_n 3, 1) := by decide +kernel
theorem d1_55 : decode prog_50_method_9_code 55 = .ok (.sipush 224, 3) := by decide +kernel
theorem d1_58 : decode prog_50_method_9_code 58 = .ok (.if_icmp .lt 50, 3) := by decide +kernel
theorem d1_61 : decode prog_50_method_9_code 61 = .ok (.iload_n 3, 1) := by decide +kernel
theorem d1_62 : decode prog_50_method_9_code 62 = .ok (.sipush 239, 3) := by decide +kernel
theorem d1_65 : decode prog_50_method_9_code 65 = .ok (.if_icmp .gt 43, 3) := by decide +kernel
theorem d1_68 : decode prog_50_method_9_code 68 = .ok (.iconst 3, 1) := by decide +kernel
theorem d1_69 : decode prog_50_method_9_code 69 = .ok (.istore 4, 2) := by decide +kernel
theorem d1_71 : decode prog_50_method_9_code 71 = .ok (.iload_n 3, 1) := by decide +kernel
theorem d1_72 : decode prog_50_method_9_code 72 = .ok (.sipush 224, 3) := by decide +kernel
theorem d1_75 : decode prog_50_method_9_code 75 = .ok (.if_icmp .ne 9, 3) := by decide +kernel
theorem d1_78 : decode prog_50_method_9_code 78 = .ok (.sipush 160, 3) := by decide +kernel
theorem d1_81 : decode prog_50_method_9_code 81 = .ok (.goto 5, 3) := by decide +kernel
theorem d1_84 : decode prog_50_method_9_code 84 = .ok (.iload 5, 2) := by decide +kernel
theorem d1_86 : decode prog_50_method_9_code 86 = .ok (.istore 5, 2) := by decide +kernel
theorem d1_88 : decode prog_50_method_9_code 88 = .ok (.iload_n 3, 1) := by decide +kernel
theorem d1_89 : decode prog_50_method_9_code 89 = .ok (.sipush 237, 3) := by decide +kernel
theorem d1_92 : decode prog_50_method_9_code 92 = .ok (.if_icmp .ne 9, 3) := by decide +kernel
theorem d1_95 : decode prog_50_method_9_code 95 = .ok (.sipush 159, 3) := by decide +kernel
theorem d1_98 : decode prog_50_method_9_code 98 = .ok (.goto 5, 3) := by decide +kernel
theorem d1_101 : decode prog_50_method_9_code 101 = .ok (.iload 6, 2) := by decide +kernel
theorem d1_103 : decode prog_50_method_9_code 103 = .ok (.istore 6, 2) := by decide +kernel
theorem d1_105 : decode prog_50_method_9_code 105 = .ok (.goto 54, 3) := by decide +kernel
theorem d1_108 : decode prog_50_method_9_code 108 = .ok (.iload_n 3, 1) := by decide +kernel
theorem d1_109 : decode prog_50_method_9_code 109 = .ok (.sipush 240, 3) := by decide +kernel
theorem d1_112 : decode prog_50_method_9_code 112 = .ok (.if_icmp .lt 47, 3) := by decide +kernel
theorem d1_115 : decode prog_50_method_9_code 115 = .ok (.iload_n 3, 1) := by decide +kernel
theorem d1_116 : decode prog_50_method_9_code 116 = .ok (.sipush 244, 3) := by decide +kernel
theorem d1_119 : decode prog_50_method_9_code 119 = .ok (.if_icmp .gt 40, 3) := by decide +kernel
theorem d1_122 : decode prog_50_method_9_code 122 = .ok (.iconst 4, 1) := by decide +kernel
theorem d1_123 : decode prog_50_method_9_code 123 = .ok (.istore 4, 2) := by decide +kernel
theorem d1_125 : decode prog_50_method_9_code 125 = .ok (.iload_n 3, 1) := by decide +kernel
theorem d1_126 : decode prog_50_method_9_code 126 = .ok (.sipush 240, 3) := by decide +kernel
theorem d1_129 : decode prog_50_method_9_code 129 = .ok (.if_icmp .ne 9, 3) := by decide +kernel
theorem d1_132 : decode prog_50_method_9_code 132 = .ok (.sipush 144, 3) := by decide +kernel
theorem d1_135 : decode prog_50_method_9_code 135 = .ok (.goto 5, 3) := by decide +kernel
theorem d1_138 : decode prog_50_method_9_code 138 = .ok (.iload 5, 2) := by decide +kernel
theorem d1_140 : decode prog_50_method_9_code 140 = .ok (.istore 5, 2) := by decide +kernel
theorem d1_142 : decode prog_50_method_9_code 142 = .ok (.iload_n 3, 1) := by decide +kernel
theorem d1_143 : decode prog_50_method_9_code 143 = .ok (.sipush 244, 3) := by decide +kernel
theorem d1_146 : decode prog_50_method_9_code 146 = .ok (.if_icmp .ne 9, 3) := by decide +kernel
theorem d1_149 : decode prog_50_method_9_code 149 = .ok (.sipush 143, 3) := by decide +kernel
theorem d1_152 : decode prog_50_method_9_code 152 = .ok (.goto 5, 3) := by decide +kernel
theorem d1_155 : decode prog_50_method_9_code 155 = .ok (.iload 6, 2) := by decide +kernel
theorem d1_157 : decode prog_50_method_9_code 157 = .ok (.istore 6, 2) := by decide +kernel
theorem d1_159 : decode prog_50_method_9_code 159 = .ok (.iload 4, 2) := by decide +kernel
theorem d1_161 : decode prog_50_method_9_code 161 = .ok (.ifCond .le 15, 3) := by decide +kernel
theorem d1_164 : decode prog_50_method_9_code 164 = .ok (.iload_n 1, 1) := by decide +kernel
theorem d1_165 : decode prog_50_method_9_code 165 = .ok (.iload 4, 2) := by decide +kernel
theorem d1_167 : decode prog_50_method_9_code 167 = .ok (.iadd, 1) := by decide +kernel
theorem d1_168 : decode prog_50_method_9_code 168 = .ok (.iload_n 2, 1) := by decide +kernel
theorem d1_169 : decode prog_50_method_9_code 169 = .ok (.if_icmp .gt 7, 3) := by decide +kernel
theorem d1_172 : decode prog_50_method_9_code 172 = .ok (.iconst 1, 1) := by decide +kernel
theorem d1_173 : decode prog_50_method_9_code 173 = .ok (.goto 4, 3) := by decide +kernel
theorem d1_176 : decode prog_50_method_9_code 176 = .ok (.iconst 0, 1) := by decide +kernel
theorem d1_177 : decode prog_50_method_9_code 177 = .ok (.istore 7, 2) := by decide +kernel
theorem d1_179 : decode prog_50_method_9_code 179 = .ok (.iconst 1, 1) := by decide +kernel
theorem d1_180 : decode prog_50_method_9_code 180 = .ok (.istore 8, 2) := by decide +kernel
theorem d1_182 : decode prog_50_method_9_code 182 = .ok (.iload 7, 2) := by decide +kernel
theorem d1_184 : decode prog_50_method_9_code 184 = .ok (.ifCond .eq 79, 3) := by decide +kernel
theorem d1_187 : decode prog_50_method_9_code 187 = .ok (.iload 8, 2) := by decide +kernel
theorem d1_189 : decode prog_50_method_9_code 189 = .ok (.iload 4, 2) := by decide +kernel
theorem d1_191 : decode prog_50_method_9_code 191 = .ok (.if_icmp .ge 72, 3) := by decide +kernel
theorem d1_194 : decode prog_50_method_9_code 194 = .ok (.aload_n 0, 1) := by decide +kernel
theorem d1_195 : decode prog_50_method_9_code 195 = .ok (.iload_n 1, 1) := by decide +kernel
theorem d1_196 : decode prog_50_method_9_code 196 = .ok (.iload 8, 2) := by decide +kernel
theorem d1_198 : decode prog_50_method_9_code 198 = .ok (.iadd, 1) := by decide +kernel
theorem d1_199 : decode prog_50_method_9_code 199 = .ok (.baload, 1) := by decide +kernel
theorem d1_200 : decode prog_50_method_9_code 200 = .ok (.sipush 255, 3) := by decide +kernel
theorem d1_203 : decode prog_50_method_9_code 203 = .ok (.iand, 1) := by decide +kernel
theorem d1_204 : decode prog_50_method_9_code 204 = .ok (.istore 9, 2) := by decide +kernel
theorem d1_206 : decode prog_50_method_9_code 206 = .ok (.iload 8, 2) := by decide +kernel
theorem d1_208 : decode prog_50_method_9_code 208 = .ok (.iconst 1, 1) := by decide +kernel
theorem d1_209 : decode prog_50_method_9_code 209 = .ok (.if_icmp .ne 25, 3) := by decide +kernel
theorem d1_212 : decode prog_50_method_9_code 212 = .ok (.iload 9, 2) := by decide +kernel
theorem d1_214 : decode prog_50_method_9_code 214 = .ok (.iload 5, 2) := by decide +kernel
theorem d1_216 : decode prog_50_method_9_code 216 = .ok (.if_icmp .lt 14, 3) := by decide +kernel
theorem d1_219 : decode prog_50_method_9_code 219 = .ok (.iload 9, 2) := by decide +kernel
theorem d1_221 : decode prog_50_method_9_code 221 = .ok (.iload 6, 2) := by decide +kernel
theorem d1_223 : decode prog_50_method_9_code 223 = .ok (.if_icmp .gt 7, 3) := by decide +kernel
theorem d1_226 : decode prog_50_method_9_code 226 = .ok (.iconst 1, 1) := by decide +kernel
theorem d1_227 : decode prog_50_method_9_code 227 = .ok (.goto 28, 3) := by decide +kernel
theorem d1_230 : decode prog_50_method_9_code 230 = .ok (.iconst 0, 1) := by decide +kernel
theorem d1_231 : decode prog_50_method_9_code 231 = .ok (.goto 24, 3) := by decide +kernel
theorem d1_234 : decode prog_50_method_9_code 234 = .ok (.iload 9, 2) := by decide +kernel
theorem d1_236 : decode prog_50_method_9_code 236 = .ok (.sipush 128, 3) := by decide +kernel
theorem d1_239 : decode prog_50_method_9_code 239 = .ok (.if_icmp .lt 15, 3) := by decide +kernel
theorem d1_242 : decode prog_50_method_9_code 242 = .ok (.iload 9, 2) := by decide +kernel
theorem d1_244 : decode prog_50_method_9_code 244 = .ok (.sipush 191, 3) := by decide +kernel
theorem d1_247 : decode prog_50_method_9_code 247 = .ok (.if_icmp .gt 7, 3) := by decide +kernel
theorem d1_250 : decode prog_50_method_9_code 250 = .ok (.iconst 1, 1) := by decide +kernel
theorem d1_251 : decode prog_50_method_9_code 251 = .ok (.goto 4, 3) := by decide +kernel
theorem d1_254 : decode prog_50_method_9_code 254 = .ok (.iconst 0, 1) := by decide +kernel
theorem d1_255 : decode prog_50_method_9_code 255 = .ok (.istore 7, 2) := by decide +kernel
theorem d1_257 : decode prog_50_method_9_code 257 = .ok (.iinc 8 1, 3) := by decide +kernel
theorem d1_260 : decode prog_50_method_9_code 260 = .ok (.goto (-78), 3) := by decide +kernel
theorem d1_263 : decode prog_50_method_9_code 263 = .ok (.iload 7, 2) := by decide +kernel
theorem d1_265 : decode prog_50_method_9_code 265 = .ok (.ifCond .eq 8, 3) := by decide +kernel
theorem d1_268 : decode prog_50_method_9_code 268 = .ok (.iload 4, 2) := by decide +kernel
theorem d1_270 : decode prog_50_method_9_code 270 = .ok (.goto 4, 3) := by decide +kernel
theorem d1_273 : decode prog_50_method_9_code 273 = .ok (.iconst 0, 1) := by decide +kernel
theorem d1_274 : decode prog_50_method_9_code 274 = .ok (.ireturn, 1) := by decide +kernel
theorem pn_1 : plainName "com/example/fama/fama/table/TableLines" = true := by first | (simp [plainName, overriddenIn]; done) | decide +kernel
theorem ef_1 (m : MethodId) (x0 : Addr) (x1 : Int32) (x2 : Int32) : entryFrame m #[(.ref x0), (.int x1), (.int x2)] 10 = mkF m 0 #[.val (.ref x0), .val (.int x1), .val (.int x2), .unset, .unset, .unset, .unset, .unset, .unset, .unset] [] := by first | (simp [entryFrame, mkF, argsToLocals, Value.category]; done) | rfl
def fn1 (a1 : Addr) (p2 : Int32) (p3 : Int32) (fb : Nat → Int32) (kb : Nat) : Int32 := (if ((fb kb) &&& (255 : Int32)) < (128 : Int32) then (if p3 < (p2 + (1 : Int32)) then (0 : Int32) else (1 : Int32)) else (if ((fb kb) &&& (255 : Int32)) < (194 : Int32) then (0 : Int32) else (if (223 : Int32) < ((fb kb) &&& (255 : Int32)) then (if (239 : Int32) < ((fb kb) &&& (255 : Int32)) then (if (244 : Int32) < ((fb kb) &&& (255 : Int32)) then (0 : Int32) else (if p3 < (p2 + (4 : Int32)) then (0 : Int32) else (if ((fb (kb + 1)) &&& (255 : Int32)) < (if ((fb kb) &&& (255 : Int32)) = (240 : Int32) then (144 : Int32) else (128 : Int32)) then (0 : Int32) else (if (if ((fb kb) &&& (255 : Int32)) = (244 : Int32) then (143 : Int32) else (191 : Int32)) < ((fb (kb + 1)) &&& (255 : Int32)) then (0 : Int32) else (if ((fb (kb + 2)) &&& (255 : Int32)) < (128 : Int32) then (0 : Int32) else (if (191 : Int32) < ((fb (kb + 2)) &&& (255 : Int32)) then (0 : Int32) else (if ((fb (kb + 3)) &&& (255 : Int32)) < (128 : Int32) then (0 : Int32) else (if (191 : Int32) < ((fb (kb + 3)) &&& (255 : Int32)) then (0 : Int32) else (4 : Int32))))))))) else (if p3 < (p2 + (3 : Int32)) then (0 : Int32) else (if ((fb (kb + 1)) &&& (255 : Int32)) < (if ((fb kb) &&& (255 : Int32)) = (224 : Int32) then (160 : Int32) else (128 : Int32)) then (0 : Int32) else (if (if ((fb kb) &&& (255 : Int32)) = (237 : Int32) then (159 : Int32) else (191 : Int32)) < ((fb (kb + 1)) &&& (255 : Int32)) then (0 : Int32) else (if ((fb (kb + 2)) &&& (255 : Int32)) < (128 : Int32) then (0 : Int32) else (if (191 : Int32) < ((fb (kb + 2)) &&& (255 : Int32)) then (0 : Int32) else (3 : Int32))))))) else (if p3 < (p2 + (2 : Int32)) then (0 : Int32) else (if ((fb (kb + 1)) &&& (255 : Int32)) < (128 : Int32) then (0 : Int32) else (if (191 : Int32) < ((fb (kb + 1)) &&& (255 : Int32)) then (0 : Int32) else (2 : Int32)))))))
def Q1 (Z : State) (a1 : Addr) (p2 : Int32) (p3 : Int32) (fb : Nat → Int32) (kb : Nat) (h0 : Heap) (n0 : Nat) (v : Option Value) (h : Heap) (L : List Loc) : Prop := v = some (.int (fn1 a1 p2 p3 fb kb)) ∧ Fr n0 L ∧ h = h0
set_option maxRecDepth 65536 in
set_option maxHeartbeats 40000000 in
theorem rm1 (l : Launch) (Z : State) (a0 : Array Value) (hw : ∀ d ∈ tables_1, d.before a0 Z = true) (ws : List Jvm.Cond) (a1 : Addr) (p2 : Int32) (p3 : Int32) (fb : Nat → Int32) (kb : Nat) (h0 : Heap) (n0 : Nat) (Z0 : n0 ≤ h0.size) (A_ab : owAI Z h0 a1 .byte 5 fb) (hkb : p2.toInt = (kb : Int)) (hk1 : kb ≤ 1) :
    MetFree l (⟨"com/example/fama/fama/table/TableLines", "sequenceLength", "([BII)I"⟩ : MethodName) (head1 (Jvm.Cond.code (⟨"com/example/fama/fama/table/TableLines", "sequenceLength", "([BII)I"⟩ : MethodName) prog_50_method_9_code 10 (some .int) :: ws) ({ frames := 0, cells := 0, slots := 0, locals := 0 } : Room)) (fun a U => a = #[(.ref a1), (.int p2), (.int p3)] ∧ Z.Warmed39 U.vm ∧ U.heap = h0) (fun _ _ _ _ _ => True) (fun _ U o U' => ∃ v L, o = .returned v ∧ Q1 Z a1 p2 p3 fb kb h0 n0 v U'.heap L ∧ FrameEnd U o U' L ({ frames := 0, cells := 0, slots := 0, locals := 0 } : Room).cells ({ frames := 0, cells := 0, slots := 0, locals := 0 } : Room).slots) := by
  refine MetFree.of_bodySF (plainFor_of_name pn_1) hisR ?_
  intro p e s m args below meth c s₁ Bd hml0 hP hK
  obtain ⟨rfl, hZ, hh⟩ := hP
  have hx := Bd.exec
  have hby := Bd.bytes
  have hml : c.maxLocals = 10 := hml0
  have hown : s.vm.findClass "com/example/fama/fama/table/TableLines" = some m.cls := findClass_of_methodNamed Bd.named
  have hnm := (name_of_methodNamed Bd.named Bd.method).1
  have X0 : Stand p l e ({ frames := 0, cells := 0, slots := 0, locals := 0 } : Room) s m #[(.ref a1), (.int p2), (.int p3)] below meth c s₁ [] 0 0 := Stand.of_body Bd
  have e0 : s₁.heap = h0 := by rw [← hh, Bd.state]; rfl
  have N0 := Fr.nil n0
  have pre0 : ∀ t, Steps p.tables e below (s₁.setTop (mkF m 0 #[.val (.ref a1), .val (.int p2), .val (.int p3), .unset, .unset, .unset, .unset, .unset, .unset, .unset] [])) t → Steps p.tables e below (s₁.setTop (entryFrame m #[(.ref a1), (.int p2), (.int p3)] 10)) t := fun t k => castTop (ef_1 m a1 p2 p3) k
  have pre1 : ∀ t, Steps p.tables e below (s₁.setTop (mkF m 7 #[.val (.ref a1), .val (.int p2), .val (.int p3), .unset, .unset, .unset, .unset, .unset, .unset, .unset] [(.int ((fb kb) &&& (255 : Int32)))])) t → Steps p.tables e below (s₁.setTop (entryFrame m #[(.ref a1), (.int p2), (.int p3)] 10)) t := by
    intro t kt
    refine pre0 _ ?_
    show Steps p.tables e below (s₁.setTop (mkF m 0 #[.val (.ref a1), .val (.int p2), .val (.int p3), .unset, .unset, .unset, .unset, .unset, .unset, .unset] [])) _
    refine XS.aloadN X0.here hx rfl (hb hby d1_0) rfl rfl ?_
    show Steps p.tables e below (s₁.setTop (mkF m 1 #[.val (.ref a1), .val (.int p2), .val (.int p3), .unset, .unset, .unset, .unset, .unset, .unset, .unset] [(.ref a1)])) _
    refine XS.iloadN X0.here hx rfl (hb hby d1_1) rfl ?_
    show Steps p.tables e below (s₁.setTop (mkF m 2 #[.val (.ref a1), .val (.int p2), .val (.int p3), .unset, .unset, .unset, .unset, .unset, .unset, .unset] [(.int p2), (.ref a1)])) _
    refine owLdB (k := kb) X0 hx hZ e0 A_ab (j := p2) hkb (by omega) (g := (mkF m 2 #[.val (.ref a1), .val (.int p2), .val (.int p3), .unset, .unset, .unset, .unset, .unset, .unset, .unset] [(.int p2), (.ref a1)])) rfl rfl (hb hby d1_2) _ ?_
    show Steps p.tables e below (s₁.setTop (mkF m 3 #[.val (.ref a1), .val (.int p2), .val (.int p3), .unset, .unset, .unset, .unset, .unset, .unset, .unset] [(.int (fb kb))])) _
    refine XS.sipush X0.here hx rfl (hb hby d1_3) ?_
    show Steps p.tables e below (s₁.setTop (mkF m 6 #[.val (.ref a1), .val (.int p2), .val (.int p3), .unset, .unset, .unset, .unset, .unset, .unset, .unset] [(.int (255 : Int32)), (.int (fb kb))])) _
    refine XS.iand X0.here hx rfl (hb hby d1_6) rfl ?_
    exact kt
  obtain ⟨ld, h_ld⟩ : ∃ z : Int32, z = ((fb kb) &&& (255 : Int32)) := ⟨_, rfl⟩
  have pre2 : ∀ t, Steps p.tables e below (s₁.setTop (mkF m 7 #[.val (.ref a1), .val (.int p2), .val (.int p3), .unset, .unset, .unset, .unset, .unset, .unset, .unset] [(.int ld)])) t → Steps p.tables e below (s₁.setTop (entryFrame m #[(.ref a1), (.int p2), (.int p3)] 10)) t := by
    intro t kt
    rw [h_ld] at kt
    exact pre1 _ kt
  have pre3 : ∀ t, Steps p.tables e below (s₁.setTop (mkF m 25 #[.val (.ref a1), .val (.int p2), .val (.int p3), .val (.int ld), .val (.int (0 : Int32)), .val (.int (128 : Int32)), .val (.int (191 : Int32)), .unset, .unset, .unset] [(.int (128 : Int32)), (.int ld)])) t → Steps p.tables e below (s₁.setTop (entryFrame m #[(.ref a1), (.int p2), (.int p3)] 10)) t := by
    intro t kt
    refine pre2 _ ?_
    show Steps p.tables e below (s₁.setTop (mkF m 7 #[.val (.ref a1), .val (.int p2), .val (.int p3), .unset, .unset, .unset, .unset, .unset, .unset, .unset] [(.int ld)])) _
    refine XS.istoreN X0.here hx rfl (hb hby d1_7) rfl (l' := #[.val (.ref a1), .val (.int p2), .val (.int p3), .val (.int ld), .unset, .unset, .unset, .unset, .unset, .unset]) rfl ?_
    show Steps p.tables e below (s₁.setTop (mkF m 8 #[.val (.ref a1), .val (.int p2), .val (.int p3), .val (.int ld), .unset, .unset, .unset, .unset, .unset, .unset] [])) _
    refine XS.iconst X0.here hx rfl (hb hby d1_8) ?_
    show Steps p.tables e below (s₁.setTop (mkF m 9 #[.val (.ref a1), .val (.int p2), .val (.int p3), .val (.int ld), .unset, .unset, .unset, .unset, .unset, .unset] [(.int (0 : Int32))])) _
    refine XS.istore X0.here hx rfl (hb hby d1_9) rfl (l' := #[.val (.ref a1), .val (.int p2), .val (.int p3), .val (.int ld), .val (.int (0 : Int32)), .unset, .unset, .unset, .unset, .unset]) rfl ?_
    show Steps p.tables e below (s₁.setTop (mkF m 11 #[.val (.ref a1), .val (.int p2), .val (.int p3), .val (.int ld), .val (.int (0 : Int32)), .unset, .unset, .unset, .unset, .unset] [])) _
    refine XS.sipush X0.here hx rfl (hb hby d1_11) ?_
    show Steps p.tables e below (s₁.setTop (mkF m 14 #[.val (.ref a1), .val (.int p2), .val (.int p3), .val (.int ld), .val (.int (0 : Int32)), .unset, .unset, .unset, .unset, .unset] [(.int (128 : Int32))])) _
    refine XS.istore X0.here hx rfl (hb hby d1_14) rfl (l' := #[.val (.ref a1), .val (.int p2), .val (.int p3), .val (.int ld), .val (.int (0 : Int32)), .val (.int (128 : Int32)), .unset, .unset, .unset, .unset]) rfl ?_
    show Steps p.tables e below (s₁.setTop (mkF m 16 #[.val (.ref a1), .val (.int p2), .val (.int p3), .val (.int ld), .val (.int (0 : Int32)), .val (.int (128 : Int32)), .unset, .unset, .unset, .unset] [])) _
    refine XS.sipush X0.here hx rfl (hb hby d1_16) ?_
    show Steps p.tables e below (s₁.setTop (mkF m 19 #[.val (.ref a1), .val (.int p2), .val (.int p3), .val (.int ld), .val (.int (0 : Int32)), .val (.int (128 : Int32)), .unset, .unset, .unset, .unset] [(.int (191 : Int32))])) _
    refine XS.istore X0.here hx rfl (hb hby d1_19) rfl (l' := #[.val (.ref a1), .val (.int p2), .val (.int p3), .val (.int ld), .val (.int (0 : Int32)), .val (.int (128 : Int32)), .val (.int (191 : Int32)), .unset, .unset, .unset]) rfl ?_
    show Steps p.tables e below (s₁.setTop (mkF m 21 #[.val (.ref a1), .val (.int p2), .val (.int p3), .val (.int ld), .val (.int (0 : Int32)), .val (.int (128 : Int32)), .val (.int (191 : Int32)), .unset, .unset, .unset] [])) _
    refine XS.iloadN X0.here hx rfl (hb hby d1_21) rfl ?_
    show Steps p.tables e below (s₁.setTop (mkF m 22 #[.val (.ref a1), .val (.int p2), .val (.int p3), .val (.int ld), .val (.int (0 : Int32)), .val (.int (128 : Int32)), .val (.int (191 : Int32)), .unset, .unset, .unset] [(.int ld)])) _
    refine XS.sipush X0.here hx rfl (hb hby d1_22) ?_
    exact kt
  by_cases hc25_4 : ld < (128 : Int32)
  · skip
    have pre5 : ∀ t, Steps p.tables e below (s₁.setTop (mkF m 169 #[.val (.ref a1), .val (.int p2), .val (.int p3), .val (.int ld), .val (.int (1 : Int32)), .val (.int (128 : Int32)), .val (.int (191 : Int32)), .unset, .unset, .unset] [(.int p3), (.int (p2 + (1 : Int32)))])) t → Steps p.tables e below (s₁.setTop (entryFrame m #[(.ref a1), (.int p2), (.int p3)] 10)) t := by
      intro t kt
      refine pre3 _ ?_
      show Steps p.tables e below (s₁.setTop (mkF m 25 #[.val (.ref a1), .val (.int p2), .val (.int p3), .val (.int ld), .val (.int (0 : Int32)), .val (.int (128 : Int32)), .val (.int (191 : Int32)), .unset, .unset, .unset] [(.int (128 : Int32)), (.int ld)])) _
      refine XS.icmpNo X0.here hx rfl (hb hby d1_25) rfl (XT.ii_ge_f hc25_4) ?_
      show Steps p.tables e below (s₁.setTop (mkF m 28 #[.val (.ref a1), .val (.int p2), .val (.int p3), .val (.int ld), .val (.int (0 : Int32)), .val (.int (128 : Int32)), .val (.int (191 : Int32)), .unset, .unset, .unset] [])) _
      refine XS.iconst X0.here hx rfl (hb hby d1_28) ?_
      show Steps p.tables e below (s₁.setTop (mkF m 29 #[.val (.ref a1), .val (.int p2), .val (.int p3), .val (.int ld), .val (.int (0 : Int32)), .val (.int (128 : Int32)), .val (.int (191 : Int32)), .unset, .unset, .unset] [(.int (1 : Int32))])) _
      refine XS.istore X0.here hx rfl (hb hby d1_29) rfl (l' := #[.val (.ref a1), .val (.int p2), .val (.int p3), .val (.int ld), .val (.int (1 : Int32)), .val (.int (128 : Int32)), .val (.int (191 : Int32)), .unset, .unset, .unset]) rfl ?_
      show Steps p.tables e below (s₁.setTop (mkF m 31 #[.val (.ref a1), .val (.int p2), .val (.int p3), .val (.int ld), .val (.int (1 : Int32)), .val (.int (128 : Int32)), .val (.int (191 : Int32)), .unset, .unset, .unset] [])) _
      refine XS.goto X0.here hx rfl (pc0 := 31) (pc' := 159) rfl (hb hby d1_31) (by decide) (by decide) ?_
      show Steps p.tables e below (s₁.setTop (mkF m 159 #[.val (.ref a1), .val (.int p2), .val (.int p3), .val (.int ld), .val (.int (1 : Int32)), .val (.int (128 : Int32)), .val (.int (191 : Int32)), .unset, .unset, .unset] [])) _
      refine XS.iload X0.here hx rfl (hb hby d1_159) rfl ?_
      show Steps p.tables e below (s₁.setTop (mkF m 161 #[.val (.ref a1), .val (.int p2), .val (.int p3), .val (.int ld), .val (.int (1 : Int32)), .val (.int (128 : Int32)), .val (.int (191 : Int32)), .unset, .unset, .unset] [(.int (1 : Int32))])) _
      refine XS.ifNo X0.here hx rfl (hb hby d1_161) rfl (XT.i0_le_f (by decide)) ?_
      show Steps p.tables e below (s₁.setTop (mkF m 164 #[.val (.ref a1), .val (.int p2), .val (.int p3), .val (.int ld), .val (.int (1 : Int32)), .val (.int (128 : Int32)), .val (.int (191 : Int32)), .unset, .unset, .unset] [])) _
      refine XS.iloadN X0.here hx rfl (hb hby d1_164) rfl ?_
      show Steps p.tables e below (s₁.setTop (mkF m 165 #[.val (.ref a1), .val (.int p2), .val (.int p3), .val (.int ld), .val (.int (1 : Int32)), .val (.int (128 : Int32)), .val (.int (191 : Int32)), .unset, .unset, .unset] [(.int p2)])) _
      refine XS.iload X0.here hx rfl (hb hby d1_165) rfl ?_
      show Steps p.tables e below (s₁.setTop (mkF m 167 #[.val (.ref a1), .val (.int p2), .val (.int p3), .val (.int ld), .val (.int (1 : Int32)), .val (.int (128 : Int32)), .val (.int (191 : Int32)), .unset, .unset, .unset] [(.int (1 : Int32)), (.int p2)])) _
      refine XS.iadd X0.here hx rfl (hb hby d1_167) rfl ?_
      show Steps p.tables e below (s₁.setTop (mkF m 168 #[.val (.ref a1), .val (.int p2), .val (.int p3), .val (.int ld), .val (.int (1 : Int32)), .val (.int (128 : Int32)), .val (.int (191 : Int32)), .unset, .unset, .unset] [(.int (p2 + (1 : Int32)))])) _
      refine XS.iloadN X0.here hx rfl (hb hby d1_168) rfl ?_
      exact kt
    by_cases hc169_6 : p3 < (p2 + (1 : Int32))
    · skip
      have pre7 : ∀ t, Steps p.tables e below (s₁.setTop (mkF m 274 #[.val (.ref a1), .val (.int p2), .val (.int p3), .val (.int ld), .val (.int (1 : Int32)), .val (.int (128 : Int32)), .val (.int (191 : Int32)), .val (.int (0 : Int32)), .val (.int (1 : Int32)), .unset] [(.int (0 : Int32))])) t → Steps p.tables e below (s₁.setTop (entryFrame m #[(.ref a1), (.int p2), (.int p3)] 10)) t := by
        intro t kt
        refine pre5 _ ?_
        show Steps p.tables e below (s₁.setTop (mkF m 169 #[.val (.ref a1), .val (.int p2), .val (.int p3), .val (.int ld), .val (.int (1 : Int32)), .val (.int (128 : Int32)), .val (.int (191 : Int32)), .unset, .unset, .unset] [(.int p3), (.int (p2 + (1 : Int32)))])) _
        refine XS.icmpYes X0.here hx rfl (pc0 := 169) (pc' := 176) rfl (hb hby d1_169) rfl (XT.ii_gt_t hc169_6) (by decide) (by decide) ?_
        show Steps p.tables e below (s₁.setTop (mkF m 176 #[.val (.ref a1), .val (.int p2), .val (.int p3), .val (.int ld), .val (.int (1 : Int32)), .val (.int (128 : Int32)), .val (.int (191 : Int32)), .unset, .unset, .unset] [])) _
        refine XS.iconst X0.here hx rfl (hb hby d1_176) ?_
        show Steps p.tables e below (s₁.setTop (mkF m 177 #[.val (.ref a1), .val (.int p2), .val (.int p3), .val (.int ld), .val (.int (1 : Int32)), .val (.int (128 : Int32)), .val (.int (191 : Int32)), .unset, .unset, .unset] [(.int (0 : Int32))])) _
        refine XS.istore X0.here hx rfl (hb hby d1_177) rfl (l' := #[.val (.ref a1), .val (.int p2), .val (.int p3), .val (.int ld), .val (.int (1 : Int32)), .val (.int (128 : Int32)), .val (.int (191 : Int32)), .val (.int (0 : Int32)), .unset, .unset]) rfl ?_
        show Steps p.tables e below (s₁.setTop (mkF m 179 #[.val (.ref a1), .val (.int p2), .val (.int p3), .val (.int ld), .val (.int (1 : Int32)), .val (.int (128 : Int32)), .val (.int (191 : Int32)), .val (.int (0 : Int32)), .unset, .unset] [])) _
        refine XS.iconst X0.here hx rfl (hb hby d1_179) ?_
        show Steps p.tables e below (s₁.setTop (mkF m 180 #[.val (.ref a1), .val (.int p2), .val (.int p3), .val (.int ld), .val (.int (1 : Int32)), .val (.int (128 : Int32)), .val (.int (191 : Int32)), .val (.int (0 : Int32)), .unset, .unset] [(.int (1 : Int32))])) _
        refine XS.istore X0.here hx rfl (hb hby d1_180) rfl (l' := #[.val (.ref a1), .val (.int p2), .val (.int p3), .val (.int ld), .val (.int (1 : Int32)), .val (.int (128 : Int32)), .val (.int (191 : Int32)), .val (.int (0 : Int32)), .val (.int (1 : Int32)), .unset]) rfl ?_
        show Steps p.tables e below (s₁.setTop (mkF m 182 #[.val (.ref a1), .val (.int p2), .val (.int p3), .val (.int ld), .val (.int (1 : Int32)), .val (.int (128 : Int32)), .val (.int (191 : Int32)), .val (.int (0 : Int32)), .val (.int (1 : Int32)), .unset] [])) _
        refine XS.iload X0.here hx rfl (hb hby d1_182) rfl ?_
        show Steps p.tables e below (s₁.setTop (mkF m 184 #[.val (.ref a1), .val (.int p2), .val (.int p3), .val (.int ld), .val (.int (1 : Int32)), .val (.int (128 : Int32)), .val (.int (191 : Int32)), .val (.int (0 : Int32)), .val (.int (1 : Int32)), .unset] [(.int (0 : Int32))])) _
        refine XS.ifYes X0.here hx rfl (pc0 := 184) (pc' := 263) rfl (hb hby d1_184) rfl (XT.i0_eq_t (by decide)) (by decide) (by decide) ?_
        show Steps p.tables e below (s₁.setTop (mkF m 263 #[.val (.ref a1), .val (.int p2), .val (.int p3), .val (.int ld), .val (.int (1 : Int32)), .val (.int (128 : Int32)), .val (.int (191 : Int32)), .val (.int (0 : Int32)), .val (.int (1 : Int32)), .unset] [])) _
        refine XS.iload X0.here hx rfl (hb hby d1_263) rfl ?_
        show Steps p.tables e below (s₁.setTop (mkF m 265 #[.val (.ref a1), .val (.int p2), .val (.int p3), .val (.int ld), .val (.int (1 : Int32)), .val (.int (128 : Int32)), .val (.int (191 : Int32)), .val (.int (0 : Int32)), .val (.int (1 : Int32)), .unset] [(.int (0 : Int32))])) _
        refine XS.ifYes X0.here hx rfl (pc0 := 265) (pc' := 273) rfl (hb hby d1_265) rfl (XT.i0_eq_t (by decide)) (by decide) (by decide) ?_
        show Steps p.tables e below (s₁.setTop (mkF m 273 #[.val (.ref a1), .val (.int p2), .val (.int p3), .val (.int ld), .val (.int (1 : Int32)), .val (.int (128 : Int32)), .val (.int (191 : Int32)), .val (.int (0 : Int32)), .val (.int (1 : Int32)), .unset] [])) _
        refine XS.iconst X0.here hx rfl (hb hby d1_273) ?_
        exact kt
      obtain ⟨fs, hr, hrun, hended, hW, hsame⟩ := X0.leave (v := some (.int (0 : Int32))) (fun h => by rw [Bd.returns] at h; cases h)
      refine ⟨_, _, pre7 _ ?_, hrun, hended, _, _, rfl, ?_, ⟨_, rfl⟩, hW, hsame.mono (by decide) (by decide)⟩
      · show Steps p.tables e below (s₁.setTop (mkF m 274 #[.val (.ref a1), .val (.int p2), .val (.int p3), .val (.int ld), .val (.int (1 : Int32)), .val (.int (128 : Int32)), .val (.int (191 : Int32)), .val (.int (0 : Int32)), .val (.int (1 : Int32)), .unset] [(.int (0 : Int32))])) _
        exact owRetI X0 hx Bd.returns (hb hby d1_274) hr
      · show Q1 Z a1 p2 p3 fb kb h0 n0 _ s₁.heap _
        rw [e0]
        exact ⟨by subst h_ld; unfold fn1; rw [if_pos hc25_4, if_pos hc169_6], N0, rfl⟩
    · skip
      have pre8 : ∀ t, Steps p.tables e below (s₁.setTop (mkF m 274 #[.val (.ref a1), .val (.int p2), .val (.int p3), .val (.int ld), .val (.int (1 : Int32)), .val (.int (128 : Int32)), .val (.int (191 : Int32)), .val (.int (1 : Int32)), .val (.int (1 : Int32)), .unset] [(.int (1 : Int32))])) t → Steps p.tables e below (s₁.setTop (entryFrame m #[(.ref a1), (.int p2), (.int p3)] 10)) t := by
        intro t kt
        refine pre5 _ ?_
        show Steps p.tables e below (s₁.setTop (mkF m 169 #[.val (.ref a1), .val (.int p2), .val (.int p3), .val (.int ld), .val (.int (1 : Int32)), .val (.int (128 : Int32)), .val (.int (191 : Int32)), .unset, .unset, .unset] [(.int p3), (.int (p2 + (1 : Int32)))])) _
        refine XS.icmpNo X0.here hx rfl (hb hby d1_169) rfl (XT.ii_gt_f hc169_6) ?_
        show Steps p.tables e below (s₁.setTop (mkF m 172 #[.val (.ref a1), .val (.int p2), .val (.int p3), .val (.int ld), .val (.int (1 : Int32)), .val (.int (128 : Int32)), .val (.int (191 : Int32)), .unset, .unset, .unset] [])) _
        refine XS.iconst X0.here hx rfl (hb hby d1_172) ?_
        show Steps p.tables e below (s₁.setTop (mkF m 173 #[.val (.ref a1), .val (.int p2), .val (.int p3), .val (.int ld), .val (.int (1 : Int32)), .val (.int (128 : Int32)), .val (.int (191 : Int32)), .unset, .unset, .unset] [(.int (1 : Int32))])) _
        refine XS.goto X0.here hx rfl (pc0 := 173) (pc' := 177) rfl (hb hby d1_173) (by decide) (by decide) ?_
        show Steps p.tables e below (s₁.setTop (mkF m 177 #[.val (.ref a1), .val (.int p2), .val (.int p3), .val (.int ld), .val (.int (1 : Int32)), .val (.int (128 : Int32)), .val (.int (191 : Int32)), .unset, .unset, .unset] [(.int (1 : Int32))])) _
        refine XS.istore X0.here hx rfl (hb hby d1_177) rfl (l' := #[.val (.ref a1), .val (.int p2), .val (.int p3), .val (.int ld), .val (.int (1 : Int32)), .val (.int (128 : Int32)), .val (.int (191 : Int32)), .val (.int (1 : Int32)), .unset, .unset]) rfl ?_
        show Steps p.tables e below (s₁.setTop (mkF m 179 #[.val (.ref a1), .val (.int p2), .val (.int p3), .val (.int ld), .val (.int (1 : Int32)), .val (.int (128 : Int32)), .val (.int (191 : Int32)), .val (.int (1 : Int32)), .unset, .unset] [])) _
        refine XS.iconst X0.here hx rfl (hb hby d1_179) ?_
        show Steps p.tables e below (s₁.setTop (mkF m 180 #[.val (.ref a1), .val (.int p2), .val (.int p3), .val (.int ld), .val (.int (1 : Int32)), .val (.int (128 : Int32)), .val (.int (191 : Int32)), .val (.int (1 : Int32)), .unset, .unset] [(.int (1 : Int32))])) _
        refine XS.istore X0.here hx rfl (hb hby d1_180) rfl (l' := #[.val (.ref a1), .val (.int p2), .val (.int p3), .val (.int ld), .val (.int (1 : Int32)), .val (.int (128 : Int32)), .val (.int (191 : Int32)), .val (.int (1 : Int32)), .val (.int (1 : Int32)), .unset]) rfl ?_
        show Steps p.tables e below (s₁.setTop (mkF m 182 #[.val (.ref a1), .val (.int p2), .val (.int p3), .val (.int ld), .val (.int (1 : Int32)), .val (.int (128 : Int32)), .val (.int (191 : Int32)), .val (.int (1 : Int32)), .val (.int (1 : Int32)), .unset] [])) _
        refine XS.iload X0.here hx rfl (hb hby d1_182) rfl ?_
        show Steps p.tables e below (s₁.setTop (mkF m 184 #[.val (.ref a1), .val (.int p2), .val (.int p3), .val (.int ld), .val (.int (1 : Int32)), .val (.int (128 : Int32)), .val (.int (191 : Int32)), .val (.int (1 : Int32)), .val (.int (1 : Int32)), .unset] [(.int (1 : Int32))])) _
        refine XS.ifNo X0.here hx rfl (hb hby d1_184) rfl (XT.i0_eq_f (by decide)) ?_
        show Steps p.tables e below (s₁.setTop (mkF m 187 #[.val (.ref a1), .val (.int p2), .val (.int p3), .val (.int ld), .val (.int (1 : Int32)), .val (.int (128 : Int32)), .val (.int (191 : Int32)), .val (.int (1 : Int32)), .val (.int (1 : Int32)), .unset] [])) _
        refine XS.iload X0.here hx rfl (hb hby d1_187) rfl ?_
        show Steps p.tables e below (s₁.setTop (mkF m 189 #[.val (.ref a1), .val (.int p2), .val (.int p3), .val (.int ld), .val (.int (1 : Int32)), .val (.int (128 : Int32)), .val (.int (191 : Int32)), .val (.int (1 : Int32)), .val (.int (1 : Int32)), .unset] [(.int (1 : Int32))])) _
        refine XS.iload X0.here hx rfl (hb hby d1_189) rfl ?_
        show Steps p.tables e below (s₁.setTop (mkF m 191 #[.val (.ref a1), .val (.int p2), .val (.int p3), .val (.int ld), .val (.int (1 : Int32)), .val (.int (128 : Int32)), .val (.int (191 : Int32)), .val (.int (1 : Int32)), .val (.int (1 : Int32)), .unset] [(.int (1 : Int32)), (.int (1 : Int32))])) _
        refine XS.icmpYes X0.here hx rfl (pc0 := 191) (pc' := 263) rfl (hb hby d1_191) rfl (XT.ii_ge_t (by decide)) (by decide) (by decide) ?_
        show Steps p.tables e below (s₁.setTop (mkF m 263 #[.val (.ref a1), .val (.int p2), .val (.int p3), .val (.int ld), .val (.int (1 : Int32)), .val (.int (128 : Int32)), .val (.int (191 : Int32)), .val (.int (1 : Int32)), .val (.int (1 : Int32)), .unset] [])) _
        refine XS.iload X0.here hx rfl (hb hby d1_263) rfl ?_
        show Steps p.tables e below (s₁.setTop (mkF m 265 #[.val (.ref a1), .val (.int p2), .val (.int p3), .val (.int ld), .val (.int (1 : Int32)), .val (.int (128 : Int32)), .val (.int (191 : Int32)), .val (.int (1 : Int32)), .val (.int (1 : Int32)), .unset] [(.int (1 : Int32))])) _
        refine XS.ifNo X0.here hx rfl (hb hby d1_265) rfl (XT.i0_eq_f (by decide)) ?_
        show Steps p.tables e below (s₁.setTop (mkF m 268 #[.val (.ref a1), .val (.int p2), .val (.int p3), .val (.int ld), .val (.int (1 : Int32)), .val (.int (128 : Int32)), .val (.int (191 : Int32)), .val (.int (1 : Int32)), .val (.int (1 : Int32)), .unset] [])) _
        refine XS.iload X0.here hx rfl (hb hby d1_268) rfl ?_
        show Steps p.tables e below (s₁.setTop (mkF m 270 #[.val (.ref a1), .val (.int p2), .val (.int p3), .val (.int ld), .val (.int (1 : Int32)), .val (.int (128 : Int32)), .val (.int (191 : Int32)), .val (.int (1 : Int32)), .val (.int (1 : Int32)), .unset] [(.int (1 : Int32))])) _
        refine XS.goto X0.here hx rfl (pc0 := 270) (pc' := 274) rfl (hb hby d1_270) (by decide) (by decide) ?_
        exact kt
      obtain ⟨fs, hr, hrun, hended, hW, hsame⟩ := X0.leave (v := some (.int (1 : Int32))) (fun h => by rw [Bd.returns] at h; cases h)
      refine ⟨_, _, pre8 _ ?_, hrun, hended, _, _, rfl, ?_, ⟨_, rfl⟩, hW, hsame.mono (by decide) (by decide)⟩
      · show Steps p.tables e below (s₁.setTop (mkF m 274 #[.val (.ref a1), .val (.int p2), .val (.int p3), .val (.int ld), .val (.int (1 : Int32)), .val (.int (128 : Int32)), .val (.int (191 : Int32)), .val (.int (1 : Int32)), .val (.int (1 : Int32)), .unset] [(.int (1 : Int32))])) _
        exact owRetI X0 hx Bd.returns (hb hby d1_274) hr
      · show Q1 Z a1 p2 p3 fb kb h0 n0 _ s₁.heap _
        rw [e0]
        exact ⟨by subst h_ld; unfold fn1; rw [if_pos hc25_4, if_neg hc169_6], N0, rfl⟩
  · skip
    have pre9 : ∀ t, Steps p.tables e below (s₁.setTop (mkF m 38 #[.val (.ref a1), .val (.int p2), .val (.int p3), .val (.int ld), .val (.int (0 : Int32)), .val (.int (128 : Int32)), .val (.int (191 : Int32)), .unset, .unset, .unset] [(.int (194 : Int32)), (.int ld)])) t → Steps p.tables e below (s₁.setTop (entryFrame m #[(.ref a1), (.int p2), (.int p3)] 10)) t := by
      intro t kt
      refine pre3 _ ?_
      show Steps p.tables e below (s₁.setTop (mkF m 25 #[.val (.ref a1), .val (.int p2), .val (.int p3), .val (.int ld), .val (.int (0 : Int32)), .val (.int (128 : Int32)), .val (.int (191 : Int32)), .unset, .unset, .unset] [(.int (128 : Int32)), (.int ld)])) _
      refine XS.icmpYes X0.here hx rfl (pc0 := 25) (pc' := 34) rfl (hb hby d1_25) rfl (XT.ii_ge_t hc25_4) (by decide) (by decide) ?_
      show Steps p.tables e below (s₁.setTop (mkF m 34 #[.val (.ref a1), .val (.int p2), .val (.int p3), .val (.int ld), .val (.int (0 : Int32)), .val (.int (128 : Int32)), .val (.int (191 : Int32)), .unset, .unset, .unset] [])) _
      refine XS.iloadN X0.here hx rfl (hb hby d1_34) rfl ?_
      show Steps p.tables e below (s₁.setTop (mkF m 35 #[.val (.ref a1), .val (.int p2), .val (.int p3), .val (.int ld), .val (.int (0 : Int32)), .val (.int (128 : Int32)), .val (.int (191 : Int32)), .unset, .unset, .unset] [(.int ld)])) _
      refine XS.sipush X0.here hx rfl (hb hby d1_35) ?_
      exact kt
    by_cases hc38_10 : ld < (194 : Int32)
    · skip
      have pre11 : ∀ t, Steps p.tables e below (s₁.setTop (mkF m 274 #[.val (.ref a1), .val (.int p2), .val (.int p3), .val (.int ld), .val (.int (0 : Int32)), .val (.int (128 : Int32)), .val (.int (191 : Int32)), .val (.int (0 : Int32)), .val (.int (1 : Int32)), .unset] [(.int (0 : Int32))])) t → Steps p.tables e below (s₁.setTop (entryFrame m #[(.ref a1), (.int p2), (.int p3)] 10)) t := by
        intro t kt
        refine pre9 _ ?_
        show Steps p.tables e below (s₁.setTop (mkF m 38 #[.val (.ref a1), .val (.int p2), .val (.int p3), .val (.int ld), .val (.int (0 : Int32)), .val (.int (128 : Int32)), .val (.int (191 : Int32)), .unset, .unset, .unset] [(.int (194 : Int32)), (.int ld)])) _
        refine XS.icmpYes X0.here hx rfl (pc0 := 38) (pc' := 54) rfl (hb hby d1_38) rfl (XT.ii_lt_t hc38_10) (by decide) (by decide) ?_
        show Steps p.tables e below (s₁.setTop (mkF m 54 #[.val (.ref a1), .val (.int p2), .val (.int p3), .val (.int ld), .val (.int (0 : Int32)), .val (.int (128 : Int32)), .val (.int (191 : Int32)), .unset, .unset, .unset] [])) _
        refine XS.iloadN X0.here hx rfl (hb hby d1_54) rfl ?_
        show Steps p.tables e below (s₁.setTop (mkF m 55 #[.val (.ref a1), .val (.int p2), .val (.int p3), .val (.int ld), .val (.int (0 : Int32)), .val (.int (128 : Int32)), .val (.int (191 : Int32)), .unset, .unset, .unset] [(.int ld)])) _
        refine XS.sipush X0.here hx rfl (hb hby d1_55) ?_
        show Steps p.tables e below (s₁.setTop (mkF m 58 #[.val (.ref a1), .val (.int p2), .val (.int p3), .val (.int ld), .val (.int (0 : Int32)), .val (.int (128 : Int32)), .val (.int (191 : Int32)), .unset, .unset, .unset] [(.int (224 : Int32)), (.int ld)])) _
        refine XS.icmpYes X0.here hx rfl (pc0 := 58) (pc' := 108) rfl (hb hby d1_58) rfl (XT.ii_lt_t (by have q0 := hc25_4; have q1 := hc38_10; have l0 : (128 : Int32).toInt = 128 := rfl; have l1 : (194 : Int32).toInt = 194 := rfl; have l2 : (224 : Int32).toInt = 224 := rfl; simp only [Int32.lt_iff_toInt_lt, ← Int32.toInt_inj] at q0 q1 ⊢; omega)) (by decide) (by decide) ?_
        show Steps p.tables e below (s₁.setTop (mkF m 108 #[.val (.ref a1), .val (.int p2), .val (.int p3), .val (.int ld), .val (.int (0 : Int32)), .val (.int (128 : Int32)), .val (.int (191 : Int32)), .unset, .unset, .unset] [])) _
        refine XS.iloadN X0.here hx rfl (hb hby d1_108) rfl ?_
        show Steps p.tables e below (s₁.setTop (mkF m 109 #[.val (.ref a1), .val (.int p2), .val (.int p3), .val (.int ld), .val (.int (0 : Int32)), .val (.int (128 : Int32)), .val (.int (191 : Int32)), .unset, .unset, .unset] [(.int ld)])) _
        refine XS.sipush X0.here hx rfl (hb hby d1_109) ?_
        show Steps p.tables e below (s₁.setTop (mkF m 112 #[.val (.ref a1), .val (.int p2), .val (.int p3), .val (.int ld), .val (.int (0 : Int32)), .val (.int (128 : Int32)), .val (.int (191 : Int32)), .unset, .unset, .unset] [(.int (240 : Int32)), (.int ld)])) _
        refine XS.icmpYes X0.here hx rfl (pc0 := 112) (pc' := 159) rfl (hb hby d1_112) rfl (XT.ii_lt_t (by have q0 := hc25_4; have q1 := hc38_10; have l0 : (128 : Int32).toInt = 128 := rfl; have l1 : (194 : Int32).toInt = 194 := rfl; have l2 : (240 : Int32).toInt = 240 := rfl; simp only [Int32.lt_iff_toInt_lt, ← Int32.toInt_inj] at q0 q1 ⊢; omega)) (by decide) (by decide) ?_
        show Steps p.tables e below (s₁.setTop (mkF m 159 #[.val (.ref a1), .val (.int p2), .val (.int p3), .val (.int ld), .val (.int (0 : Int32)), .val (.int (128 : Int32)), .val (.int (191 : Int32)), .unset, .unset, .unset] [])) _
        refine XS.iload X0.here hx rfl (hb hby d1_159) rfl ?_
        show Steps p.tables e below (s₁.setTop (mkF m 161 #[.val (.ref a1), .val (.int p2), .val (.int p3), .val (.int ld), .val (.int (0 : Int32)), .val (.int (128 : Int32)), .val (.int (191 : Int32)), .unset, .unset, .unset] [(.int (0 : Int32))])) _
        refine XS.ifYes X0.here hx rfl (pc0 := 161) (pc' := 176) rfl (hb hby d1_161) rfl (XT.i0_le_t (by decide)) (by decide) (by decide) ?_
        show Steps p.tables e below (s₁.setTop (mkF m 176 #[.val (.ref a1), .val (.int p2), .val (.int p3), .val (.int ld), .val (.int (0 : Int32)), .val (.int (128 : Int32)), .val (.int (191 : Int32)), .unset, .unset, .unset] [])) _
        refine XS.iconst X0.here hx rfl (hb hby d1_176) ?_
        show Steps p.tables e below (s₁.setTop (mkF m 177 #[.val (.ref a1), .val (.int p2), .val (.int p3), .val (.int ld), .val (.int (0 : Int32)), .val (.int (128 : Int32)), .val (.int (191 : Int32)), .unset, .unset, .unset] [(.int (0 : Int32))])) _
        refine XS.istore X0.here hx rfl (hb hby d1_177) rfl (l' := #[.val (.ref a1), .val (.int p2), .val (.int p3), .val (.int ld), .val (.int (0 : Int32)), .val (.int (128 : Int32)), .val (.int (191 : Int32)), .val (.int (0 : Int32)), .unset, .unset]) rfl ?_
        show Steps p.tables e below (s₁.setTop (mkF m 179 #[.val (.ref a1), .val (.int p2), .val (.int p3), .val (.int ld), .val (.int (0 : Int32)), .val (.int (128 : Int32)), .val (.int (191 : Int32)), .val (.int (0 : Int32)), .unset, .unset] [])) _
        refine XS.iconst X0.here hx rfl (hb hby d1_179) ?_
        show Steps p.tables e below (s₁.setTop (mkF m 180 #[.val (.ref a1), .val (.int p2), .val (.int p3), .val (.int ld), .val (.int (0 : Int32)), .val (.int (128 : Int32)), .val (.int (191 : Int32)), .val (.int (0 : Int32)), .unset, .unset] [(.int (1 : Int32))])) _
        refine XS.istore X0.here hx rfl (hb hby d1_180) rfl (l' := #[.val (.ref a1), .val (.int p2), .val (.int p3), .val (.int ld), .val (.int (0 : Int32)), .val (.int (128 : Int32)), .val (.int (191 : Int32)), .val (.int (0 : Int32)), .val (.int (1 : Int32)), .unset]) rfl ?_
        show Steps p.tables e below (s₁.setTop (mkF m 182 #[.val (.ref a1), .val (.int p2), .val (.int p3), .val (.int ld), .val (.int (0 : Int32)), .val (.int (128 : Int32)), .val (.int (191 : Int32)), .val (.int (0 : Int32)), .val (.int (1 : Int32)), .unset] [])) _
        refine XS.iload X0.here hx rfl (hb hby d1_182) rfl ?_
        show Steps p.tables e below (s₁.setTop (mkF m 184 #[.val (.ref a1), .val (.int p2), .val (.int p3), .val (.int ld), .val (.int (0 : Int32)), .val (.int (128 : Int32)), .val (.int (191 : Int32)), .val (.int (0 : Int32)), .val (.int (1 : Int32)), .unset] [(.int (0 : Int32))])) _
        refine XS.ifYes X0.here hx rfl (pc0 := 184) (pc' := 263) rfl (hb hby d1_184) rfl (XT.i0_eq_t (by decide)) (by decide) (by decide) ?_
        show Steps p.tables e below (s₁.setTop (mkF m 263 #[.val (.ref a1), .val (.int p2), .val (.int p3), .val (.int ld), .val (.int (0 : Int32)), .val (.int (128 : Int32)), .val (.int (191 : Int32)), .val (.int (0 : Int32)), .val (.int (1 : Int32)), .unset] [])) _
        refine XS.iload X0.here hx rfl (hb hby d1_263) rfl ?_
        show Steps p.tables e below (s₁.setTop (mkF m 265 #[.val (.ref a1), .val (.int p2), .val (.int p3), .val (.int ld), .val (.int (0 : Int32)), .val (.int (128 : Int32)), .val (.int (191 : Int32)), .val (.int (0 : Int32)), .val (.int (1 : Int32)), .unset] [(.int (0 : Int32))])) _
        refine XS.ifYes X0.here hx rfl (pc0 := 265) (pc' := 273) rfl (hb hby d1_265) rfl (XT.i0_eq_t (by decide)) (by decide) (by decide) ?_
        show Steps p.tables e below (s₁.setTop (mkF m 273 #[.val (.ref a1), .val (.int p2), .val (.int p3), .val (.int ld), .val (.int (0 : Int32)), .val (.int (128 : Int32)), .val (.int (191 : Int32)), .val (.int (0 : Int32)), .val (.int (1 : Int32)), .unset] [])) _
        refine XS.iconst X0.here hx rfl (hb hby d1_273) ?_
        exact kt
      obtain ⟨fs, hr, hrun, hended, hW, hsame⟩ := X0.leave (v := some (.int (0 : Int32))) (fun h => by rw [Bd.returns] at h; cases h)
      refine ⟨_, _, pre11 _ ?_, hrun, hended, _, _, rfl, ?_, ⟨_, rfl⟩, hW, hsame.mono (by decide) (by decide)⟩
      · show Steps p.tables e below (s₁.setTop (mkF m 274 #[.val (.ref a1), .val (.int p2), .val (.int p3), .val (.int ld), .val (.int (0 : Int32)), .val (.int (128 : Int32)), .val (.int (191 : Int32)), .val (.int (0 : Int32)), .val (.int (1 : Int32)), .unset] [(.int (0 : Int32))])) _
        exact owRetI X0 hx Bd.returns (hb hby d1_274) hr
      · show Q1 Z a1 p2 p3 fb kb h0 n0 _ s₁.heap _
        rw [e0]
        exact ⟨by subst h_ld; unfold fn1; rw [if_neg hc25_4, if_pos hc38_10], N0, rfl⟩
    · skip
      have pre12 : ∀ t, Steps p.tables e below (s₁.setTop (mkF m 45 #[.val (.ref a1), .val (.int p2), .val (.int p3), .val (.int ld), .val (.int (0 : Int32)), .val (.int (128 : Int32)), .val (.int (191 : Int32)), .unset, .unset, .unset] [(.int (223 : Int32)), (.int ld)])) t → Steps p.tables e below (s₁.setTop (entryFrame m #[(.ref a1), (.int p2), (.int p3)] 10)) t := by
        intro t kt
        refine pre9 _ ?_
        show Steps p.tables e below (s₁.setTop (mkF m 38 #[.val (.ref a1), .val (.int p2), .val (.int p3), .val (.int ld), .val (.int (0 : Int32)), .val (.int (128 : Int32)), .val (.int (191 : Int32)), .unset, .unset, .unset] [(.int (194 : Int32)), (.int ld)])) _
        refine XS.icmpNo X0.here hx rfl (hb hby d1_38) rfl (XT.ii_lt_f hc38_10) ?_
        show Steps p.tables e below (s₁.setTop (mkF m 41 #[.val (.ref a1), .val (.int p2), .val (.int p3), .val (.int ld), .val (.int (0 : Int32)), .val (.int (128 : Int32)), .val (.int (191 : Int32)), .unset, .unset, .unset] [])) _
        refine XS.iloadN X0.here hx rfl (hb hby d1_41) rfl ?_
        show Steps p.tables e below (s₁.setTop (mkF m 42 #[.val (.ref a1), .val (.int p2), .val (.int p3), .val (.int ld), .val (.int (0 : Int32)), .val (.int (128 : Int32)), .val (.int (191 : Int32)), .unset, .unset, .unset] [(.int ld)])) _
        refine XS.sipush X0.here hx rfl (hb hby d1_42) ?_
        exact kt
      by_cases hc45_13 : (223 : Int32) < ld
      · skip
        have pre14 : ∀ t, Steps p.tables e below (s₁.setTop (mkF m 65 #[.val (.ref a1), .val (.int p2), .val (.int p3), .val (.int ld), .val (.int (0 : Int32)), .val (.int (128 : Int32)), .val (.int (191 : Int32)), .unset, .unset, .unset] [(.int (239 : Int32)), (.int ld)])) t → Steps p.tables e below (s₁.setTop (entryFrame m #[(.ref a1), (.int p2), (.int p3)] 10)) t := by
          intro t kt
          refine pre12 _ ?_
          show Steps p.tables e below (s₁.setTop (mkF m 45 #[.val (.ref a1), .val (.int p2), .val (.int p3), .val (.int ld), .val (.int (0 : Int32)), .val (.int (128 : Int32)), .val (.int (191 : Int32)), .unset, .unset, .unset] [(.int (223 : Int32)), (.int ld)])) _
          refine XS.icmpYes X0.here hx rfl (pc0 := 45) (pc' := 54) rfl (hb hby d1_45) rfl (XT.ii_gt_t hc45_13) (by decide) (by decide) ?_
          show Steps p.tables e below (s₁.setTop (mkF m 54 #[.val (.ref a1), .val (.int p2), .val (.int p3), .val (.int ld), .val (.int (0 : Int32)), .val (.int (128 : Int32)), .val (.int (191 : Int32)), .unset, .unset, .unset] [])) _
          refine XS.iloadN X0.here hx rfl (hb hby d1_54) rfl ?_
          show Steps p.tables e below (s₁.setTop (mkF m 55 #[.val (.ref a1), .val (.int p2), .val (.int p3), .val (.int ld), .val (.int (0 : Int32)), .val (.int (128 : Int32)), .val (.int (191 : Int32)), .unset, .unset, .unset] [(.int ld)])) _
          refine XS.sipush X0.here hx rfl (hb hby d1_55) ?_
          show Steps p.tables e below (s₁.setTop (mkF m 58 #[.val (.ref a1), .val (.int p2), .val (.int p3), .val (.int ld), .val (.int (0 : Int32)), .val (.int (128 : Int32)), .val (.int (191 : Int32)), .unset, .unset, .unset] [(.int (224 : Int32)), (.int ld)])) _
          refine XS.icmpNo X0.here hx rfl (hb hby d1_58) rfl (XT.ii_lt_f (by have q0 := hc25_4; have q1 := hc38_10; have q2 := hc45_13; have l0 : (128 : Int32).toInt = 128 := rfl; have l1 : (194 : Int32).toInt = 194 := rfl; have l2 : (223 : Int32).toInt = 223 := rfl; have l3 : (224 : Int32).toInt = 224 := rfl; simp only [Int32.lt_iff_toInt_lt, ← Int32.toInt_inj] at q0 q1 q2 ⊢; omega)) ?_
          show Steps p.tables e below (s₁.setTop (mkF m 61 #[.val (.ref a1), .val (.int p2), .val (.int p3), .val (.int ld), .val (.int (0 : Int32)), .val (.int (128 : Int32)), .val (.int (191 : Int32)), .unset, .unset, .unset] [])) _
          refine XS.iloadN X0.here hx rfl (hb hby d1_61) rfl ?_
          show Steps p.tables e below (s₁.setTop (mkF m 62 #[.val (.ref a1), .val (.int p2), .val (.int p3), .val (.int ld), .val (.int (0 : Int32)), .val (.int (128 : Int32)), .val (.int (191 : Int32)), .unset, .unset, .unset] [(.int ld)])) _
          refine XS.sipush X0.here hx rfl (hb hby d1_62) ?_
          exact kt
        by_cases hc65_15 : (239 : Int32) < ld
        · skip
          have pre16 : ∀ t, Steps p.tables e below (s₁.setTop (mkF m 119 #[.val (.ref a1), .val (.int p2), .val (.int p3), .val (.int ld), .val (.int (0 : Int32)), .val (.int (128 : Int32)), .val (.int (191 : Int32)), .unset, .unset, .unset] [(.int (244 : Int32)), (.int ld)])) t → Steps p.tables e below (s₁.setTop (entryFrame m #[(.ref a1), (.int p2), (.int p3)] 10)) t := by
            intro t kt
            refine pre14 _ ?_
            show Steps p.tables e below (s₁.setTop (mkF m 65 #[.val (.ref a1), .val (.int p2), .val (.int p3), .val (.int ld), .val (.int (0 : Int32)), .val (.int (128 : Int32)), .val (.int (191 : Int32)), .unset, .unset, .unset] [(.int (239 : Int32)), (.int ld)])) _
            refine XS.icmpYes X0.here hx rfl (pc0 := 65) (pc' := 108) rfl (hb hby d1_65) rfl (XT.ii_gt_t hc65_15) (by decide) (by decide) ?_
            show Steps p.tables e below (s₁.setTop (mkF m 108 #[.val (.ref a1), .val (.int p2), .val (.int p3), .val (.int ld), .val (.int (0 : Int32)), .val (.int (128 : Int32)), .val (.int (191 : Int32)), .unset, .unset, .unset] [])) _
            refine XS.iloadN X0.here hx rfl (hb hby d1_108) rfl ?_
            show Steps p.tables e below (s₁.setTop (mkF m 109 #[.val (.ref a1), .val (.int p2), .val (.int p3), .val (.int ld), .val (.int (0 : Int32)), .val (.int (128 : Int32)), .val (.int (191 : Int32)), .unset, .unset, .unset] [(.int ld)])) _
            refine XS.sipush X0.here hx rfl (hb hby d1_109) ?_
            show Steps p.tables e below (s₁.setTop (mkF m 112 #[.val (.ref a1), .val (.int p2), .val (.int p3), .val (.int ld), .val (.int (0 : Int32)), .val (.int (128 : Int32)), .val (.int (191 : Int32)), .unset, .unset, .unset] [(.int (240 : Int32)), (.int ld)])) _
            refine XS.icmpNo X0.here hx rfl (hb hby d1_112) rfl (XT.ii_lt_f (by have q0 := hc25_4; have q1 := hc38_10; have q2 := hc45_13; have q3 := hc65_15; have l0 : (128 : Int32).toInt = 128 := rfl; have l1 : (194 : Int32).toInt = 194 := rfl; have l2 : (223 : Int32).toInt = 223 := rfl; have l3 : (239 : Int32).toInt = 239 := rfl; have l4 : (240 : Int32).toInt = 240 := rfl; simp only [Int32.lt_iff_toInt_lt, ← Int32.toInt_inj] at q0 q1 q2 q3 ⊢; omega)) ?_
            show Steps p.tables e below (s₁.setTop (mkF m 115 #[.val (.ref a1), .val (.int p2), .val (.int p3), .val (.int ld), .val (.int (0 : Int32)), .val (.int (128 : Int32)), .val (.int (191 : Int32)), .unset, .unset, .unset] [])) _
            refine XS.iloadN X0.here hx rfl (hb hby d1_115) rfl ?_
            show Steps p.tables e below (s₁.setTop (mkF m 116 #[.val (.ref a1), .val (.int p2), .val (.int p3), .val (.int ld), .val (.int (0 : Int32)), .val (.int (128 : Int32)), .val (.int (191 : Int32)), .unset, .unset, .unset] [(.int ld)])) _
            refine XS.sipush X0.here hx rfl (hb hby d1_116) ?_
            exact kt
          by_cases hc119_17 : (244 : Int32) < ld
          · skip
            have pre18 : ∀ t, Steps p.tables e below (s₁.setTop (mkF m 274 #[.val (.ref a1), .val (.int p2), .val (.int p3), .val (.int ld), .val (.int (0 : Int32)), .val (.int (128 : Int32)), .val (.int (191 : Int32)), .val (.int (0 : Int32)), .val (.int (1 : Int32)), .unset] [(.int (0 : Int32))])) t → Steps p.tables e below (s₁.setTop (entryFrame m #[(.ref a1), (.int p2), (.int p3)] 10)) t := by
              intro t kt
              refine pre16 _ ?_
              show Steps p.tables e below (s₁.setTop (mkF m 119 #[.val (.ref a1), .val (.int p2), .val (.int p3), .val (.int ld), .val (.int (0 : Int32)), .val (.int (128 : Int32)), .val (.int (191 : Int32)), .unset, .unset, .unset] [(.int (244 : Int32)), (.int ld)])) _
              refine XS.icmpYes X0.here hx rfl (pc0 := 119) (pc' := 159) rfl (hb hby d1_119) rfl (XT.ii_gt_t hc119_17) (by decide) (by decide) ?_
              show Steps p.tables e below (s₁.setTop (mkF m 159 #[.val (.ref a1), .val (.int p2), .val (.int p3), .val (.int ld), .val (.int (0 : Int32)), .val (.int (128 : Int32)), .val (.int (191 : Int32)), .unset, .unset, .unset] [])) _
              refine XS.iload X0.here hx rfl (hb hby d1_159) rfl ?_
              show Steps p.tables e below (s₁.setTop (mkF m 161 #[.val (.ref a1), .val (.int p2), .val (.int p3), .val (.int ld), .val (.int (0 : Int32)), .val (.int (128 : Int32)), .val (.int (191 : Int32)), .unset, .unset, .unset] [(.int (0 : Int32))])) _
              refine XS.ifYes X0.here hx rfl (pc0 := 161) (pc' := 176) rfl (hb hby d1_161) rfl (XT.i0_le_t (by decide)) (by decide) (by decide) ?_
              show Steps p.tables e below (s₁.setTop (mkF m 176 #[.val (.ref a1), .val (.int p2), .val (.int p3), .val (.int ld), .val (.int (0 : Int32)), .val (.int (128 : Int32)), .val (.int (191 : Int32)), .unset, .unset, .unset] [])) _
              refine XS.iconst X0.here hx rfl (hb hby d1_176) ?_
              show Steps p.tables e below (s₁.setTop (mkF m 177 #[.val (.ref a1), .val (.int p2), .val (.int p3), .val (.int ld), .val (.int (0 : Int32)), .val (.int (128 : Int32)), .val (.int (191 : Int32)), .unset, .unset, .unset] [(.int (0 : Int32))])) _
              refine XS.istore X0.here hx rfl (hb hby d1_177) rfl (l' := #[.val (.ref a1), .val (.int p2), .val (.int p3), .val (.int ld), .val (.int (0 : Int32)), .val (.int (128 : Int32)), .val (.int (191 : Int32)), .val (.int (0 : Int32)), .unset, .unset]) rfl ?_
              show Steps p.tables e below (s₁.setTop (mkF m 179 #[.val (.ref a1), .val (.int p2), .val (.int p3), .val (.int ld), .val (.int (0 : Int32)), .val (.int (128 : Int32)), .val (.int (191 : Int32)), .val (.int (0 : Int32)), .unset, .unset] [])) _
              refine XS.iconst X0.here hx rfl (hb hby d1_179) ?_
              show Steps p.tables e below (s₁.setTop (mkF m 180 #[.val (.ref a1), .val (.int p2), .val (.int p3), .val (.int ld), .val (.int (0 : Int32)), .val (.int (128 : Int32)), .val (.int (191 : Int32)), .val (.int (0 : Int32)), .unset, .unset] [(.int (1 : Int32))])) _
              refine XS.istore X0.here hx rfl (hb hby d1_180) rfl (l' := #[.val (.ref a1), .val (.int p2), .val (.int p3), .val (.int ld), .val (.int (0 : Int32)), .val (.int (128 : Int32)), .val (.int (191 : Int32)), .val (.int (0 : Int32)), .val (.int (1 : Int32)), .unset]) rfl ?_
              show Steps p.tables e below (s₁.setTop (mkF m 182 #[.val (.ref a1), .val (.int p2), .val (.int p3), .val (.int ld), .val (.int (0 : Int32)), .val (.int (128 : Int32)), .val (.int (191 : Int32)), .val (.int (0 : Int32)), .val (.int (1 : Int32)), .unset] [])) _
              refine XS.iload X0.here hx rfl (hb hby d1_182) rfl ?_
              show Steps p.tables e below (s₁.setTop (mkF m 184 #[.val (.ref a1), .val (.int p2), .val (.int p3), .val (.int ld), .val (.int (0 : Int32)), .val (.int (128 : Int32)), .val (.int (191 : Int32)), .val (.int (0 : Int32)), .val (.int (1 : Int32)), .unset] [(.int (0 : Int32))])) _
              refine XS.ifYes X0.here hx rfl (pc0 := 184) (pc' := 263) rfl (hb hby d1_184) rfl (XT.i0_eq_t (by decide)) (by decide) (by decide) ?_
              show Steps p.tables e below (s₁.setTop (mkF m 263 #[.val (.ref a1), .val (.int p2), .val (.int p3), .val (.int ld), .val (.int (0 : Int32)), .val (.int (128 : Int32)), .val (.int (191 : Int32)), .val (.int (0 : Int32)), .val (.int (1 : Int32)), .unset] [])) _
              refine XS.iload X0.here hx rfl (hb hby d1_263) rfl ?_
              show Steps p.tables e below (s₁.setTop (mkF m 265 #[.val (.ref a1), .val (.int p2), .val (.int p3), .val (.int ld), .val (.int (0 : Int32)), .val (.int (128 : Int32)), .val (.int (191 : Int32)), .val (.int (0 : Int32)), .val (.int (1 : Int32)), .unset] [(.int (0 : Int32))])) _
              refine XS.ifYes X0.here hx rfl (pc0 := 265) (pc' := 273) rfl (hb hby d1_265) rfl (XT.i0_eq_t (by decide)) (by decide) (by decide) ?_
              show Steps p.tables e below (s₁.setTop (mkF m 273 #[.val (.ref a1), .val (.int p2), .val (.int p3), .val (.int ld), .val (.int (0 : Int32)), .val (.int (128 : Int32)), .val (.int (191 : Int32)), .val (.int (0 : Int32)), .val (.int (1 : Int32)), .unset] [])) _
              refine XS.iconst X0.here hx rfl (hb hby d1_273) ?_
              exact kt
            obtain ⟨fs, hr, hrun, hended, hW, hsame⟩ := X0.leave (v := some (.int (0 : Int32))) (fun h => by rw [Bd.returns] at h; cases h)
            refine ⟨_, _, pre18 _ ?_, hrun, hended, _, _, rfl, ?_, ⟨_, rfl⟩, hW, hsame.mono (by decide) (by decide)⟩
            · show Steps p.tables e below (s₁.setTop (mkF m 274 #[.val (.ref a1), .val (.int p2), .val (.int p3), .val (.int ld), .val (.int (0 : Int32)), .val (.int (128 : Int32)), .val (.int (191 : Int32)), .val (.int (0 : Int32)), .val (.int (1 : Int32)), .unset] [(.int (0 : Int32))])) _
              exact owRetI X0 hx Bd.returns (hb hby d1_274) hr
            · show Q1 Z a1 p2 p3 fb kb h0 n0 _ s₁.heap _
              rw [e0]
              exact ⟨by subst h_ld; unfold fn1; rw [if_neg hc25_4, if_neg hc38_10, if_pos hc45_13, if_pos hc65_15, if_pos hc119_17], N0, rfl⟩
          · skip
            have pre19 : ∀ t, Steps p.tables e below (s₁.setTop (mkF m 129 #[.val (.ref a1), .val (.int p2), .val (.int p3), .val (.int ld), .val (.int (4 : Int32)), .val (.int (128 : Int32)), .val (.int (191 : Int32)), .unset, .unset, .unset] [(.int (240 : Int32)), (.int ld)])) t → Steps p.tables e below (s₁.setTop (entryFrame m #[(.ref a1), (.int p2), (.int p3)] 10)) t := by
              intro t kt
              refine pre16 _ ?_
              show Steps p.tables e below (s₁.setTop (mkF m 119 #[.val (.ref a1), .val (.int p2), .val (.int p3), .val (.int ld), .val (.int (0 : Int32)), .val (.int (128 : Int32)), .val (.int (191 : Int32)), .unset, .unset, .unset] [(.int (244 : Int32)), (.int ld)])) _
              refine XS.icmpNo X0.here hx rfl (hb hby d1_119) rfl (XT.ii_gt_f hc119_17) ?_
              show Steps p.tables e below (s₁.setTop (mkF m 122 #[.val (.ref a1), .val (.int p2), .val (.int p3), .val (.int ld), .val (.int (0 : Int32)), .val (.int (128 : Int32)), .val (.int (191 : Int32)), .unset, .unset, .unset] [])) _
              refine XS.iconst X0.here hx rfl (hb hby d1_122) ?_
              show Steps p.tables e below (s₁.setTop (mkF m 123 #[.val (.ref a1), .val (.int p2), .val (.int p3), .val (.int ld), .val (.int (0 : Int32)), .val (.int (128 : Int32)), .val (.int (191 : Int32)), .unset, .unset, .unset] [(.int (4 : Int32))])) _
              refine XS.istore X0.here hx rfl (hb hby d1_123) rfl (l' := #[.val (.ref a1), .val (.int p2), .val (.int p3), .val (.int ld), .val (.int (4 : Int32)), .val (.int (128 : Int32)), .val (.int (191 : Int32)), .unset, .unset, .unset]) rfl ?_
              show Steps p.tables e below (s₁.setTop (mkF m 125 #[.val (.ref a1), .val (.int p2), .val (.int p3), .val (.int ld), .val (.int (4 : Int32)), .val (.int (128 : Int32)), .val (.int (191 : Int32)), .unset, .unset, .unset] [])) _
              refine XS.iloadN X0.here hx rfl (hb hby d1_125) rfl ?_
              show Steps p.tables e below (s₁.setTop (mkF m 126 #[.val (.ref a1), .val (.int p2), .val (.int p3), .val (.int ld), .val (.int (4 : Int32)), .val (.int (128 : Int32)), .val (.int (191 : Int32)), .unset, .unset, .unset] [(.int ld)])) _
              refine XS.sipush X0.here hx rfl (hb hby d1_126) ?_
              exact kt
            obtain ⟨j21, h_j21⟩ : ∃ z : Int32, z = (if ld = (240 : Int32) then (144 : Int32) else (128 : Int32)) := ⟨_, rfl⟩
            have pre22 : ∀ t, Steps p.tables e below (s₁.setTop (mkF m 140 #[.val (.ref a1), .val (.int p2), .val (.int p3), .val (.int ld), .val (.int (4 : Int32)), .val (.int (128 : Int32)), .val (.int (191 : Int32)), .unset, .unset, .unset] [(.int j21)])) t → Steps p.tables e below (s₁.setTop (entryFrame m #[(.ref a1), (.int p2), (.int p3)] 10)) t := by
              intro t kt
              refine pre19 _ ?_
              by_cases hc129_20 : ld = (240 : Int32)
              · skip
                have q_j21 : j21 = (144 : Int32) := by rw [h_j21, if_pos hc129_20]
                rw [q_j21] at kt
                show Steps p.tables e below (s₁.setTop (mkF m 129 #[.val (.ref a1), .val (.int p2), .val (.int p3), .val (.int ld), .val (.int (4 : Int32)), .val (.int (128 : Int32)), .val (.int (191 : Int32)), .unset, .unset, .unset] [(.int (240 : Int32)), (.int ld)])) _
                refine XS.icmpNo X0.here hx rfl (hb hby d1_129) rfl (XT.ii_ne_f hc129_20) ?_
                show Steps p.tables e below (s₁.setTop (mkF m 132 #[.val (.ref a1), .val (.int p2), .val (.int p3), .val (.int ld), .val (.int (4 : Int32)), .val (.int (128 : Int32)), .val (.int (191 : Int32)), .unset, .unset, .unset] [])) _
                refine XS.sipush X0.here hx rfl (hb hby d1_132) ?_
                show Steps p.tables e below (s₁.setTop (mkF m 135 #[.val (.ref a1), .val (.int p2), .val (.int p3), .val (.int ld), .val (.int (4 : Int32)), .val (.int (128 : Int32)), .val (.int (191 : Int32)), .unset, .unset, .unset] [(.int (144 : Int32))])) _
                refine XS.goto X0.here hx rfl (pc0 := 135) (pc' := 140) rfl (hb hby d1_135) (by decide) (by decide) ?_
                exact kt
              · skip
                have q_j21 : j21 = (128 : Int32) := by rw [h_j21, if_neg hc129_20]
                rw [q_j21] at kt
                show Steps p.tables e below (s₁.setTop (mkF m 129 #[.val (.ref a1), .val (.int p2), .val (.int p3), .val (.int ld), .val (.int (4 : Int32)), .val (.int (128 : Int32)), .val (.int (191 : Int32)), .unset, .unset, .unset] [(.int (240 : Int32)), (.int ld)])) _
                refine XS.icmpYes X0.here hx rfl (pc0 := 129) (pc' := 138) rfl (hb hby d1_129) rfl (XT.ii_ne_t hc129_20) (by decide) (by decide) ?_
                show Steps p.tables e below (s₁.setTop (mkF m 138 #[.val (.ref a1), .val (.int p2), .val (.int p3), .val (.int ld), .val (.int (4 : Int32)), .val (.int (128 : Int32)), .val (.int (191 : Int32)), .unset, .unset, .unset] [])) _
                refine XS.iload X0.here hx rfl (hb hby d1_138) rfl ?_
                exact kt
            have pre23 : ∀ t, Steps p.tables e below (s₁.setTop (mkF m 146 #[.val (.ref a1), .val (.int p2), .val (.int p3), .val (.int ld), .val (.int (4 : Int32)), .val (.int j21), .val (.int (191 : Int32)), .unset, .unset, .unset] [(.int (244 : Int32)), (.int ld)])) t → Steps p.tables e below (s₁.setTop (entryFrame m #[(.ref a1), (.int p2), (.int p3)] 10)) t := by
              intro t kt
              refine pre22 _ ?_
              show Steps p.tables e below (s₁.setTop (mkF m 140 #[.val (.ref a1), .val (.int p2), .val (.int p3), .val (.int ld), .val (.int (4 : Int32)), .val (.int (128 : Int32)), .val (.int (191 : Int32)), .unset, .unset, .unset] [(.int j21)])) _
              refine XS.istore X0.here hx rfl (hb hby d1_140) rfl (l' := #[.val (.ref a1), .val (.int p2), .val (.int p3), .val (.int ld), .val (.int (4 : Int32)), .val (.int j21), .val (.int (191 : Int32)), .unset, .unset, .unset]) rfl ?_
              show Steps p.tables e below (s₁.setTop (mkF m 142 #[.val (.ref a1), .val (.int p2), .val (.int p3), .val (.int ld), .val (.int (4 : Int32)), .val (.int j21), .val (.int (191 : Int32)), .unset, .unset, .unset] [])) _
              refine XS.iloadN X0.here hx rfl (hb hby d1_142) rfl ?_
              show Steps p.tables e below (s₁.setTop (mkF m 143 #[.val (.ref a1), .val (.int p2), .val (.int p3), .val (.int ld), .val (.int (4 : Int32)), .val (.int j21), .val (.int (191 : Int32)), .unset, .unset, .unset] [(.int ld)])) _
              refine XS.sipush X0.here hx rfl (hb hby d1_143) ?_
              exact kt
            obtain ⟨j25, h_j25⟩ : ∃ z : Int32, z = (if ld = (244 : Int32) then (143 : Int32) else (191 : Int32)) := ⟨_, rfl⟩
            have pre26 : ∀ t, Steps p.tables e below (s₁.setTop (mkF m 157 #[.val (.ref a1), .val (.int p2), .val (.int p3), .val (.int ld), .val (.int (4 : Int32)), .val (.int j21), .val (.int (191 : Int32)), .unset, .unset, .unset] [(.int j25)])) t → Steps p.tables e below (s₁.setTop (entryFrame m #[(.ref a1), (.int p2), (.int p3)] 10)) t := by
              intro t kt
              refine pre23 _ ?_
              by_cases hc146_24 : ld = (244 : Int32)
              · skip
                have q_j25 : j25 = (143 : Int32) := by rw [h_j25, if_pos hc146_24]
                rw [q_j25] at kt
                show Steps p.tables e below (s₁.setTop (mkF m 146 #[.val (.ref a1), .val (.int p2), .val (.int p3), .val (.int ld), .val (.int (4 : Int32)), .val (.int j21), .val (.int (191 : Int32)), .unset, .unset, .unset] [(.int (244 : Int32)), (.int ld)])) _
                refine XS.icmpNo X0.here hx rfl (hb hby d1_146) rfl (XT.ii_ne_f hc146_24) ?_
                show Steps p.tables e below (s₁.setTop (mkF m 149 #[.val (.ref a1), .val (.int p2), .val (.int p3), .val (.int ld), .val (.int (4 : Int32)), .val (.int j21), .val (.int (191 : Int32)), .unset, .unset, .unset] [])) _
                refine XS.sipush X0.here hx rfl (hb hby d1_149) ?_
                show Steps p.tables e below (s₁.setTop (mkF m 152 #[.val (.ref a1), .val (.int p2), .val (.int p3), .val (.int ld), .val (.int (4 : Int32)), .val (.int j21), .val (.int (191 : Int32)), .unset, .unset, .unset] [(.int (143 : Int32))])) _
                refine XS.goto X0.here hx rfl (pc0 := 152) (pc' := 157) rfl (hb hby d1_152) (by decide) (by decide) ?_
                exact kt
              · skip
                have q_j25 : j25 = (191 : Int32) := by rw [h_j25, if_neg hc146_24]
                rw [q_j25] at kt
                show Steps p.tables e below (s₁.setTop (mkF m 146 #[.val (.ref a1), .val (.int p2), .val (.int p3), .val (.int ld), .val (.int (4 : Int32)), .val (.int j21), .val (.int (191 : Int32)), .unset, .unset, .unset] [(.int (244 : Int32)), (.int ld)])) _
                refine XS.icmpYes X0.here hx rfl (pc0 := 146) (pc' := 155) rfl (hb hby d1_146) rfl (XT.ii_ne_t hc146_24) (by decide) (by decide) ?_
                show Steps p.tables e below (s₁.setTop (mkF m 155 #[.val (.ref a1), .val (.int p2), .val (.int p3), .val (.int ld), .val (.int (4 : Int32)), .val (.int j21), .val (.int (191 : Int32)), .unset, .unset, .unset] [])) _
                refine XS.iload X0.here hx rfl (hb hby d1_155) rfl ?_
                exact kt
            have pre27 : ∀ t, Steps p.tables e below (s₁.setTop (mkF m 169 #[.val (.ref a1), .val (.int p2), .val (.int p3), .val (.int ld), .val (.int (4 : Int32)), .val (.int j21), .val (.int j25), .unset, .unset, .unset] [(.int p3), (.int (p2 + (4 : Int32)))])) t → Steps p.tables e below (s₁.setTop (entryFrame m #[(.ref a1), (.int p2), (.int p3)] 10)) t := by
              intro t kt
              refine pre26 _ ?_
              show Steps p.tables e below (s₁.setTop (mkF m 157 #[.val (.ref a1), .val (.int p2), .val (.int p3), .val (.int ld), .val (.int (4 : Int32)), .val (.int j21), .val (.int (191 : Int32)), .unset, .unset, .unset] [(.int j25)])) _
              refine XS.istore X0.here hx rfl (hb hby d1_157) rfl (l' := #[.val (.ref a1), .val (.int p2), .val (.int p3), .val (.int ld), .val (.int (4 : Int32)), .val (.int j21), .val (.int j25), .unset, .unset, .unset]) rfl ?_
              show Steps p.tables e below (s₁.setTop (mkF m 159 #[.val (.ref a1), .val (.int p2), .val (.int p3), .val (.int ld), .val (.int (4 : Int32)), .val (.int j21), .val (.int j25), .unset, .unset, .unset] [])) _
              refine XS.iload X0.here hx rfl (hb hby d1_159) rfl ?_
              show Steps p.tables e below (s₁.setTop (mkF m 161 #[.val (.ref a1), .val (.int p2), .val (.int p3), .val (.int ld), .val (.int (4 : Int32)), .val (.int j21), .val (.int j25), .unset, .unset, .unset] [(.int (4 : Int32))])) _
              refine XS.ifNo X0.here hx rfl (hb hby d1_161) rfl (XT.i0_le_f (by decide)) ?_
              show Steps p.tables e below (s₁.setTop (mkF m 164 #[.val (.ref a1), .val (.int p2), .val (.int p3), .val (.int ld), .val (.int (4 : Int32)), .val (.int j21), .val (.int j25), .unset, .unset, .unset] [])) _
              refine XS.iloadN X0.here hx rfl (hb hby d1_164) rfl ?_
              show Steps p.tables e below (s₁.setTop (mkF m 165 #[.val (.ref a1), .val (.int p2), .val (.int p3), .val (.int ld), .val (.int (4 : Int32)), .val (.int j21), .val (.int j25), .unset, .unset, .unset] [(.int p2)])) _
              refine XS.iload X0.here hx rfl (hb hby d1_165) rfl ?_
              show Steps p.tables e below (s₁.setTop (mkF m 167 #[.val (.ref a1), .val (.int p2), .val (.int p3), .val (.int ld), .val (.int (4 : Int32)), .val (.int j21), .val (.int j25), .unset, .unset, .unset] [(.int (4 : Int32)), (.int p2)])) _
              refine XS.iadd X0.here hx rfl (hb hby d1_167) rfl ?_
              show Steps p.tables e below (s₁.setTop (mkF m 168 #[.val (.ref a1), .val (.int p2), .val (.int p3), .val (.int ld), .val (.int (4 : Int32)), .val (.int j21), .val (.int j25), .unset, .unset, .unset] [(.int (p2 + (4 : Int32)))])) _
              refine XS.iloadN X0.here hx rfl (hb hby d1_168) rfl ?_
              exact kt
            by_cases hc169_28 : p3 < (p2 + (4 : Int32))
            · skip
              have pre29 : ∀ t, Steps p.tables e below (s₁.setTop (mkF m 274 #[.val (.ref a1), .val (.int p2), .val (.int p3), .val (.int ld), .val (.int (4 : Int32)), .val (.int j21), .val (.int j25), .val (.int (0 : Int32)), .val (.int (1 : Int32)), .unset] [(.int (0 : Int32))])) t → Steps p.tables e below (s₁.setTop (entryFrame m #[(.ref a1), (.int p2), (.int p3)] 10)) t := by
                intro t kt
                refine pre27 _ ?_
                show Steps p.tables e below (s₁.setTop (mkF m 169 #[.val (.ref a1), .val (.int p2), .val (.int p3), .val (.int ld), .val (.int (4 : Int32)), .val (.int j21), .val (.int j25), .unset, .unset, .unset] [(.int p3), (.int (p2 + (4 : Int32)))])) _
                refine XS.icmpYes X0.here hx rfl (pc0 := 169) (pc' := 176) rfl (hb hby d1_169) rfl (XT.ii_gt_t hc169_28) (by decide) (by decide) ?_
                show Steps p.tables e below (s₁.setTop (mkF m 176 #[.val (.ref a1), .val (.int p2), .val (.int p3), .val (.int ld), .val (.int (4 : Int32)), .val (.int j21), .val (.int j25), .unset, .unset, .unset] [])) _
                refine XS.iconst X0.here hx rfl (hb hby d1_176) ?_
                show Steps p.tables e below (s₁.setTop (mkF m 177 #[.val (.ref a1), .val (.int p2), .val (.int p3), .val (.int ld), .val (.int (4 : Int32)), .val (.int j21), .val (.int j25), .unset, .unset, .unset] [(.int (0 : Int32))])) _
                refine XS.istore X0.here hx rfl (hb hby d1_177) rfl (l' := #[.val (.ref a1), .val (.int p2), .val (.int p3), .val (.int ld), .val (.int (4 : Int32)), .val (.int j21), .val (.int j25), .val (.int (0 : Int32)), .unset, .unset]) rfl ?_
                show Steps p.tables e below (s₁.setTop (mkF m 179 #[.val (.ref a1), .val (.int p2), .val (.int p3), .val (.int ld), .val (.int (4 : Int32)), .val (.int j21), .val (.int j25), .val (.int (0 : Int32)), .unset, .unset] [])) _
                refine XS.iconst X0.here hx rfl (hb hby d1_179) ?_
                show Steps p.tables e below (s₁.setTop (mkF m 180 #[.val (.ref a1), .val (.int p2), .val (.int p3), .val (.int ld), .val (.int (4 : Int32)), .val (.int j21), .val (.int j25), .val (.int (0 : Int32)), .unset, .unset] [(.int (1 : Int32))])) _
                refine XS.istore X0.here hx rfl (hb hby d1_180) rfl (l' := #[.val (.ref a1), .val (.int p2), .val (.int p3), .val (.int ld), .val (.int (4 : Int32)), .val (.int j21), .val (.int j25), .val (.int (0 : Int32)), .val (.int (1 : Int32)), .unset]) rfl ?_
                show Steps p.tables e below (s₁.setTop (mkF m 182 #[.val (.ref a1), .val (.int p2), .val (.int p3), .val (.int ld), .val (.int (4 : Int32)), .val (.int j21), .val (.int j25), .val (.int (0 : Int32)), .val (.int (1 : Int32)), .unset] [])) _
                refine XS.iload X0.here hx rfl (hb hby d1_182) rfl ?_
                show Steps p.tables e below (s₁.setTop (mkF m 184 #[.val (.ref a1), .val (.int p2), .val (.int p3), .val (.int ld), .val (.int (4 : Int32)), .val (.int j21), .val (.int j25), .val (.int (0 : Int32)), .val (.int (1 : Int32)), .unset] [(.int (0 : Int32))])) _
                refine XS.ifYes X0.here hx rfl (pc0 := 184) (pc' := 263) rfl (hb hby d1_184) rfl (XT.i0_eq_t (by decide)) (by decide) (by decide) ?_
                show Steps p.tables e below (s₁.setTop (mkF m 263 #[.val (.ref a1), .val (.int p2), .val (.int p3), .val (.int ld), .val (.int (4 : Int32)), .val (.int j21), .val (.int j25), .val (.int (0 : Int32)), .val (.int (1 : Int32)), .unset] [])) _
                refine XS.iload X0.here hx rfl (hb hby d1_263) rfl ?_
                show Steps p.tables e below (s₁.setTop (mkF m 265 #[.val (.ref a1), .val (.int p2), .val (.int p3), .val (.int ld), .val (.int (4 : Int32)), .val (.int j21), .val (.int j25), .val (.int (0 : Int32)), .val (.int (1 : Int32)), .unset] [(.int (0 : Int32))])) _
                refine XS.ifYes X0.here hx rfl (pc0 := 265) (pc' := 273) rfl (hb hby d1_265) rfl (XT.i0_eq_t (by decide)) (by decide) (by decide) ?_
                show Steps p.tables e below (s₁.setTop (mkF m 273 #[.val (.ref a1), .val (.int p2), .val (.int p3), .val (.int ld), .val (.int (4 : Int32)), .val (.int j21), .val (.int j25), .val (.int (0 : Int32)), .val (.int (1 : Int32)), .unset] [])) _
                refine XS.iconst X0.here hx rfl (hb hby d1_273) ?_
                exact kt
              obtain ⟨fs, hr, hrun, hended, hW, hsame⟩ := X0.leave (v := some (.int (0 : Int32))) (fun h => by rw [Bd.returns] at h; cases h)
              refine ⟨_, _, pre29 _ ?_, hrun, hended, _, _, rfl, ?_, ⟨_, rfl⟩, hW, hsame.mono (by decide) (by decide)⟩
              · show Steps p.tables e below (s₁.setTop (mkF m 274 #[.val (.ref a1), .val (.int p2), .val (.int p3), .val (.int ld), .val (.int (4 : Int32)), .val (.int j21), .val (.int j25), .val (.int (0 : Int32)), .val (.int (1 : Int32)), .unset] [(.int (0 : Int32))])) _
                exact owRetI X0 hx Bd.returns (hb hby d1_274) hr
              · show Q1 Z a1 p2 p3 fb kb h0 n0 _ s₁.heap _
                rw [e0]
                exact ⟨by subst h_ld h_j21 h_j25; unfold fn1; rw [if_neg hc25_4, if_neg hc38_10, if_pos hc45_13, if_pos hc65_15, if_neg hc119_17, if_pos hc169_28], N0, rfl⟩
            · skip
              have pre30 : ∀ t, Steps p.tables e below (s₁.setTop (mkF m 216 #[.val (.ref a1), .val (.int p2), .val (.int p3), .val (.int ld), .val (.int (4 : Int32)), .val (.int j21), .val (.int j25), .val (.int (1 : Int32)), .val (.int (1 : Int32)), .val (.int ((fb (kb + 1)) &&& (255 : Int32)))] [(.int j21), (.int ((fb (kb + 1)) &&& (255 : Int32)))])) t → Steps p.tables e below (s₁.setTop (entryFrame m #[(.ref a1), (.int p2), (.int p3)] 10)) t := by
                intro t kt
                refine pre27 _ ?_
                show Steps p.tables e below (s₁.setTop (mkF m 169 #[.val (.ref a1), .val (.int p2), .val (.int p3), .val (.int ld), .val (.int (4 : Int32)), .val (.int j21), .val (.int j25), .unset, .unset, .unset] [(.int p3), (.int (p2 + (4 : Int32)))])) _
                refine XS.icmpNo X0.here hx rfl (hb hby d1_169) rfl (XT.ii_gt_f hc169_28) ?_
                show Steps p.tables e below (s₁.setTop (mkF m 172 #[.val (.ref a1), .val (.int p2), .val (.int p3), .val (.int ld), .val (.int (4 : Int32)), .val (.int j21), .val (.int j25), .unset, .unset, .unset] [])) _
                refine XS.iconst X0.here hx rfl (hb hby d1_172) ?_
                show Steps p.tables e below (s₁.setTop (mkF m 173 #[.val (.ref a1), .val (.int p2), .val (.int p3), .val (.int ld), .val (.int (4 : Int32)), .val (.int j21), .val (.int j25), .unset, .unset, .unset] [(.int (1 : Int32))])) _
                refine XS.goto X0.here hx rfl (pc0 := 173) (pc' := 177) rfl (hb hby d1_173) (by decide) (by decide) ?_
                show Steps p.tables e below (s₁.setTop (mkF m 177 #[.val (.ref a1), .val (.int p2), .val (.int p3), .val (.int ld), .val (.int (4 : Int32)), .val (.int j21), .val (.int j25), .unset, .unset, .unset] [(.int (1 : Int32))])) _
                refine XS.istore X0.here hx rfl (hb hby d1_177) rfl (l' := #[.val (.ref a1), .val (.int p2), .val (.int p3), .val (.int ld), .val (.int (4 : Int32)), .val (.int j21), .val (.int j25), .val (.int (1 : Int32)), .unset, .unset]) rfl ?_
                show Steps p.tables e below (s₁.setTop (mkF m 179 #[.val (.ref a1), .val (.int p2), .val (.int p3), .val (.int ld), .val (.int (4 : Int32)), .val (.int j21), .val (.int j25), .val (.int (1 : Int32)), .unset, .unset] [])) _
                refine XS.iconst X0.here hx rfl (hb hby d1_179) ?_
                show Steps p.tables e below (s₁.setTop (mkF m 180 #[.val (.ref a1), .val (.int p2), .val (.int p3), .val (.int ld), .val (.int (4 : Int32)), .val (.int j21), .val (.int j25), .val (.int (1 : Int32)), .unset, .unset] [(.int (1 : Int32))])) _
                refine XS.istore X0.here hx rfl (hb hby d1_180) rfl (l' := #[.val (.ref a1), .val (.int p2), .val (.int p3), .val (.int ld), .val (.int (4 : Int32)), .val (.int j21), .val (.int j25), .val (.int (1 : Int32)), .val (.int (1 : Int32)), .unset]) rfl ?_
                show Steps p.tables e below (s₁.setTop (mkF m 182 #[.val (.ref a1), .val (.int p2), .val (.int p3), .val (.int ld), .val (.int (4 : Int32)), .val (.int j21), .val (.int j25), .val (.int (1 : Int32)), .val (.int (1 : Int32)), .unset] [])) _
                refine XS.iload X0.here hx rfl (hb hby d1_182) rfl ?_
                show Steps p.tables e below (s₁.setTop (mkF m 184 #[.val (.ref a1), .val (.int p2), .val (.int p3), .val (.int ld), .val (.int (4 : Int32)), .val (.int j21), .val (.int j25), .val (.int (1 : Int32)), .val (.int (1 : Int32)), .unset] [(.int (1 : Int32))])) _
                refine XS.ifNo X0.here hx rfl (hb hby d1_184) rfl (XT.i0_eq_f (by decide)) ?_
                show Steps p.tables e below (s₁.setTop (mkF m 187 #[.val (.ref a1), .val (.int p2), .val (.int p3), .val (.int ld), .val (.int (4 : Int32)), .val (.int j21), .val (.int j25), .val (.int (1 : Int32)), .val (.int (1 : Int32)), .unset] [])) _
                refine XS.iload X0.here hx rfl (hb hby d1_187) rfl ?_
                show Steps p.tables e below (s₁.setTop (mkF m 189 #[.val (.ref a1), .val (.int p2), .val (.int p3), .val (.int ld), .val (.int (4 : Int32)), .val (.int j21), .val (.int j25), .val (.int (1 : Int32)), .val (.int (1 : Int32)), .unset] [(.int (1 : Int32))])) _
                refine XS.iload X0.here hx rfl (hb hby d1_189) rfl ?_
                show Steps p.tables e below (s₁.setTop (mkF m 191 #[.val (.ref a1), .val (.int p2), .val (.int p3), .val (.int ld), .val (.int (4 : Int32)), .val (.int j21), .val (.int j25), .val (.int (1 : Int32)), .val (.int (1 : Int32)), .unset] [(.int (4 : Int32)), (.int (1 : Int32))])) _
                refine XS.icmpNo X0.here hx rfl (hb hby d1_191) rfl (XT.ii_ge_f (by decide)) ?_
                show Steps p.tables e below (s₁.setTop (mkF m 194 #[.val (.ref a1), .val (.int p2), .val (.int p3), .val (.int ld), .val (.int (4 : Int32)), .val (.int j21), .val (.int j25), .val (.int (1 : Int32)), .val (.int (1 : Int32)), .unset] [])) _
                refine XS.aloadN X0.here hx rfl (hb hby d1_194) rfl rfl ?_
                show Steps p.tables e below (s₁.setTop (mkF m 195 #[.val (.ref a1), .val (.int p2), .val (.int p3), .val (.int ld), .val (.int (4 : Int32)), .val (.int j21), .val (.int j25), .val (.int (1 : Int32)), .val (.int (1 : Int32)), .unset] [(.ref a1)])) _
                refine XS.iloadN X0.here hx rfl (hb hby d1_195) rfl ?_
                show Steps p.tables e below (s₁.setTop (mkF m 196 #[.val (.ref a1), .val (.int p2), .val (.int p3), .val (.int ld), .val (.int (4 : Int32)), .val (.int j21), .val (.int j25), .val (.int (1 : Int32)), .val (.int (1 : Int32)), .unset] [(.int p2), (.ref a1)])) _
                refine XS.iload X0.here hx rfl (hb hby d1_196) rfl ?_
                show Steps p.tables e below (s₁.setTop (mkF m 198 #[.val (.ref a1), .val (.int p2), .val (.int p3), .val (.int ld), .val (.int (4 : Int32)), .val (.int j21), .val (.int j25), .val (.int (1 : Int32)), .val (.int (1 : Int32)), .unset] [(.int (1 : Int32)), (.int p2), (.ref a1)])) _
                refine XS.iadd X0.here hx rfl (hb hby d1_198) rfl ?_
                show Steps p.tables e below (s₁.setTop (mkF m 199 #[.val (.ref a1), .val (.int p2), .val (.int p3), .val (.int ld), .val (.int (4 : Int32)), .val (.int j21), .val (.int j25), .val (.int (1 : Int32)), .val (.int (1 : Int32)), .unset] [(.int (p2 + (1 : Int32))), (.ref a1)])) _
                refine owLdB (k := (kb + 1)) X0 hx hZ e0 A_ab (j := (p2 + (1 : Int32))) (own_ix (1 : Int32) 1 hkb hk1 rfl (by decide)) (by omega) (g := (mkF m 199 #[.val (.ref a1), .val (.int p2), .val (.int p3), .val (.int ld), .val (.int (4 : Int32)), .val (.int j21), .val (.int j25), .val (.int (1 : Int32)), .val (.int (1 : Int32)), .unset] [(.int (p2 + (1 : Int32))), (.ref a1)])) rfl rfl (hb hby d1_199) _ ?_
                show Steps p.tables e below (s₁.setTop (mkF m 200 #[.val (.ref a1), .val (.int p2), .val (.int p3), .val (.int ld), .val (.int (4 : Int32)), .val (.int j21), .val (.int j25), .val (.int (1 : Int32)), .val (.int (1 : Int32)), .unset] [(.int (fb (kb + 1)))])) _
                refine XS.sipush X0.here hx rfl (hb hby d1_200) ?_
                show Steps p.tables e below (s₁.setTop (mkF m 203 #[.val (.ref a1), .val (.int p2), .val (.int p3), .val (.int ld), .val (.int (4 : Int32)), .val (.int j21), .val (.int j25), .val (.int (1 : Int32)), .val (.int (1 : Int32)), .unset] [(.int (255 : Int32)), (.int (fb (kb + 1)))])) _
                refine XS.iand X0.here hx rfl (hb hby d1_203) rfl ?_
                show Steps p.tables e below (s₁.setTop (mkF m 204 #[.val (.ref a1), .val (.int p2), .val (.int p3), .val (.int ld), .val (.int (4 : Int32)), .val (.int j21), .val (.int j25), .val (.int (1 : Int32)), .val (.int (1 : Int32)), .unset] [(.int ((fb (kb + 1)) &&& (255 : Int32)))])) _
                refine XS.istore X0.here hx rfl (hb hby d1_204) rfl (l' := #[.val (.ref a1), .val (.int p2), .val (.int p3), .val (.int ld), .val (.int (4 : Int32)), .val (.int j21), .val (.int j25), .val (.int (1 : Int32)), .val (.int (1 : Int32)), .val (.int ((fb (kb + 1)) &&& (255 : Int32)))]) rfl ?_
                show Steps p.tables e below (s₁.setTop (mkF m 206 #[.val (.ref a1), .val (.int p2), .val (.int p3), .val (.int ld), .val (.int (4 : Int32)), .val (.int j21), .val (.int j25), .val (.int (1 : Int32)), .val (.int (1 : Int32)), .val (.int ((fb (kb + 1)) &&& (255 : Int32)))] [])) _
                refine XS.iload X0.here hx rfl (hb hby d1_206) rfl ?_
                show Steps p.tables e below (s₁.setTop (mkF m 208 #[.val (.ref a1), .val (.int p2), .val (.int p3), .val (.int ld), .val (.int (4 : Int32)), .val (.int j21), .val (.int j25), .val (.int (1 : Int32)), .val (.int (1 : Int32)), .val (.int ((fb (kb + 1)) &&& (255 : Int32)))] [(.int (1 : Int32))])) _
                refine XS.iconst X0.here hx rfl (hb hby d1_208) ?_
                show Steps p.tables e below (s₁.setTop (mkF m 209 #[.val (.ref a1), .val (.int p2), .val (.int p3), .val (.int ld), .val (.int (4 : Int32)), .val (.int j21), .val (.int j25), .val (.int (1 : Int32)), .val (.int (1 : Int32)), .val (.int ((fb (kb + 1)) &&& (255 : Int32)))] [(.int (1 : Int32)), (.int (1 : Int32))])) _
                refine XS.icmpNo X0.here hx rfl (hb hby d1_209) rfl (XT.ii_ne_f (by decide)) ?_
                show Steps p.tables e below (s₁.setTop (mkF m 212 #[.val (.ref a1), .val (.int p2), .val (.int p3), .val (.int ld), .val (.int (4 : Int32)), .val (.int j21), .val (.int j25), .val (.int (1 : Int32)), .val (.int (1 : Int32)), .val (.int ((fb (kb + 1)) &&& (255 : Int32)))] [])) _
                refine XS.iload X0.here hx rfl (hb hby d1_212) rfl ?_
                show Steps p.tables e below (s₁.setTop (mkF m 214 #[.val (.ref a1), .val (.int p2), .val (.int p3), .val (.int ld), .val (.int (4 : Int32)), .val (.int j21), .val (.int j25), .val (.int (1 : Int32)), .val (.int (1 : Int32)), .val (.int ((fb (kb + 1)) &&& (255 : Int32)))] [(.int ((fb (kb + 1)) &&& (255 : Int32)))])) _
                refine XS.iload X0.here hx rfl (hb hby d1_214) rfl ?_
                exact kt
              by_cases hc216_31 : ((fb (kb + 1)) &&& (255 : Int32)) < j21
              · skip
                have pre32 : ∀ t, Steps p.tables e below (s₁.setTop (mkF m 274 #[.val (.ref a1), .val (.int p2), .val (.int p3), .val (.int ld), .val (.int (4 : Int32)), .val (.int j21), .val (.int j25), .val (.int (0 : Int32)), .val (.int (2 : Int32)), .val (.int ((fb (kb + 1)) &&& (255 : Int32)))] [(.int (0 : Int32))])) t → Steps p.tables e below (s₁.setTop (entryFrame m #[(.ref a1), (.int p2), (.int p3)] 10)) t := by
                  intro t kt
                  refine pre30 _ ?_
                  show Steps p.tables e below (s₁.setTop (mkF m 216 #[.val (.ref a1), .val (.int p2), .val (.int p3), .val (.int ld), .val (.int (4 : Int32)), .val (.int j21), .val (.int j25), .val (.int (1 : Int32)), .val (.int (1 : Int32)), .val (.int ((fb (kb + 1)) &&& (255 : Int32)))] [(.int j21), (.int ((fb (kb + 1)) &&& (255 : Int32)))])) _
                  refine XS.icmpYes X0.here hx rfl (pc0 := 216) (pc' := 230) rfl (hb hby d1_216) rfl (XT.ii_lt_t hc216_31) (by decide) (by decide) ?_
                  show Steps p.tables e below (s₁.setTop (mkF m 230 #[.val (.ref a1), .val (.int p2), .val (.int p3), .val (.int ld), .val (.int (4 : Int32)), .val (.int j21), .val (.int j25), .val (.int (1 : Int32)), .val (.int (1 : Int32)), .val (.int ((fb (kb + 1)) &&& (255 : Int32)))] [])) _
                  refine XS.iconst X0.here hx rfl (hb hby d1_230) ?_
                  show Steps p.tables e below (s₁.setTop (mkF m 231 #[.val (.ref a1), .val (.int p2), .val (.int p3), .val (.int ld), .val (.int (4 : Int32)), .val (.int j21), .val (.int j25), .val (.int (1 : Int32)), .val (.int (1 : Int32)), .val (.int ((fb (kb + 1)) &&& (255 : Int32)))] [(.int (0 : Int32))])) _
                  refine XS.goto X0.here hx rfl (pc0 := 231) (pc' := 255) rfl (hb hby d1_231) (by decide) (by decide) ?_
                  show Steps p.tables e below (s₁.setTop (mkF m 255 #[.val (.ref a1), .val (.int p2), .val (.int p3), .val (.int ld), .val (.int (4 : Int32)), .val (.int j21), .val (.int j25), .val (.int (1 : Int32)), .val (.int (1 : Int32)), .val (.int ((fb (kb + 1)) &&& (255 : Int32)))] [(.int (0 : Int32))])) _
                  refine XS.istore X0.here hx rfl (hb hby d1_255) rfl (l' := #[.val (.ref a1), .val (.int p2), .val (.int p3), .val (.int ld), .val (.int (4 : Int32)), .val (.int j21), .val (.int j25), .val (.int (0 : Int32)), .val (.int (1 : Int32)), .val (.int ((fb (kb + 1)) &&& (255 : Int32)))]) rfl ?_
                  show Steps p.tables e below (s₁.setTop (mkF m 257 #[.val (.ref a1), .val (.int p2), .val (.int p3), .val (.int ld), .val (.int (4 : Int32)), .val (.int j21), .val (.int j25), .val (.int (0 : Int32)), .val (.int (1 : Int32)), .val (.int ((fb (kb + 1)) &&& (255 : Int32)))] [])) _
                  refine XS.iinc X0.here hx rfl (hb hby d1_257) rfl (l' := #[.val (.ref a1), .val (.int p2), .val (.int p3), .val (.int ld), .val (.int (4 : Int32)), .val (.int j21), .val (.int j25), .val (.int (0 : Int32)), .val (.int (2 : Int32)), .val (.int ((fb (kb + 1)) &&& (255 : Int32)))]) rfl ?_
                  show Steps p.tables e below (s₁.setTop (mkF m 260 #[.val (.ref a1), .val (.int p2), .val (.int p3), .val (.int ld), .val (.int (4 : Int32)), .val (.int j21), .val (.int j25), .val (.int (0 : Int32)), .val (.int (2 : Int32)), .val (.int ((fb (kb + 1)) &&& (255 : Int32)))] [])) _
                  refine XS.goto X0.here hx rfl (pc0 := 260) (pc' := 182) rfl (hb hby d1_260) (by decide) (by decide) ?_
                  show Steps p.tables e below (s₁.setTop (mkF m 182 #[.val (.ref a1), .val (.int p2), .val (.int p3), .val (.int ld), .val (.int (4 : Int32)), .val (.int j21), .val (.int j25), .val (.int (0 : Int32)), .val (.int (2 : Int32)), .val (.int ((fb (kb + 1)) &&& (255 : Int32)))] [])) _
                  refine XS.iload X0.here hx rfl (hb hby d1_182) rfl ?_
                  show Steps p.tables e below (s₁.setTop (mkF m 184 #[.val (.ref a1), .val (.int p2), .val (.int p3), .val (.int ld), .val (.int (4 : Int32)), .val (.int j21), .val (.int j25), .val (.int (0 : Int32)), .val (.int (2 : Int32)), .val (.int ((fb (kb + 1)) &&& (255 : Int32)))] [(.int (0 : Int32))])) _
                  refine XS.ifYes X0.here hx rfl (pc0 := 184) (pc' := 263) rfl (hb hby d1_184) rfl (XT.i0_eq_t (by decide)) (by decide) (by decide) ?_
                  show Steps p.tables e below (s₁.setTop (mkF m 263 #[.val (.ref a1), .val (.int p2), .val (.int p3), .val (.int ld), .val (.int (4 : Int32)), .val (.int j21), .val (.int j25), .val (.int (0 : Int32)), .val (.int (2 : Int32)), .val (.int ((fb (kb + 1)) &&& (255 : Int32)))] [])) _
                  refine XS.iload X0.here hx rfl (hb hby d1_263) rfl ?_
                  show Steps p.tables e below (s₁.setTop (mkF m 265 #[.val (.ref a1), .val (.int p2), .val (.int p3), .val (.int ld), .val (.int (4 : Int32)), .val (.int j21), .val (.int j25), .val (.int (0 : Int32)), .val (.int (2 : Int32)), .val (.int ((fb (kb + 1)) &&& (255 : Int32)))] [(.int (0 : Int32))])) _
                  refine XS.ifYes X0.here hx rfl (pc0 := 265) (pc' := 273) rfl (hb hby d1_265) rfl (XT.i0_eq_t (by decide)) (by decide) (by decide) ?_
                  show Steps p.tables e below (s₁.setTop (mkF m 273 #[.val (.ref a1), .val (.int p2), .val (.int p3), .val (.int ld), .val (.int (4 : Int32)), .val (.int j21), .val (.int j25), .val (.int (0 : Int32)), .val (.int (2 : Int32)), .val (.int ((fb (kb + 1)) &&& (255 : Int32)))] [])) _
                  refine XS.iconst X0.here hx rfl (hb hby d1_273) ?_
                  exact kt
                obtain ⟨fs, hr, hrun, hended, hW, hsame⟩ := X0.leave (v := some (.int (0 : Int32))) (fun h => by rw [Bd.returns] at h; cases h)
                refine ⟨_, _, pre32 _ ?_, hrun, hended, _, _, rfl, ?_, ⟨_, rfl⟩, hW, hsame.mono (by decide) (by decide)⟩
                · show Steps p.tables e below (s₁.setTop (mkF m 274 #[.val (.ref a1), .val (.int p2), .val (.int p3), .val (.int ld), .val (.int (4 : Int32)), .val (.int j21), .val (.int j25), .val (.int (0 : Int32)), .val (.int (2 : Int32)), .val (.int ((fb (kb + 1)) &&& (255 : Int32)))] [(.int (0 : Int32))])) _
                  exact owRetI X0 hx Bd.returns (hb hby d1_274) hr
                · show Q1 Z a1 p2 p3 fb kb h0 n0 _ s₁.heap _
                  rw [e0]
                  exact ⟨by subst h_ld h_j21 h_j25; unfold fn1; rw [if_neg hc25_4, if_neg hc38_10, if_pos hc45_13, if_pos hc65_15, if_neg hc119_17, if_neg hc169_28, if_pos hc216_31], N0, rfl⟩
              · skip
                have pre33 : ∀ t, Steps p.tables e below (s₁.setTop (mkF m 223 #[.val (.ref a1), .val (.int p2), .val (.int p3), .val (.int ld), .val (.int (4 : Int32)), .val (.int j21), .val (.int j25), .val (.int (1 : Int32)), .val (.int (1 : Int32)), .val (.int ((fb (kb + 1)) &&& (255 : Int32)))] [(.int j25), (.int ((fb (kb + 1)) &&& (255 : Int32)))])) t → Steps p.tables e below (s₁.setTop (entryFrame m #[(.ref a1), (.int p2), (.int p3)] 10)) t := by
                  intro t kt
                  refine pre30 _ ?_
                  show Steps p.tables e below (s₁.setTop (mkF m 216 #[.val (.ref a1), .val (.int p2), .val (.int p3), .val (.int ld), .val (.int (4 : Int32)), .val (.int j21), .val (.int j25), .val (.int (1 : Int32)), .val (.int (1 : Int32)), .val (.int ((fb (kb + 1)) &&& (255 : Int32)))] [(.int j21), (.int ((fb (kb + 1)) &&& (255 : Int32)))])) _
                  refine XS.icmpNo X0.here hx rfl (hb hby d1_216) rfl (XT.ii_lt_f hc216_31) ?_
                  show Steps p.tables e below (s₁.setTop (mkF m 219 #[.val (.ref a1), .val (.int p2), .val (.int p3), .val (.int ld), .val (.int (4 : Int32)), .val (.int j21), .val (.int j25), .val (.int (1 : Int32)), .val (.int (1 : Int32)), .val (.int ((fb (kb + 1)) &&& (255 : Int32)))] [])) _
                  refine XS.iload X0.here hx rfl (hb hby d1_219) rfl ?_
                  show Steps p.tables e below (s₁.setTop (mkF m 221 #[.val (.ref a1), .val (.int p2), .val (.int p3), .val (.int ld), .val (.int (4 : Int32)), .val (.int j21), .val (.int j25), .val (.int (1 : Int32)), .val (.int (1 : Int32)), .val (.int ((fb (kb + 1)) &&& (255 : Int32)))] [(.int ((fb (kb + 1)) &&& (255 : Int32)))])) _
                  refine XS.iload X0.here hx rfl (hb hby d1_221) rfl ?_
                  exact kt
                by_cases hc223_34 : j25 < ((fb (kb + 1)) &&& (255 : Int32))
                · skip
                  have pre35 : ∀ t, Steps p.tables e below (s₁.setTop (mkF m 274 #[.val (.ref a1), .val (.int p2), .val (.int p3), .val (.int ld), .val (.int (4 : Int32)), .val (.int j21), .val (.int j25), .val (.int (0 : Int32)), .val (.int (2 : Int32)), .val (.int ((fb (kb + 1)) &&& (255 : Int32)))] [(.int (0 : Int32))])) t → Steps p.tables e below (s₁.setTop (entryFrame m #[(.ref a1), (.int p2), (.int p3)] 10)) t := by
                    intro t kt
                    refine pre33 _ ?_
                    show Steps p.tables e below (s₁.setTop (mkF m 223 #[.val (.ref a1), .val (.int p2), .val (.int p3), .val (.int ld), .val (.int (4 : Int32)), .val (.int j21), .val (.int j25), .val (.int (1 : Int32)), .val (.int (1 : Int32)), .val (.int ((fb (kb + 1)) &&& (255 : Int32)))] [(.int j25), (.int ((fb (kb + 1)) &&& (255 : Int32)))])) _
                    refine XS.icmpYes X0.here hx rfl (pc0 := 223) (pc' := 230) rfl (hb hby d1_223) rfl (XT.ii_gt_t hc223_34) (by decide) (by decide) ?_
                    show Steps p.tables e below (s₁.setTop (mkF m 230 #[.val (.ref a1), .val (.int p2), .val (.int p3), .val (.int ld), .val (.int (4 : Int32)), .val (.int j21), .val (.int j25), .val (.int (1 : Int32)), .val (.int (1 : Int32)), .val (.int ((fb (kb + 1)) &&& (255 : Int32)))] [])) _
                    refine XS.iconst X0.here hx rfl (hb hby d1_230) ?_
                    show Steps p.tables e below (s₁.setTop (mkF m 231 #[.val (.ref a1), .val (.int p2), .val (.int p3), .val (.int ld), .val (.int (4 : Int32)), .val (.int j21), .val (.int j25), .val (.int (1 : Int32)), .val (.int (1 : Int32)), .val (.int ((fb (kb + 1)) &&& (255 : Int32)))] [(.int (0 : Int32))])) _
                    refine XS.goto X0.here hx rfl (pc0 := 231) (pc' := 255) rfl (hb hby d1_231) (by decide) (by decide) ?_
                    show Steps p.tables e below (s₁.setTop (mkF m 255 #[.val (.ref a1), .val (.int p2), .val (.int p3), .val (.int ld), .val (.int (4 : Int32)), .val (.int j21), .val (.int j25), .val (.int (1 : Int32)), .val (.int (1 : Int32)), .val (.int ((fb (kb + 1)) &&& (255 : Int32)))] [(.int (0 : Int32))])) _
                    refine XS.istore X0.here hx rfl (hb hby d1_255) rfl (l' := #[.val (.ref a1), .val (.int p2), .val (.int p3), .val (.int ld), .val (.int (4 : Int32)), .val (.int j21), .val (.int j25), .val (.int (0 : Int32)), .val (.int (1 : Int32)), .val (.int ((fb (kb + 1)) &&& (255 : Int32)))]) rfl ?_
                    show Steps p.tables e below (s₁.setTop (mkF m 257 #[.val (.ref a1), .val (.int p2), .val (.int p3), .val (.int ld), .val (.int (4 : Int32)), .val (.int j21), .val (.int j25), .val (.int (0 : Int32)), .val (.int (1 : Int32)), .val (.int ((fb (kb + 1)) &&& (255 : Int32)))] [])) _
                    refine XS.iinc X0.here hx rfl (hb hby d1_257) rfl (l' := #[.val (.ref a1), .val (.int p2), .val (.int p3), .val (.int ld), .val (.int (4 : Int32)), .val (.int j21), .val (.int j25), .val (.int (0 : Int32)), .val (.int (2 : Int32)), .val (.int ((fb (kb + 1)) &&& (255 : Int32)))]) rfl ?_
                    show Steps p.tables e below (s₁.setTop (mkF m 260 #[.val (.ref a1), .val (.int p2), .val (.int p3), .val (.int ld), .val (.int (4 : Int32)), .val (.int j21), .val (.int j25), .val (.int (0 : Int32)), .val (.int (2 : Int32)), .val (.int ((fb (kb + 1)) &&& (255 : Int32)))] [])) _
                    refine XS.goto X0.here hx rfl (pc0 := 260) (pc' := 182) rfl (hb hby d1_260) (by decide) (by decide) ?_
                    show Steps p.tables e below (s₁.setTop (mkF m 182 #[.val (.ref a1), .val (.int p2), .val (.int p3), .val (.int ld), .val (.int (4 : Int32)), .val (.int j21), .val (.int j25), .val (.int (0 : Int32)), .val (.int (2 : Int32)), .val (.int ((fb (kb + 1)) &&& (255 : Int32)))] [])) _
                    refine XS.iload X0.here hx rfl (hb hby d1_182) rfl ?_
                    show Steps p.tables e below (s₁.setTop (mkF m 184 #[.val (.ref a1), .val (.int p2), .val (.int p3), .val (.int ld), .val (.int (4 : Int32)), .val (.int j21), .val (.int j25), .val (.int (0 : Int32)), .val (.int (2 : Int32)), .val (.int ((fb (kb + 1)) &&& (255 : Int32)))] [(.int (0 : Int32))])) _
                    refine XS.ifYes X0.here hx rfl (pc0 := 184) (pc' := 263) rfl (hb hby d1_184) rfl (XT.i0_eq_t (by decide)) (by decide) (by decide) ?_
                    show Steps p.tables e below (s₁.setTop (mkF m 263 #[.val (.ref a1), .val (.int p2), .val (.int p3), .val (.int ld), .val (.int (4 : Int32)), .val (.int j21), .val (.int j25), .val (.int (0 : Int32)), .val (.int (2 : Int32)), .val (.int ((fb (kb + 1)) &&& (255 : Int32)))] [])) _
                    refine XS.iload X0.here hx rfl (hb hby d1_263) rfl ?_
                    show Steps p.tables e below (s₁.setTop (mkF m 265 #[.val (.ref a1), .val (.int p2), .val (.int p3), .val (.int ld), .val (.int (4 : Int32)), .val (.int j21), .val (.int j25), .val (.int (0 : Int32)), .val (.int (2 : Int32)), .val (.int ((fb (kb + 1)) &&& (255 : Int32)))] [(.int (0 : Int32))])) _
                    refine XS.ifYes X0.here hx rfl (pc0 := 265) (pc' := 273) rfl (hb hby d1_265) rfl (XT.i0_eq_t (by decide)) (by decide) (by decide) ?_
                    show Steps p.tables e below (s₁.setTop (mkF m 273 #[.val (.ref a1), .val (.int p2), .val (.int p3), .val (.int ld), .val (.int (4 : Int32)), .val (.int j21), .val (.int j25), .val (.int (0 : Int32)), .val (.int (2 : Int32)), .val (.int ((fb (kb + 1)) &&& (255 : Int32)))] [])) _
                    refine XS.iconst X0.here hx rfl (hb hby d1_273) ?_
                    exact kt
                  obtain ⟨fs, hr, hrun, hended, hW, hsame⟩ := X0.leave (v := some (.int (0 : Int32))) (fun h => by rw [Bd.returns] at h; cases h)
                  refine ⟨_, _, pre35 _ ?_, hrun, hended, _, _, rfl, ?_, ⟨_, rfl⟩, hW, hsame.mono (by decide) (by decide)⟩
                  · show Steps p.tables e below (s₁.setTop (mkF m 274 #[.val (.ref a1), .val (.int p2), .val (.int p3), .val (.int ld), .val (.int (4 : Int32)), .val (.int j21), .val (.int j25), .val (.int (0 : Int32)), .val (.int (2 : Int32)), .val (.int ((fb (kb + 1)) &&& (255 : Int32)))] [(.int (0 : Int32))])) _
                    exact owRetI X0 hx Bd.returns (hb hby d1_274) hr
                  · show Q1 Z a1 p2 p3 fb kb h0 n0 _ s₁.heap _
                    rw [e0]
                    exact ⟨by subst h_ld h_j21 h_j25; unfold fn1; rw [if_neg hc25_4, if_neg hc38_10, if_pos hc45_13, if_pos hc65_15, if_neg hc119_17, if_neg hc169_28, if_neg hc216_31, if_pos hc223_34], N0, rfl⟩
                · skip
                  have pre36 : ∀ t, Steps p.tables e below (s₁.setTop (mkF m 239 #[.val (.ref a1), .val (.int p2), .val (.int p3), .val (.int ld), .val (.int (4 : Int32)), .val (.int j21), .val (.int j25), .val (.int (1 : Int32)), .val (.int (2 : Int32)), .val (.int ((fb (kb + 2)) &&& (255 : Int32)))] [(.int (128 : Int32)), (.int ((fb (kb + 2)) &&& (255 : Int32)))])) t → Steps p.tables e below (s₁.setTop (entryFrame m #[(.ref a1), (.int p2), (.int p3)] 10)) t := by
                    intro t kt
                    refine pre33 _ ?_
                    show Steps p.tables e below (s₁.setTop (mkF m 223 #[.val (.ref a1), .val (.int p2), .val (.int p3), .val (.int ld), .val (.int (4 : Int32)), .val (.int j21), .val (.int j25), .val (.int (1 : Int32)), .val (.int (1 : Int32)), .val (.int ((fb (kb + 1)) &&& (255 : Int32)))] [(.int j25), (.int ((fb (kb + 1)) &&& (255 : Int32)))])) _
                    refine XS.icmpNo X0.here hx rfl (hb hby d1_223) rfl (XT.ii_gt_f hc223_34) ?_
                    show Steps p.tables e below (s₁.setTop (mkF m 226 #[.val (.ref a1), .val (.int p2), .val (.int p3), .val (.int ld), .val (.int (4 : Int32)), .val (.int j21), .val (.int j25), .val (.int (1 : Int32)), .val (.int (1 : Int32)), .val (.int ((fb (kb + 1)) &&& (255 : Int32)))] [])) _
                    refine XS.iconst X0.here hx rfl (hb hby d1_226) ?_
                    show Steps p.tables e below (s₁.setTop (mkF m 227 #[.val (.ref a1), .val (.int p2), .val (.int p3), .val (.int ld), .val (.int (4 : Int32)), .val (.int j21), .val (.int j25), .val (.int (1 : Int32)), .val (.int (1 : Int32)), .val (.int ((fb (kb + 1)) &&& (255 : Int32)))] [(.int (1 : Int32))])) _
                    refine XS.goto X0.here hx rfl (pc0 := 227) (pc' := 255) rfl (hb hby d1_227) (by decide) (by decide) ?_
                    show Steps p.tables e below (s₁.setTop (mkF m 255 #[.val (.ref a1), .val (.int p2), .val (.int p3), .val (.int ld), .val (.int (4 : Int32)), .val (.int j21), .val (.int j25), .val (.int (1 : Int32)), .val (.int (1 : Int32)), .val (.int ((fb (kb + 1)) &&& (255 : Int32)))] [(.int (1 : Int32))])) _
                    refine XS.istore X0.here hx rfl (hb hby d1_255) rfl (l' := #[.val (.ref a1), .val (.int p2), .val (.int p3), .val (.int ld), .val (.int (4 : Int32)), .val (.int j21), .val (.int j25), .val (.int (1 : Int32)), .val (.int (1 : Int32)), .val (.int ((fb (kb + 1)) &&& (255 : Int32)))]) rfl ?_
                    show Steps p.tables e below (s₁.setTop (mkF m 257 #[.val (.ref a1), .val (.int p2), .val (.int p3), .val (.int ld), .val (.int (4 : Int32)), .val (.int j21), .val (.int j25), .val (.int (1 : Int32)), .val (.int (1 : Int32)), .val (.int ((fb (kb + 1)) &&& (255 : Int32)))] [])) _
                    refine XS.iinc X0.here hx rfl (hb hby d1_257) rfl (l' := #[.val (.ref a1), .val (.int p2), .val (.int p3), .val (.int ld), .val (.int (4 : Int32)), .val (.int j21), .val (.int j25), .val (.int (1 : Int32)), .val (.int (2 : Int32)), .val (.int ((fb (kb + 1)) &&& (255 : Int32)))]) rfl ?_
                    show Steps p.tables e below (s₁.setTop (mkF m 260 #[.val (.ref a1), .val (.int p2), .val (.int p3), .val (.int ld), .val (.int (4 : Int32)), .val (.int j21), .val (.int j25), .val (.int (1 : Int32)), .val (.int (2 : Int32)), .val (.int ((fb (kb + 1)) &&& (255 : Int32)))] [])) _
                    refine XS.goto X0.here hx rfl (pc0 := 260) (pc' := 182) rfl (hb hby d1_260) (by decide) (by decide) ?_
                    show Steps p.tables e below (s₁.setTop (mkF m 182 #[.val (.ref a1), .val (.int p2), .val (.int p3), .val (.int ld), .val (.int (4 : Int32)), .val (.int j21), .val (.int j25), .val (.int (1 : Int32)), .val (.int (2 : Int32)), .val (.int ((fb (kb + 1)) &&& (255 : Int32)))] [])) _
                    refine XS.iload X0.here hx rfl (hb hby d1_182) rfl ?_
                    show Steps p.tables e below (s₁.setTop (mkF m 184 #[.val (.ref a1), .val (.int p2), .val (.int p3), .val (.int ld), .val (.int (4 : Int32)), .val (.int j21), .val (.int j25), .val (.int (1 : Int32)), .val (.int (2 : Int32)), .val (.int ((fb (kb + 1)) &&& (255 : Int32)))] [(.int (1 : Int32))])) _
                    refine XS.ifNo X0.here hx rfl (hb hby d1_184) rfl (XT.i0_eq_f (by decide)) ?_
                    show Steps p.tables e below (s₁.setTop (mkF m 187 #[.val (.ref a1), .val (.int p2), .val (.int p3), .val (.int ld), .val (.int (4 : Int32)), .val (.int j21), .val (.int j25), .val (.int (1 : Int32)), .val (.int (2 : Int32)), .val (.int ((fb (kb + 1)) &&& (255 : Int32)))] [])) _
                    refine XS.iload X0.here hx rfl (hb hby d1_187) rfl ?_
                    show Steps p.tables e below (s₁.setTop (mkF m 189 #[.val (.ref a1), .val (.int p2), .val (.int p3), .val (.int ld), .val (.int (4 : Int32)), .val (.int j21), .val (.int j25), .val (.int (1 : Int32)), .val (.int (2 : Int32)), .val (.int ((fb (kb + 1)) &&& (255 : Int32)))] [(.int (2 : Int32))])) _
                    refine XS.iload X0.here hx rfl (hb hby d1_189) rfl ?_
                    show Steps p.tables e below (s₁.setTop (mkF m 191 #[.val (.ref a1), .val (.int p2), .val (.int p3), .val (.int ld), .val (.int (4 : Int32)), .val (.int j21), .val (.int j25), .val (.int (1 : Int32)), .val (.int (2 : Int32)), .val (.int ((fb (kb + 1)) &&& (255 : Int32)))] [(.int (4 : Int32)), (.int (2 : Int32))])) _
                    refine XS.icmpNo X0.here hx rfl (hb hby d1_191) rfl (XT.ii_ge_f (by decide)) ?_
                    show Steps p.tables e below (s₁.setTop (mkF m 194 #[.val (.ref a1), .val (.int p2), .val (.int p3), .val (.int ld), .val (.int (4 : Int32)), .val (.int j21), .val (.int j25), .val (.int (1 : Int32)), .val (.int (2 : Int32)), .val (.int ((fb (kb + 1)) &&& (255 : Int32)))] [])) _
                    refine XS.aloadN X0.here hx rfl (hb hby d1_194) rfl rfl ?_
                    show Steps p.tables e below (s₁.setTop (mkF m 195 #[.val (.ref a1), .val (.int p2), .val (.int p3), .val (.int ld), .val (.int (4 : Int32)), .val (.int j21), .val (.int j25), .val (.int (1 : Int32)), .val (.int (2 : Int32)), .val (.int ((fb (kb + 1)) &&& (255 : Int32)))] [(.ref a1)])) _
                    refine XS.iloadN X0.here hx rfl (hb hby d1_195) rfl ?_
                    show Steps p.tables e below (s₁.setTop (mkF m 196 #[.val (.ref a1), .val (.int p2), .val (.int p3), .val (.int ld), .val (.int (4 : Int32)), .val (.int j21), .val (.int j25), .val (.int (1 : Int32)), .val (.int (2 : Int32)), .val (.int ((fb (kb + 1)) &&& (255 : Int32)))] [(.int p2), (.ref a1)])) _
                    refine XS.iload X0.here hx rfl (hb hby d1_196) rfl ?_
                    show Steps p.tables e below (s₁.setTop (mkF m 198 #[.val (.ref a1), .val (.int p2), .val (.int p3), .val (.int ld), .val (.int (4 : Int32)), .val (.int j21), .val (.int j25), .val (.int (1 : Int32)), .val (.int (2 : Int32)), .val (.int ((fb (kb + 1)) &&& (255 : Int32)))] [(.int (2 : Int32)), (.int p2), (.ref a1)])) _
                    refine XS.iadd X0.here hx rfl (hb hby d1_198) rfl ?_
                    show Steps p.tables e below (s₁.setTop (mkF m 199 #[.val (.ref a1), .val (.int p2), .val (.int p3), .val (.int ld), .val (.int (4 : Int32)), .val (.int j21), .val (.int j25), .val (.int (1 : Int32)), .val (.int (2 : Int32)), .val (.int ((fb (kb + 1)) &&& (255 : Int32)))] [(.int (p2 + (2 : Int32))), (.ref a1)])) _
                    refine owLdB (k := (kb + 2)) X0 hx hZ e0 A_ab (j := (p2 + (2 : Int32))) (own_ix (2 : Int32) 2 hkb hk1 rfl (by decide)) (by omega) (g := (mkF m 199 #[.val (.ref a1), .val (.int p2), .val (.int p3), .val (.int ld), .val (.int (4 : Int32)), .val (.int j21), .val (.int j25), .val (.int (1 : Int32)), .val (.int (2 : Int32)), .val (.int ((fb (kb + 1)) &&& (255 : Int32)))] [(.int (p2 + (2 : Int32))), (.ref a1)])) rfl rfl (hb hby d1_199) _ ?_
                    show Steps p.tables e below (s₁.setTop (mkF m 200 #[.val (.ref a1), .val (.int p2), .val (.int p3), .val (.int ld), .val (.int (4 : Int32)), .val (.int j21), .val (.int j25), .val (.int (1 : Int32)), .val (.int (2 : Int32)), .val (.int ((fb (kb + 1)) &&& (255 : Int32)))] [(.int (fb (kb + 2)))])) _
                    refine XS.sipush X0.here hx rfl (hb hby d1_200) ?_
                    show Steps p.tables e below (s₁.setTop (mkF m 203 #[.val (.ref a1), .val (.int p2), .val (.int p3), .val (.int ld), .val (.int (4 : Int32)), .val (.int j21), .val (.int j25), .val (.int (1 : Int32)), .val (.int (2 : Int32)), .val (.int ((fb (kb + 1)) &&& (255 : Int32)))] [(.int (255 : Int32)), (.int (fb (kb + 2)))])) _
                    refine XS.iand X0.here hx rfl (hb hby d1_203) rfl ?_
                    show Steps p.tables e below (s₁.setTop (mkF m 204 #[.val (.ref a1), .val (.int p2), .val (.int p3), .val (.int ld), .val (.int (4 : Int32)), .val (.int j21), .val (.int j25), .val (.int (1 : Int32)), .val (.int (2 : Int32)), .val (.int ((fb (kb + 1)) &&& (255 : Int32)))] [(.int ((fb (kb + 2)) &&& (255 : Int32)))])) _
                    refine XS.istore X0.here hx rfl (hb hby d1_204) rfl (l' := #[.val (.ref a1), .val (.int p2), .val (.int p3), .val (.int ld), .val (.int (4 : Int32)), .val (.int j21), .val (.int j25), .val (.int (1 : Int32)), .val (.int (2 : Int32)), .val (.int ((fb (kb + 2)) &&& (255 : Int32)))]) rfl ?_
                    show Steps p.tables e below (s₁.setTop (mkF m 206 #[.val (.ref a1), .val (.int p2), .val (.int p3), .val (.int ld), .val (.int (4 : Int32)), .val (.int j21), .val (.int j25), .val (.int (1 : Int32)), .val (.int (2 : Int32)), .val (.int ((fb (kb + 2)) &&& (255 : Int32)))] [])) _
                    refine XS.iload X0.here hx rfl (hb hby d1_206) rfl ?_
                    show Steps p.tables e below (s₁.setTop (mkF m 208 #[.val (.ref a1), .val (.int p2), .val (.int p3), .val (.int ld), .val (.int (4 : Int32)), .val (.int j21), .val (.int j25), .val (.int (1 : Int32)), .val (.int (2 : Int32)), .val (.int ((fb (kb + 2)) &&& (255 : Int32)))] [(.int (2 : Int32))])) _
                    refine XS.iconst X0.here hx rfl (hb hby d1_208) ?_
                    show Steps p.tables e below (s₁.setTop (mkF m 209 #[.val (.ref a1), .val (.int p2), .val (.int p3), .val (.int ld), .val (.int (4 : Int32)), .val (.int j21), .val (.int j25), .val (.int (1 : Int32)), .val (.int (2 : Int32)), .val (.int ((fb (kb + 2)) &&& (255 : Int32)))] [(.int (1 : Int32)), (.int (2 : Int32))])) _
                    refine XS.icmpYes X0.here hx rfl (pc0 := 209) (pc' := 234) rfl (hb hby d1_209) rfl (XT.ii_ne_t (by decide)) (by decide) (by decide) ?_
                    show Steps p.tables e below (s₁.setTop (mkF m 234 #[.val (.ref a1), .val (.int p2), .val (.int p3), .val (.int ld), .val (.int (4 : Int32)), .val (.int j21), .val (.int j25), .val (.int (1 : Int32)), .val (.int (2 : Int32)), .val (.int ((fb (kb + 2)) &&& (255 : Int32)))] [])) _
                    refine XS.iload X0.here hx rfl (hb hby d1_234) rfl ?_
                    show Steps p.tables e below (s₁.setTop (mkF m 236 #[.val (.ref a1), .val (.int p2), .val (.int p3), .val (.int ld), .val (.int (4 : Int32)), .val (.int j21), .val (.int j25), .val (.int (1 : Int32)), .val (.int (2 : Int32)), .val (.int ((fb (kb + 2)) &&& (255 : Int32)))] [(.int ((fb (kb + 2)) &&& (255 : Int32)))])) _
                    refine XS.sipush X0.here hx rfl (hb hby d1_236) ?_
                    exact kt
                  by_cases hc239_37 : ((fb (kb + 2)) &&& (255 : Int32)) < (128 : Int32)
                  · skip
                    have pre38 : ∀ t, Steps p.tables e below (s₁.setTop (mkF m 274 #[.val (.ref a1), .val (.int p2), .val (.int p3), .val (.int ld), .val (.int (4 : Int32)), .val (.int j21), .val (.int j25), .val (.int (0 : Int32)), .val (.int (3 : Int32)), .val (.int ((fb (kb + 2)) &&& (255 : Int32)))] [(.int (0 : Int32))])) t → Steps p.tables e below (s₁.setTop (entryFrame m #[(.ref a1), (.int p2), (.int p3)] 10)) t := by
                      intro t kt
                      refine pre36 _ ?_
                      show Steps p.tables e below (s₁.setTop (mkF m 239 #[.val (.ref a1), .val (.int p2), .val (.int p3), .val (.int ld), .val (.int (4 : Int32)), .val (.int j21), .val (.int j25), .val (.int (1 : Int32)), .val (.int (2 : Int32)), .val (.int ((fb (kb + 2)) &&& (255 : Int32)))] [(.int (128 : Int32)), (.int ((fb (kb + 2)) &&& (255 : Int32)))])) _
                      refine XS.icmpYes X0.here hx rfl (pc0 := 239) (pc' := 254) rfl (hb hby d1_239) rfl (XT.ii_lt_t hc239_37) (by decide) (by decide) ?_
                      show Steps p.tables e below (s₁.setTop (mkF m 254 #[.val (.ref a1), .val (.int p2), .val (.int p3), .val (.int ld), .val (.int (4 : Int32)), .val (.int j21), .val (.int j25), .val (.int (1 : Int32)), .val (.int (2 : Int32)), .val (.int ((fb (kb + 2)) &&& (255 : Int32)))] [])) _
                      refine XS.iconst X0.here hx rfl (hb hby d1_254) ?_
                      show Steps p.tables e below (s₁.setTop (mkF m 255 #[.val (.ref a1), .val (.int p2), .val (.int p3), .val (.int ld), .val (.int (4 : Int32)), .val (.int j21), .val (.int j25), .val (.int (1 : Int32)), .val (.int (2 : Int32)), .val (.int ((fb (kb + 2)) &&& (255 : Int32)))] [(.int (0 : Int32))])) _
                      refine XS.istore X0.here hx rfl (hb hby d1_255) rfl (l' := #[.val (.ref a1), .val (.int p2), .val (.int p3), .val (.int ld), .val (.int (4 : Int32)), .val (.int j21), .val (.int j25), .val (.int (0 : Int32)), .val (.int (2 : Int32)), .val (.int ((fb (kb + 2)) &&& (255 : Int32)))]) rfl ?_
                      show Steps p.tables e below (s₁.setTop (mkF m 257 #[.val (.ref a1), .val (.int p2), .val (.int p3), .val (.int ld), .val (.int (4 : Int32)), .val (.int j21), .val (.int j25), .val (.int (0 : Int32)), .val (.int (2 : Int32)), .val (.int ((fb (kb + 2)) &&& (255 : Int32)))] [])) _
                      refine XS.iinc X0.here hx rfl (hb hby d1_257) rfl (l' := #[.val (.ref a1), .val (.int p2), .val (.int p3), .val (.int ld), .val (.int (4 : Int32)), .val (.int j21), .val (.int j25), .val (.int (0 : Int32)), .val (.int (3 : Int32)), .val (.int ((fb (kb + 2)) &&& (255 : Int32)))]) rfl ?_
                      show Steps p.tables e below (s₁.setTop (mkF m 260 #[.val (.ref a1), .val (.int p2), .val (.int p3), .val (.int ld), .val (.int (4 : Int32)), .val (.int j21), .val (.int j25), .val (.int (0 : Int32)), .val (.int (3 : Int32)), .val (.int ((fb (kb + 2)) &&& (255 : Int32)))] [])) _
                      refine XS.goto X0.here hx rfl (pc0 := 260) (pc' := 182) rfl (hb hby d1_260) (by decide) (by decide) ?_
                      show Steps p.tables e below (s₁.setTop (mkF m 182 #[.val (.ref a1), .val (.int p2), .val (.int p3), .val (.int ld), .val (.int (4 : Int32)), .val (.int j21), .val (.int j25), .val (.int (0 : Int32)), .val (.int (3 : Int32)), .val (.int ((fb (kb + 2)) &&& (255 : Int32)))] [])) _
                      refine XS.iload X0.here hx rfl (hb hby d1_182) rfl ?_
                      show Steps p.tables e below (s₁.setTop (mkF m 184 #[.val (.ref a1), .val (.int p2), .val (.int p3), .val (.int ld), .val (.int (4 : Int32)), .val (.int j21), .val (.int j25), .val (.int (0 : Int32)), .val (.int (3 : Int32)), .val (.int ((fb (kb + 2)) &&& (255 : Int32)))] [(.int (0 : Int32))])) _
                      refine XS.ifYes X0.here hx rfl (pc0 := 184) (pc' := 263) rfl (hb hby d1_184) rfl (XT.i0_eq_t (by decide)) (by decide) (by decide) ?_
                      show Steps p.tables e below (s₁.setTop (mkF m 263 #[.val (.ref a1), .val (.int p2), .val (.int p3), .val (.int ld), .val (.int (4 : Int32)), .val (.int j21), .val (.int j25), .val (.int (0 : Int32)), .val (.int (3 : Int32)), .val (.int ((fb (kb + 2)) &&& (255 : Int32)))] [])) _
                      refine XS.iload X0.here hx rfl (hb hby d1_263) rfl ?_
                      show Steps p.tables e below (s₁.setTop (mkF m 265 #[.val (.ref a1), .val (.int p2), .val (.int p3), .val (.int ld), .val (.int (4 : Int32)), .val (.int j21), .val (.int j25), .val (.int (0 : Int32)), .val (.int (3 : Int32)), .val (.int ((fb (kb + 2)) &&& (255 : Int32)))] [(.int (0 : Int32))])) _
                      refine XS.ifYes X0.here hx rfl (pc0 := 265) (pc' := 273) rfl (hb hby d1_265) rfl (XT.i0_eq_t (by decide)) (by decide) (by decide) ?_
                      show Steps p.tables e below (s₁.setTop (mkF m 273 #[.val (.ref a1), .val (.int p2), .val (.int p3), .val (.int ld), .val (.int (4 : Int32)), .val (.int j21), .val (.int j25), .val (.int (0 : Int32)), .val (.int (3 : Int32)), .val (.int ((fb (kb + 2)) &&& (255 : Int32)))] [])) _
                      refine XS.iconst X0.here hx rfl (hb hby d1_273) ?_
                      exact kt
                    obtain ⟨fs, hr, hrun, hended, hW, hsame⟩ := X0.leave (v := some (.int (0 : Int32))) (fun h => by rw [Bd.returns] at h; cases h)
                    refine ⟨_, _, pre38 _ ?_, hrun, hended, _, _, rfl, ?_, ⟨_, rfl⟩, hW, hsame.mono (by decide) (by decide)⟩
                    · show Steps p.tables e below (s₁.setTop (mkF m 274 #[.val (.ref a1), .val (.int p2), .val (.int p3), .val (.int ld), .val (.int (4 : Int32)), .val (.int j21), .val (.int j25), .val (.int (0 : Int32)), .val (.int (3 : Int32)), .val (.int ((fb (kb + 2)) &&& (255 : Int32)))] [(.int (0 : Int32))])) _
                      exact owRetI X0 hx Bd.returns (hb hby d1_274) hr
                    · show Q1 Z a1 p2 p3 fb kb h0 n0 _ s₁.heap _
                      rw [e0]
                      exact ⟨by subst h_ld h_j21 h_j25; unfold fn1; rw [if_neg hc25_4, if_neg hc38_10, if_pos hc45_13, if_pos hc65_15, if_neg hc119_17, if_neg hc169_28, if_neg hc216_31, if_neg hc223_34, if_pos hc239_37], N0, rfl⟩
                  · skip
                    have pre39 : ∀ t, Steps p.tables e below (s₁.setTop (mkF m 247 #[.val (.ref a1), .val (.int p2), .val (.int p3), .val (.int ld), .val (.int (4 : Int32)), .val (.int j21), .val (.int j25), .val (.int (1 : Int32)), .val (.int (2 : Int32)), .val (.int ((fb (kb + 2)) &&& (255 : Int32)))] [(.int (191 : Int32)), (.int ((fb (kb + 2)) &&& (255 : Int32)))])) t → Steps p.tables e below (s₁.setTop (entryFrame m #[(.ref a1), (.int p2), (.int p3)] 10)) t := by
                      intro t kt
                      refine pre36 _ ?_
                      show Steps p.tables e below (s₁.setTop (mkF m 239 #[.val (.ref a1), .val (.int p2), .val (.int p3), .val (.int ld), .val (.int (4 : Int32)), .val (.int j21), .val (.int j25), .val (.int (1 : Int32)), .val (.int (2 : Int32)), .val (.int ((fb (kb + 2)) &&& (255 : Int32)))] [(.int (128 : Int32)), (.int ((fb (kb + 2)) &&& (255 : Int32)))])) _
                      refine XS.icmpNo X0.here hx rfl (hb hby d1_239) rfl (XT.ii_lt_f hc239_37) ?_
                      show Steps p.tables e below (s₁.setTop (mkF m 242 #[.val (.ref a1), .val (.int p2), .val (.int p3), .val (.int ld), .val (.int (4 : Int32)), .val (.int j21), .val (.int j25), .val (.int (1 : Int32)), .val (.int (2 : Int32)), .val (.int ((fb (kb + 2)) &&& (255 : Int32)))] [])) _
                      refine XS.iload X0.here hx rfl (hb hby d1_242) rfl ?_
                      show Steps p.tables e below (s₁.setTop (mkF m 244 #[.val (.ref a1), .val (.int p2), .val (.int p3), .val (.int ld), .val (.int (4 : Int32)), .val (.int j21), .val (.int j25), .val (.int (1 : Int32)), .val (.int (2 : Int32)), .val (.int ((fb (kb + 2)) &&& (255 : Int32)))] [(.int ((fb (kb + 2)) &&& (255 : Int32)))])) _
                      refine XS.sipush X0.here hx rfl (hb hby d1_244) ?_
                      exact kt
                    by_cases hc247_40 : (191 : Int32) < ((fb (kb + 2)) &&& (255 : Int32))
                    · skip
                      have pre41 : ∀ t, Steps p.tables e below (s₁.setTop (mkF m 274 #[.val (.ref a1), .val (.int p2), .val (.int p3), .val (.int ld), .val (.int (4 : Int32)), .val (.int j21), .val (.int j25), .val (.int (0 : Int32)), .val (.int (3 : Int32)), .val (.int ((fb (kb + 2)) &&& (255 : Int32)))] [(.int (0 : Int32))])) t → Steps p.tables e below (s₁.setTop (entryFrame m #[(.ref a1), (.int p2), (.int p3)] 10)) t := by
                        intro t kt
                        refine pre39 _ ?_
                        show Steps p.tables e below (s₁.setTop (mkF m 247 #[.val (.ref a1), .val (.int p2), .val (.int p3), .val (.int ld), .val (.int (4 : Int32)), .val (.int j21), .val (.int j25), .val (.int (1 : Int32)), .val (.int (2 : Int32)), .val (.int ((fb (kb + 2)) &&& (255 : Int32)))] [(.int (191 : Int32)), (.int ((fb (kb + 2)) &&& (255 : Int32)))])) _
                        refine XS.icmpYes X0.here hx rfl (pc0 := 247) (pc' := 254) rfl (hb hby d1_247) rfl (XT.ii_gt_t hc247_40) (by decide) (by decide) ?_
                        show Steps p.tables e below (s₁.setTop (mkF m 254 #[.val (.ref a1), .val (.int p2), .val (.int p3), .val (.int ld), .val (.int (4 : Int32)), .val (.int j21), .val (.int j25), .val (.int (1 : Int32)), .val (.int (2 : Int32)), .val (.int ((fb (kb + 2)) &&& (255 : Int32)))] [])) _
                        refine XS.iconst X0.here hx rfl (hb hby d1_254) ?_
                        show Steps p.tables e below (s₁.setTop (mkF m 255 #[.val (.ref a1), .val (.int p2), .val (.int p3), .val (.int ld), .val (.int (4 : Int32)), .val (.int j21), .val (.int j25), .val (.int (1 : Int32)), .val (.int (2 : Int32)), .val (.int ((fb (kb + 2)) &&& (255 : Int32)))] [(.int (0 : Int32))])) _
                        refine XS.istore X0.here hx rfl (hb hby d1_255) rfl (l' := #[.val (.ref a1), .val (.int p2), .val (.int p3), .val (.int ld), .val (.int (4 : Int32)), .val (.int j21), .val (.int j25), .val (.int (0 : Int32)), .val (.int (2 : Int32)), .val (.int ((fb (kb + 2)) &&& (255 : Int32)))]) rfl ?_
                        show Steps p.tables e below (s₁.setTop (mkF m 257 #[.val (.ref a1), .val (.int p2), .val (.int p3), .val (.int ld), .val (.int (4 : Int32)), .val (.int j21), .val (.int j25), .val (.int (0 : Int32)), .val (.int (2 : Int32)), .val (.int ((fb (kb + 2)) &&& (255 : Int32)))] [])) _
                        refine XS.iinc X0.here hx rfl (hb hby d1_257) rfl (l' := #[.val (.ref a1), .val (.int p2), .val (.int p3), .val (.int ld), .val (.int (4 : Int32)), .val (.int j21), .val (.int j25), .val (.int (0 : Int32)), .val (.int (3 : Int32)), .val (.int ((fb (kb + 2)) &&& (255 : Int32)))]) rfl ?_
                        show Steps p.tables e below (s₁.setTop (mkF m 260 #[.val (.ref a1), .val (.int p2), .val (.int p3), .val (.int ld), .val (.int (4 : Int32)), .val (.int j21), .val (.int j25), .val (.int (0 : Int32)), .val (.int (3 : Int32)), .val (.int ((fb (kb + 2)) &&& (255 : Int32)))] [])) _
                        refine XS.goto X0.here hx rfl (pc0 := 260) (pc' := 182) rfl (hb hby d1_260) (by decide) (by decide) ?_
                        show Steps p.tables e below (s₁.setTop (mkF m 182 #[.val (.ref a1), .val (.int p2), .val (.int p3), .val (.int ld), .val (.int (4 : Int32)), .val (.int j21), .val (.int j25), .val (.int (0 : Int32)), .val (.int (3 : Int32)), .val (.int ((fb (kb + 2)) &&& (255 : Int32)))] [])) _
                        refine XS.iload X0.here hx rfl (hb hby d1_182) rfl ?_
                        show Steps p.tables e below (s₁.setTop (mkF m 184 #[.val (.ref a1), .val (.int p2), .val (.int p3), .val (.int ld), .val (.int (4 : Int32)), .val (.int j21), .val (.int j25), .val (.int (0 : Int32)), .val (.int (3 : Int32)), .val (.int ((fb (kb + 2)) &&& (255 : Int32)))] [(.int (0 : Int32))])) _
                        refine XS.ifYes X0.here hx rfl (pc0 := 184) (pc' := 263) rfl (hb hby d1_184) rfl (XT.i0_eq_t (by decide)) (by decide) (by decide) ?_
                        show Steps p.tables e below (s₁.setTop (mkF m 263 #[.val (.ref a1), .val (.int p2), .val (.int p3), .val (.int ld), .val (.int (4 : Int32)), .val (.int j21), .val (.int j25), .val (.int (0 : Int32)), .val (.int (3 : Int32)), .val (.int ((fb (kb + 2)) &&& (255 : Int32)))] [])) _
                        refine XS.iload X0.here hx rfl (hb hby d1_263) rfl ?_
                        show Steps p.tables e below (s₁.setTop (mkF m 265 #[.val (.ref a1), .val (.int p2), .val (.int p3), .val (.int ld), .val (.int (4 : Int32)), .val (.int j21), .val (.int j25), .val (.int (0 : Int32)), .val (.int (3 : Int32)), .val (.int ((fb (kb + 2)) &&& (255 : Int32)))] [(.int (0 : Int32))])) _
                        refine XS.ifYes X0.here hx rfl (pc0 := 265) (pc' := 273) rfl (hb hby d1_265) rfl (XT.i0_eq_t (by decide)) (by decide) (by decide) ?_
                        show Steps p.tables e below (s₁.setTop (mkF m 273 #[.val (.ref a1), .val (.int p2), .val (.int p3), .val (.int ld), .val (.int (4 : Int32)), .val (.int j21), .val (.int j25), .val (.int (0 : Int32)), .val (.int (3 : Int32)), .val (.int ((fb (kb + 2)) &&& (255 : Int32)))] [])) _
                        refine XS.iconst X0.here hx rfl (hb hby d1_273) ?_
                        exact kt
                      obtain ⟨fs, hr, hrun, hended, hW, hsame⟩ := X0.leave (v := some (.int (0 : Int32))) (fun h => by rw [Bd.returns] at h; cases h)
                      refine ⟨_, _, pre41 _ ?_, hrun, hended, _, _, rfl, ?_, ⟨_, rfl⟩, hW, hsame.mono (by decide) (by decide)⟩
                      · show Steps p.tables e below (s₁.setTop (mkF m 274 #[.val (.ref a1), .val (.int p2), .val (.int p3), .val (.int ld), .val (.int (4 : Int32)), .val (.int j21), .val (.int j25), .val (.int (0 : Int32)), .val (.int (3 : Int32)), .val (.int ((fb (kb + 2)) &&& (255 : Int32)))] [(.int (0 : Int32))])) _
                        exact owRetI X0 hx Bd.returns (hb hby d1_274) hr
                      · show Q1 Z a1 p2 p3 fb kb h0 n0 _ s₁.heap _
                        rw [e0]
                        exact ⟨by subst h_ld h_j21 h_j25; unfold fn1; rw [if_neg hc25_4, if_neg hc38_10, if_pos hc45_13, if_pos hc65_15, if_neg hc119_17, if_neg hc169_28, if_neg hc216_31, if_neg hc223_34, if_neg hc239_37, if_pos hc247_40], N0, rfl⟩
                    · skip
                      have pre42 : ∀ t, Steps p.tables e below (s₁.setTop (mkF m 239 #[.val (.ref a1), .val (.int p2), .val (.int p3), .val (.int ld), .val (.int (4 : Int32)), .val (.int j21), .val (.int j25), .val (.int (1 : Int32)), .val (.int (3 : Int32)), .val (.int ((fb (kb + 3)) &&& (255 : Int32)))] [(.int (128 : Int32)), (.int ((fb (kb + 3)) &&& (255 : Int32)))])) t → Steps p.tables e below (s₁.setTop (entryFrame m #[(.ref a1), (.int p2), (.int p3)] 10)) t := by
                        intro t kt
                        refine pre39 _ ?_
                        show Steps p.tables e below (s₁.setTop (mkF m 247 #[.val (.ref a1), .val (.int p2), .val (.int p3), .val (.int ld), .val (.int (4 : Int32)), .val (.int j21), .val (.int j25), .val (.int (1 : Int32)), .val (.int (2 : Int32)), .val (.int ((fb (kb + 2)) &&& (255 : Int32)))] [(.int (191 : Int32)), (.int ((fb (kb + 2)) &&& (255 : Int32)))])) _
                        refine XS.icmpNo X0.here hx rfl (hb hby d1_247) rfl (XT.ii_gt_f hc247_40) ?_
                        show Steps p.tables e below (s₁.setTop (mkF m 250 #[.val (.ref a1), .val (.int p2), .val (.int p3), .val (.int ld), .val (.int (4 : Int32)), .val (.int j21), .val (.int j25), .val (.int (1 : Int32)), .val (.int (2 : Int32)), .val (.int ((fb (kb + 2)) &&& (255 : Int32)))] [])) _
                        refine XS.iconst X0.here hx rfl (hb hby d1_250) ?_
                        show Steps p.tables e below (s₁.setTop (mkF m 251 #[.val (.ref a1), .val (.int p2), .val (.int p3), .val (.int ld), .val (.int (4 : Int32)), .val (.int j21), .val (.int j25), .val (.int (1 : Int32)), .val (.int (2 : Int32)), .val (.int ((fb (kb + 2)) &&& (255 : Int32)))] [(.int (1 : Int32))])) _
                        refine XS.goto X0.here hx rfl (pc0 := 251) (pc' := 255) rfl (hb hby d1_251) (by decide) (by decide) ?_
                        show Steps p.tables e below (s₁.setTop (mkF m 255 #[.val (.ref a1), .val (.int p2), .val (.int p3), .val (.int ld), .val (.int (4 : Int32)), .val (.int j21), .val (.int j25), .val (.int (1 : Int32)), .val (.int (2 : Int32)), .val (.int ((fb (kb + 2)) &&& (255 : Int32)))] [(.int (1 : Int32))])) _
                        refine XS.istore X0.here hx rfl (hb hby d1_255) rfl (l' := #[.val (.ref a1), .val (.int p2), .val (.int p3), .val (.int ld), .val (.int (4 : Int32)), .val (.int j21), .val (.int j25), .val (.int (1 : Int32)), .val (.int (2 : Int32)), .val (.int ((fb (kb + 2)) &&& (255 : Int32)))]) rfl ?_
                        show Steps p.tables e below (s₁.setTop (mkF m 257 #[.val (.ref a1), .val (.int p2), .val (.int p3), .val (.int ld), .val (.int (4 : Int32)), .val (.int j21), .val (.int j25), .val (.int (1 : Int32)), .val (.int (2 : Int32)), .val (.int ((fb (kb + 2)) &&& (255 : Int32)))] [])) _
                        refine XS.iinc X0.here hx rfl (hb hby d1_257) rfl (l' := #[.val (.ref a1), .val (.int p2), .val (.int p3), .val (.int ld), .val (.int (4 : Int32)), .val (.int j21), .val (.int j25), .val (.int (1 : Int32)), .val (.int (3 : Int32)), .val (.int ((fb (kb + 2)) &&& (255 : Int32)))]) rfl ?_
                        show Steps p.tables e below (s₁.setTop (mkF m 260 #[.val (.ref a1), .val (.int p2), .val (.int p3), .val (.int ld), .val (.int (4 : Int32)), .val (.int j21), .val (.int j25), .val (.int (1 : Int32)), .val (.int (3 : Int32)), .val (.int ((fb (kb + 2)) &&& (255 : Int32)))] [])) _
                        refine XS.goto X0.here hx rfl (pc0 := 260) (pc' := 182) rfl (hb hby d1_260) (by decide) (by decide) ?_
                        show Steps p.tables e below (s₁.setTop (mkF m 182 #[.val (.ref a1), .val (.int p2), .val (.int p3), .val (.int ld), .val (.int (4 : Int32)), .val (.int j21), .val (.int j25), .val (.int (1 : Int32)), .val (.int (3 : Int32)), .val (.int ((fb (kb + 2)) &&& (255 : Int32)))] [])) _
                        refine XS.iload X0.here hx rfl (hb hby d1_182) rfl ?_
                        show Steps p.tables e below (s₁.setTop (mkF m 184 #[.val (.ref a1), .val (.int p2), .val (.int p3), .val (.int ld), .val (.int (4 : Int32)), .val (.int j21), .val (.int j25), .val (.int (1 : Int32)), .val (.int (3 : Int32)), .val (.int ((fb (kb + 2)) &&& (255 : Int32)))] [(.int (1 : Int32))])) _
                        refine XS.ifNo X0.here hx rfl (hb hby d1_184) rfl (XT.i0_eq_f (by decide)) ?_
                        show Steps p.tables e below (s₁.setTop (mkF m 187 #[.val (.ref a1), .val (.int p2), .val (.int p3), .val (.int ld), .val (.int (4 : Int32)), .val (.int j21), .val (.int j25), .val (.int (1 : Int32)), .val (.int (3 : Int32)), .val (.int ((fb (kb + 2)) &&& (255 : Int32)))] [])) _
                        refine XS.iload X0.here hx rfl (hb hby d1_187) rfl ?_
                        show Steps p.tables e below (s₁.setTop (mkF m 189 #[.val (.ref a1), .val (.int p2), .val (.int p3), .val (.int ld), .val (.int (4 : Int32)), .val (.int j21), .val (.int j25), .val (.int (1 : Int32)), .val (.int (3 : Int32)), .val (.int ((fb (kb + 2)) &&& (255 : Int32)))] [(.int (3 : Int32))])) _
                        refine XS.iload X0.here hx rfl (hb hby d1_189) rfl ?_
                        show Steps p.tables e below (s₁.setTop (mkF m 191 #[.val (.ref a1), .val (.int p2), .val (.int p3), .val (.int ld), .val (.int (4 : Int32)), .val (.int j21), .val (.int j25), .val (.int (1 : Int32)), .val (.int (3 : Int32)), .val (.int ((fb (kb + 2)) &&& (255 : Int32)))] [(.int (4 : Int32)), (.int (3 : Int32))])) _
                        refine XS.icmpNo X0.here hx rfl (hb hby d1_191) rfl (XT.ii_ge_f (by decide)) ?_
                        show Steps p.tables e below (s₁.setTop (mkF m 194 #[.val (.ref a1), .val (.int p2), .val (.int p3), .val (.int ld), .val (.int (4 : Int32)), .val (.int j21), .val (.int j25), .val (.int (1 : Int32)), .val (.int (3 : Int32)), .val (.int ((fb (kb + 2)) &&& (255 : Int32)))] [])) _
                        refine XS.aloadN X0.here hx rfl (hb hby d1_194) rfl rfl ?_
                        show Steps p.tables e below (s₁.setTop (mkF m 195 #[.val (.ref a1), .val (.int p2), .val (.int p3), .val (.int ld), .val (.int (4 : Int32)), .val (.int j21), .val (.int j25), .val (.int (1 : Int32)), .val (.int (3 : Int32)), .val (.int ((fb (kb + 2)) &&& (255 : Int32)))] [(.ref a1)])) _
                        refine XS.iloadN X0.here hx rfl (hb hby d1_195) rfl ?_
                        show Steps p.tables e below (s₁.setTop (mkF m 196 #[.val (.ref a1), .val (.int p2), .val (.int p3), .val (.int ld), .val (.int (4 : Int32)), .val (.int j21), .val (.int j25), .val (.int (1 : Int32)), .val (.int (3 : Int32)), .val (.int ((fb (kb + 2)) &&& (255 : Int32)))] [(.int p2), (.ref a1)])) _
                        refine XS.iload X0.here hx rfl (hb hby d1_196) rfl ?_
                        show Steps p.tables e below (s₁.setTop (mkF m 198 #[.val (.ref a1), .val (.int p2), .val (.int p3), .val (.int ld), .val (.int (4 : Int32)), .val (.int j21), .val (.int j25), .val (.int (1 : Int32)), .val (.int (3 : Int32)), .val (.int ((fb (kb + 2)) &&& (255 : Int32)))] [(.int (3 : Int32)), (.int p2), (.ref a1)])) _
                        refine XS.iadd X0.here hx rfl (hb hby d1_198) rfl ?_
                        show Steps p.tables e below (s₁.setTop (mkF m 199 #[.val (.ref a1), .val (.int p2), .val (.int p3), .val (.int ld), .val (.int (4 : Int32)), .val (.int j21), .val (.int j25), .val (.int (1 : Int32)), .val (.int (3 : Int32)), .val (.int ((fb (kb + 2)) &&& (255 : Int32)))] [(.int (p2 + (3 : Int32))), (.ref a1)])) _
                        refine owLdB (k := (kb + 3)) X0 hx hZ e0 A_ab (j := (p2 + (3 : Int32))) (own_ix (3 : Int32) 3 hkb hk1 rfl (by decide)) (by omega) (g := (mkF m 199 #[.val (.ref a1), .val (.int p2), .val (.int p3), .val (.int ld), .val (.int (4 : Int32)), .val (.int j21), .val (.int j25), .val (.int (1 : Int32)), .val (.int (3 : Int32)), .val (.int ((fb (kb + 2)) &&& (255 : Int32)))] [(.int (p2 + (3 : Int32))), (.ref a1)])) rfl rfl (hb hby d1_199) _ ?_
                        show Steps p.tables e below (s₁.setTop (mkF m 200 #[.val (.ref a1), .val (.int p2), .val (.int p3), .val (.int ld), .val (.int (4 : Int32)), .val (.int j21), .val (.int j25), .val (.int (1 : Int32)), .val (.int (3 : Int32)), .val (.int ((fb (kb + 2)) &&& (255 : Int32)))] [(.int (fb (kb + 3)))])) _
                        refine XS.sipush X0.here hx rfl (hb hby d1_200) ?_
                        show Steps p.tables e below (s₁.setTop (mkF m 203 #[.val (.ref a1), .val (.int p2), .val (.int p3), .val (.int ld), .val (.int (4 : Int32)), .val (.int j21), .val (.int j25), .val (.int (1 : Int32)), .val (.int (3 : Int32)), .val (.int ((fb (kb + 2)) &&& (255 : Int32)))] [(.int (255 : Int32)), (.int (fb (kb + 3)))])) _
                        refine XS.iand X0.here hx rfl (hb hby d1_203) rfl ?_
                        show Steps p.tables e below (s₁.setTop (mkF m 204 #[.val (.ref a1), .val (.int p2), .val (.int p3), .val (.int ld), .val (.int (4 : Int32)), .val (.int j21), .val (.int j25), .val (.int (1 : Int32)), .val (.int (3 : Int32)), .val (.int ((fb (kb + 2)) &&& (255 : Int32)))] [(.int ((fb (kb + 3)) &&& (255 : Int32)))])) _
                        refine XS.istore X0.here hx rfl (hb hby d1_204) rfl (l' := #[.val (.ref a1), .val (.int p2), .val (.int p3), .val (.int ld), .val (.int (4 : Int32)), .val (.int j21), .val (.int j25), .val (.int (1 : Int32)), .val (.int (3 : Int32)), .val (.int ((fb (kb + 3)) &&& (255 : Int32)))]) rfl ?_
                        show Steps p.tables e below (s₁.setTop (mkF m 206 #[.val (.ref a1), .val (.int p2), .val (.int p3), .val (.int ld), .val (.int (4 : Int32)), .val (.int j21), .val (.int j25), .val (.int (1 : Int32)), .val (.int (3 : Int32)), .val (.int ((fb (kb + 3)) &&& (255 : Int32)))] [])) _
                        refine XS.iload X0.here hx rfl (hb hby d1_206) rfl ?_
                        show Steps p.tables e below (s₁.setTop (mkF m 208 #[.val (.ref a1), .val (.int p2), .val (.int p3), .val (.int ld), .val (.int (4 : Int32)), .val (.int j21), .val (.int j25), .val (.int (1 : Int32)), .val (.int (3 : Int32)), .val (.int ((fb (kb + 3)) &&& (255 : Int32)))] [(.int (3 : Int32))])) _
                        refine XS.iconst X0.here hx rfl (hb hby d1_208) ?_
                        show Steps p.tables e below (s₁.setTop (mkF m 209 #[.val (.ref a1), .val (.int p2), .val (.int p3), .val (.int ld), .val (.int (4 : Int32)), .val (.int j21), .val (.int j25), .val (.int (1 : Int32)), .val (.int (3 : Int32)), .val (.int ((fb (kb + 3)) &&& (255 : Int32)))] [(.int (1 : Int32)), (.int (3 : Int32))])) _
                        refine XS.icmpYes X0.here hx rfl (pc0 := 209) (pc' := 234) rfl (hb hby d1_209) rfl (XT.ii_ne_t (by decide)) (by decide) (by decide) ?_
                        show Steps p.tables e below (s₁.setTop (mkF m 234 #[.val (.ref a1), .val (.int p2), .val (.int p3), .val (.int ld), .val (.int (4 : Int32)), .val (.int j21), .val (.int j25), .val (.int (1 : Int32)), .val (.int (3 : Int32)), .val (.int ((fb (kb + 3)) &&& (255 : Int32)))] [])) _
                        refine XS.iload X0.here hx rfl (hb hby d1_234) rfl ?_
                        show Steps p.tables e below (s₁.setTop (mkF m 236 #[.val (.ref a1), .val (.int p2), .val (.int p3), .val (.int ld), .val (.int (4 : Int32)), .val (.int j21), .val (.int j25), .val (.int (1 : Int32)), .val (.int (3 : Int32)), .val (.int ((fb (kb + 3)) &&& (255 : Int32)))] [(.int ((fb (kb + 3)) &&& (255 : Int32)))])) _
                        refine XS.sipush X0.here hx rfl (hb hby d1_236) ?_
                        exact kt
                      by_cases hc239_43 : ((fb (kb + 3)) &&& (255 : Int32)) < (128 : Int32)
                      · skip
                        have pre44 : ∀ t, Steps p.tables e below (s₁.setTop (mkF m 274 #[.val (.ref a1), .val (.int p2), .val (.int p3), .val (.int ld), .val (.int (4 : Int32)), .val (.int j21), .val (.int j25), .val (.int (0 : Int32)), .val (.int (4 : Int32)), .val (.int ((fb (kb + 3)) &&& (255 : Int32)))] [(.int (0 : Int32))])) t → Steps p.tables e below (s₁.setTop (entryFrame m #[(.ref a1), (.int p2), (.int p3)] 10)) t := by
                          intro t kt
                          refine pre42 _ ?_
                          show Steps p.tables e below (s₁.setTop (mkF m 239 #[.val (.ref a1), .val (.int p2), .val (.int p3), .val (.int ld), .val (.int (4 : Int32)), .val (.int j21), .val (.int j25), .val (.int (1 : Int32)), .val (.int (3 : Int32)), .val (.int ((fb (kb + 3)) &&& (255 : Int32)))] [(.int (128 : Int32)), (.int ((fb (kb + 3)) &&& (255 : Int32)))])) _
                          refine XS.icmpYes X0.here hx rfl (pc0 := 239) (pc' := 254) rfl (hb hby d1_239) rfl (XT.ii_lt_t hc239_43) (by decide) (by decide) ?_
                          show Steps p.tables e below (s₁.setTop (mkF m 254 #[.val (.ref a1), .val (.int p2), .val (.int p3), .val (.int ld), .val (.int (4 : Int32)), .val (.int j21), .val (.int j25), .val (.int (1 : Int32)), .val (.int (3 : Int32)), .val (.int ((fb (kb + 3)) &&& (255 : Int32)))] [])) _
                          refine XS.iconst X0.here hx rfl (hb hby d1_254) ?_
                          show Steps p.tables e below (s₁.setTop (mkF m 255 #[.val (.ref a1), .val (.int p2), .val (.int p3), .val (.int ld), .val (.int (4 : Int32)), .val (.int j21), .val (.int j25), .val (.int (1 : Int32)), .val (.int (3 : Int32)), .val (.int ((fb (kb + 3)) &&& (255 : Int32)))] [(.int (0 : Int32))])) _
                          refine XS.istore X0.here hx rfl (hb hby d1_255) rfl (l' := #[.val (.ref a1), .val (.int p2), .val (.int p3), .val (.int ld), .val (.int (4 : Int32)), .val (.int j21), .val (.int j25), .val (.int (0 : Int32)), .val (.int (3 : Int32)), .val (.int ((fb (kb + 3)) &&& (255 : Int32)))]) rfl ?_
                          show Steps p.tables e below (s₁.setTop (mkF m 257 #[.val (.ref a1), .val (.int p2), .val (.int p3), .val (.int ld), .val (.int (4 : Int32)), .val (.int j21), .val (.int j25), .val (.int (0 : Int32)), .val (.int (3 : Int32)), .val (.int ((fb (kb + 3)) &&& (255 : Int32)))] [])) _
                          refine XS.iinc X0.here hx rfl (hb hby d1_257) rfl (l' := #[.val (.ref a1), .val (.int p2), .val (.int p3), .val (.int ld), .val (.int (4 : Int32)), .val (.int j21), .val (.int j25), .val (.int (0 : Int32)), .val (.int (4 : Int32)), .val (.int ((fb (kb + 3)) &&& (255 : Int32)))]) rfl ?_
                          show Steps p.tables e below (s₁.setTop (mkF m 260 #[.val (.ref a1), .val (.int p2), .val (.int p3), .val (.int ld), .val (.int (4 : Int32)), .val (.int j21), .val (.int j25), .val (.int (0 : Int32)), .val (.int (4 : Int32)), .val (.int ((fb (kb + 3)) &&& (255 : Int32)))] [])) _
                          refine XS.goto X0.here hx rfl (pc0 := 260) (pc' := 182) rfl (hb hby d1_260) (by decide) (by decide) ?_
                          show Steps p.tables e below (s₁.setTop (mkF m 182 #[.val (.ref a1), .val (.int p2), .val (.int p3), .val (.int ld), .val (.int (4 : Int32)), .val (.int j21), .val (.int j25), .val (.int (0 : Int32)), .val (.int (4 : Int32)), .val (.int ((fb (kb + 3)) &&& (255 : Int32)))] [])) _
                          refine XS.iload X0.here hx rfl (hb hby d1_182) rfl ?_
                          show Steps p.tables e below (s₁.setTop (mkF m 184 #[.val (.ref a1), .val (.int p2), .val (.int p3), .val (.int ld), .val (.int (4 : Int32)), .val (.int j21), .val (.int j25), .val (.int (0 : Int32)), .val (.int (4 : Int32)), .val (.int ((fb (kb + 3)) &&& (255 : Int32)))] [(.int (0 : Int32))])) _
                          refine XS.ifYes X0.here hx rfl (pc0 := 184) (pc' := 263) rfl (hb hby d1_184) rfl (XT.i0_eq_t (by decide)) (by decide) (by decide) ?_
                          show Steps p.tables e below (s₁.setTop (mkF m 263 #[.val (.ref a1), .val (.int p2), .val (.int p3), .val (.int ld), .val (.int (4 : Int32)), .val (.int j21), .val (.int j25), .val (.int (0 : Int32)), .val (.int (4 : Int32)), .val (.int ((fb (kb + 3)) &&& (255 : Int32)))] [])) _
                          refine XS.iload X0.here hx rfl (hb hby d1_263) rfl ?_
                          show Steps p.tables e below (s₁.setTop (mkF m 265 #[.val (.ref a1), .val (.int p2), .val (.int p3), .val (.int ld), .val (.int (4 : Int32)), .val (.int j21), .val (.int j25), .val (.int (0 : Int32)), .val (.int (4 : Int32)), .val (.int ((fb (kb + 3)) &&& (255 : Int32)))] [(.int (0 : Int32))])) _
                          refine XS.ifYes X0.here hx rfl (pc0 := 265) (pc' := 273) rfl (hb hby d1_265) rfl (XT.i0_eq_t (by decide)) (by decide) (by decide) ?_
                          show Steps p.tables e below (s₁.setTop (mkF m 273 #[.val (.ref a1), .val (.int p2), .val (.int p3), .val (.int ld), .val (.int (4 : Int32)), .val (.int j21), .val (.int j25), .val (.int (0 : Int32)), .val (.int (4 : Int32)), .val (.int ((fb (kb + 3)) &&& (255 : Int32)))] [])) _
                          refine XS.iconst X0.here hx rfl (hb hby d1_273) ?_
                          exact kt
                        obtain ⟨fs, hr, hrun, hended, hW, hsame⟩ := X0.leave (v := some (.int (0 : Int32))) (fun h => by rw [Bd.returns] at h; cases h)
                        refine ⟨_, _, pre44 _ ?_, hrun, hended, _, _, rfl, ?_, ⟨_, rfl⟩, hW, hsame.mono (by decide) (by decide)⟩
                        · show Steps p.tables e below (s₁.setTop (mkF m 274 #[.val (.ref a1), .val (.int p2), .val (.int p3), .val (.int ld), .val (.int (4 : Int32)), .val (.int j21), .val (.int j25), .val (.int (0 : Int32)), .val (.int (4 : Int32)), .val (.int ((fb (kb + 3)) &&& (255 : Int32)))] [(.int (0 : Int32))])) _
                          exact owRetI X0 hx Bd.returns (hb hby d1_274) hr
                        · show Q1 Z a1 p2 p3 fb kb h0 n0 _ s₁.heap _
                          rw [e0]
                          exact ⟨by subst h_ld h_j21 h_j25; unfold fn1; rw [if_neg hc25_4, if_neg hc38_10, if_pos hc45_13, if_pos hc65_15, if_neg hc119_17, if_neg hc169_28, if_neg hc216_31, if_neg hc223_34, if_neg hc239_37, if_neg hc247_40, if_pos hc239_43], N0, rfl⟩
                      · skip
                        have pre45 : ∀ t, Steps p.tables e below (s₁.setTop (mkF m 247 #[.val (.ref a1), .val (.int p2), .val (.int p3), .val (.int ld), .val (.int (4 : Int32)), .val (.int j21), .val (.int j25), .val (.int (1 : Int32)), .val (.int (3 : Int32)), .val (.int ((fb (kb + 3)) &&& (255 : Int32)))] [(.int (191 : Int32)), (.int ((fb (kb + 3)) &&& (255 : Int32)))])) t → Steps p.tables e below (s₁.setTop (entryFrame m #[(.ref a1), (.int p2), (.int p3)] 10)) t := by
                          intro t kt
                          refine pre42 _ ?_
                          show Steps p.tables e below (s₁.setTop (mkF m 239 #[.val (.ref a1), .val (.int p2), .val (.int p3), .val (.int ld), .val (.int (4 : Int32)), .val (.int j21), .val (.int j25), .val (.int (1 : Int32)), .val (.int (3 : Int32)), .val (.int ((fb (kb + 3)) &&& (255 : Int32)))] [(.int (128 : Int32)), (.int ((fb (kb + 3)) &&& (255 : Int32)))])) _
                          refine XS.icmpNo X0.here hx rfl (hb hby d1_239) rfl (XT.ii_lt_f hc239_43) ?_
                          show Steps p.tables e below (s₁.setTop (mkF m 242 #[.val (.ref a1), .val (.int p2), .val (.int p3), .val (.int ld), .val (.int (4 : Int32)), .val (.int j21), .val (.int j25), .val (.int (1 : Int32)), .val (.int (3 : Int32)), .val (.int ((fb (kb + 3)) &&& (255 : Int32)))] [])) _
                          refine XS.iload X0.here hx rfl (hb hby d1_242) rfl ?_
                          show Steps p.tables e below (s₁.setTop (mkF m 244 #[.val (.ref a1), .val (.int p2), .val (.int p3), .val (.int ld), .val (.int (4 : Int32)), .val (.int j21), .val (.int j25), .val (.int (1 : Int32)), .val (.int (3 : Int32)), .val (.int ((fb (kb + 3)) &&& (255 : Int32)))] [(.int ((fb (kb + 3)) &&& (255 : Int32)))])) _
                          refine XS.sipush X0.here hx rfl (hb hby d1_244) ?_
                          exact kt
                        by_cases hc247_46 : (191 : Int32) < ((fb (kb + 3)) &&& (255 : Int32))
                        · skip
                          have pre47 : ∀ t, Steps p.tables e below (s₁.setTop (mkF m 274 #[.val (.ref a1), .val (.int p2), .val (.int p3), .val (.int ld), .val (.int (4 : Int32)), .val (.int j21), .val (.int j25), .val (.int (0 : Int32)), .val (.int (4 : Int32)), .val (.int ((fb (kb + 3)) &&& (255 : Int32)))] [(.int (0 : Int32))])) t → Steps p.tables e below (s₁.setTop (entryFrame m #[(.ref a1), (.int p2), (.int p3)] 10)) t := by
                            intro t kt
                            refine pre45 _ ?_
                            show Steps p.tables e below (s₁.setTop (mkF m 247 #[.val (.ref a1), .val (.int p2), .val (.int p3), .val (.int ld), .val (.int (4 : Int32)), .val (.int j21), .val (.int j25), .val (.int (1 : Int32)), .val (.int (3 : Int32)), .val (.int ((fb (kb + 3)) &&& (255 : Int32)))] [(.int (191 : Int32)), (.int ((fb (kb + 3)) &&& (255 : Int32)))])) _
                            refine XS.icmpYes X0.here hx rfl (pc0 := 247) (pc' := 254) rfl (hb hby d1_247) rfl (XT.ii_gt_t hc247_46) (by decide) (by decide) ?_
                            show Steps p.tables e below (s₁.setTop (mkF m 254 #[.val (.ref a1), .val (.int p2), .val (.int p3), .val (.int ld), .val (.int (4 : Int32)), .val (.int j21), .val (.int j25), .val (.int (1 : Int32)), .val (.int (3 : Int32)), .val (.int ((fb (kb + 3)) &&& (255 : Int32)))] [])) _
                            refine XS.iconst X0.here hx rfl (hb hby d1_254) ?_
                            show Steps p.tables e below (s₁.setTop (mkF m 255 #[.val (.ref a1), .val (.int p2), .val (.int p3), .val (.int ld), .val (.int (4 : Int32)), .val (.int j21), .val (.int j25), .val (.int (1 : Int32)), .val (.int (3 : Int32)), .val (.int ((fb (kb + 3)) &&& (255 : Int32)))] [(.int (0 : Int32))])) _
                            refine XS.istore X0.here hx rfl (hb hby d1_255) rfl (l' := #[.val (.ref a1), .val (.int p2), .val (.int p3), .val (.int ld), .val (.int (4 : Int32)), .val (.int j21), .val (.int j25), .val (.int (0 : Int32)), .val (.int (3 : Int32)), .val (.int ((fb (kb + 3)) &&& (255 : Int32)))]) rfl ?_
                            show Steps p.tables e below (s₁.setTop (mkF m 257 #[.val (.ref a1), .val (.int p2), .val (.int p3), .val (.int ld), .val (.int (4 : Int32)), .val (.int j21), .val (.int j25), .val (.int (0 : Int32)), .val (.int (3 : Int32)), .val (.int ((fb (kb + 3)) &&& (255 : Int32)))] [])) _
                            refine XS.iinc X0.here hx rfl (hb hby d1_257) rfl (l' := #[.val (.ref a1), .val (.int p2), .val (.int p3), .val (.int ld), .val (.int (4 : Int32)), .val (.int j21), .val (.int j25), .val (.int (0 : Int32)), .val (.int (4 : Int32)), .val (.int ((fb (kb + 3)) &&& (255 : Int32)))]) rfl ?_
                            show Steps p.tables e below (s₁.setTop (mkF m 260 #[.val (.ref a1), .val (.int p2), .val (.int p3), .val (.int ld), .val (.int (4 : Int32)), .val (.int j21), .val (.int j25), .val (.int (0 : Int32)), .val (.int (4 : Int32)), .val (.int ((fb (kb + 3)) &&& (255 : Int32)))] [])) _
                            refine XS.goto X0.here hx rfl (pc0 := 260) (pc' := 182) rfl (hb hby d1_260) (by decide) (by decide) ?_
                            show Steps p.tables e below (s₁.setTop (mkF m 182 #[.val (.ref a1), .val (.int p2), .val (.int p3), .val (.int ld), .val (.int (4 : Int32)), .val (.int j21), .val (.int j25), .val (.int (0 : Int32)), .val (.int (4 : Int32)), .val (.int ((fb (kb + 3)) &&& (255 : Int32)))] [])) _
                            refine XS.iload X0.here hx rfl (hb hby d1_182) rfl ?_
                            show Steps p.tables e below (s₁.setTop (mkF m 184 #[.val (.ref a1), .val (.int p2), .val (.int p3), .val (.int ld), .val (.int (4 : Int32)), .val (.int j21), .val (.int j25), .val (.int (0 : Int32)), .val (.int (4 : Int32)), .val (.int ((fb (kb + 3)) &&& (255 : Int32)))] [(.int (0 : Int32))])) _
                            refine XS.ifYes X0.here hx rfl (pc0 := 184) (pc' := 263) rfl (hb hby d1_184) rfl (XT.i0_eq_t (by decide)) (by decide) (by decide) ?_
                            show Steps p.tables e below (s₁.setTop (mkF m 263 #[.val (.ref a1), .val (.int p2), .val (.int p3), .val (.int ld), .val (.int (4 : Int32)), .val (.int j21), .val (.int j25), .val (.int (0 : Int32)), .val (.int (4 : Int32)), .val (.int ((fb (kb + 3)) &&& (255 : Int32)))] [])) _
                            refine XS.iload X0.here hx rfl (hb hby d1_263) rfl ?_
                            show Steps p.tables e below (s₁.setTop (mkF m 265 #[.val (.ref a1), .val (.int p2), .val (.int p3), .val (.int ld), .val (.int (4 : Int32)), .val (.int j21), .val (.int j25), .val (.int (0 : Int32)), .val (.int (4 : Int32)), .val (.int ((fb (kb + 3)) &&& (255 : Int32)))] [(.int (0 : Int32))])) _
                            refine XS.ifYes X0.here hx rfl (pc0 := 265) (pc' := 273) rfl (hb hby d1_265) rfl (XT.i0_eq_t (by decide)) (by decide) (by decide) ?_
                            show Steps p.tables e below (s₁.setTop (mkF m 273 #[.val (.ref a1), .val (.int p2), .val (.int p3), .val (.int ld), .val (.int (4 : Int32)), .val (.int j21), .val (.int j25), .val (.int (0 : Int32)), .val (.int (4 : Int32)), .val (.int ((fb (kb + 3)) &&& (255 : Int32)))] [])) _
                            refine XS.iconst X0.here hx rfl (hb hby d1_273) ?_
                            exact kt
                          obtain ⟨fs, hr, hrun, hended, hW, hsame⟩ := X0.leave (v := some (.int (0 : Int32))) (fun h => by rw [Bd.returns] at h; cases h)
                          refine ⟨_, _, pre47 _ ?_, hrun, hended, _, _, rfl, ?_, ⟨_, rfl⟩, hW, hsame.mono (by decide) (by decide)⟩
                          · show Steps p.tables e below (s₁.setTop (mkF m 274 #[.val (.ref a1), .val (.int p2), .val (.int p3), .val (.int ld), .val (.int (4 : Int32)), .val (.int j21), .val (.int j25), .val (.int (0 : Int32)), .val (.int (4 : Int32)), .val (.int ((fb (kb + 3)) &&& (255 : Int32)))] [(.int (0 : Int32))])) _
                            exact owRetI X0 hx Bd.returns (hb hby d1_274) hr
                          · show Q1 Z a1 p2 p3 fb kb h0 n0 _ s₁.heap _
                            rw [e0]
                            exact ⟨by subst h_ld h_j21 h_j25; unfold fn1; rw [if_neg hc25_4, if_neg hc38_10, if_pos hc45_13, if_pos hc65_15, if_neg hc119_17, if_neg hc169_28, if_neg hc216_31, if_neg hc223_34, if_neg hc239_37, if_neg hc247_40, if_neg hc239_43, if_pos hc247_46], N0, rfl⟩
                        · skip
                          have pre48 : ∀ t, Steps p.tables e below (s₁.setTop (mkF m 274 #[.val (.ref a1), .val (.int p2), .val (.int p3), .val (.int ld), .val (.int (4 : Int32)), .val (.int j21), .val (.int j25), .val (.int (1 : Int32)), .val (.int (4 : Int32)), .val (.int ((fb (kb + 3)) &&& (255 : Int32)))] [(.int (4 : Int32))])) t → Steps p.tables e below (s₁.setTop (entryFrame m #[(.ref a1), (.int p2), (.int p3)] 10)) t := by
                            intro t kt
                            refine pre45 _ ?_
                            show Steps p.tables e below (s₁.setTop (mkF m 247 #[.val (.ref a1), .val (.int p2), .val (.int p3), .val (.int ld), .val (.int (4 : Int32)), .val (.int j21), .val (.int j25), .val (.int (1 : Int32)), .val (.int (3 : Int32)), .val (.int ((fb (kb + 3)) &&& (255 : Int32)))] [(.int (191 : Int32)), (.int ((fb (kb + 3)) &&& (255 : Int32)))])) _
                            refine XS.icmpNo X0.here hx rfl (hb hby d1_247) rfl (XT.ii_gt_f hc247_46) ?_
                            show Steps p.tables e below (s₁.setTop (mkF m 250 #[.val (.ref a1), .val (.int p2), .val (.int p3), .val (.int ld), .val (.int (4 : Int32)), .val (.int j21), .val (.int j25), .val (.int (1 : Int32)), .val (.int (3 : Int32)), .val (.int ((fb (kb + 3)) &&& (255 : Int32)))] [])) _
                            refine XS.iconst X0.here hx rfl (hb hby d1_250) ?_
                            show Steps p.tables e below (s₁.setTop (mkF m 251 #[.val (.ref a1), .val (.int p2), .val (.int p3), .val (.int ld), .val (.int (4 : Int32)), .val (.int j21), .val (.int j25), .val (.int (1 : Int32)), .val (.int (3 : Int32)), .val (.int ((fb (kb + 3)) &&& (255 : Int32)))] [(.int (1 : Int32))])) _
                            refine XS.goto X0.here hx rfl (pc0 := 251) (pc' := 255) rfl (hb hby d1_251) (by decide) (by decide) ?_
                            show Steps p.tables e below (s₁.setTop (mkF m 255 #[.val (.ref a1), .val (.int p2), .val (.int p3), .val (.int ld), .val (.int (4 : Int32)), .val (.int j21), .val (.int j25), .val (.int (1 : Int32)), .val (.int (3 : Int32)), .val (.int ((fb (kb + 3)) &&& (255 : Int32)))] [(.int (1 : Int32))])) _
                            refine XS.istore X0.here hx rfl (hb hby d1_255) rfl (l' := #[.val (.ref a1), .val (.int p2), .val (.int p3), .val (.int ld), .val (.int (4 : Int32)), .val (.int j21), .val (.int j25), .val (.int (1 : Int32)), .val (.int (3 : Int32)), .val (.int ((fb (kb + 3)) &&& (255 : Int32)))]) rfl ?_
                            show Steps p.tables e below (s₁.setTop (mkF m 257 #[.val (.ref a1), .val (.int p2), .val (.int p3), .val (.int ld), .val (.int (4 : Int32)), .val (.int j21), .val (.int j25), .val (.int (1 : Int32)), .val (.int (3 : Int32)), .val (.int ((fb (kb + 3)) &&& (255 : Int32)))] [])) _
                            refine XS.iinc X0.here hx rfl (hb hby d1_257) rfl (l' := #[.val (.ref a1), .val (.int p2), .val (.int p3), .val (.int ld), .val (.int (4 : Int32)), .val (.int j21), .val (.int j25), .val (.int (1 : Int32)), .val (.int (4 : Int32)), .val (.int ((fb (kb + 3)) &&& (255 : Int32)))]) rfl ?_
                            show Steps p.tables e below (s₁.setTop (mkF m 260 #[.val (.ref a1), .val (.int p2), .val (.int p3), .val (.int ld), .val (.int (4 : Int32)), .val (.int j21), .val (.int j25), .val (.int (1 : Int32)), .val (.int (4 : Int32)), .val (.int ((fb (kb + 3)) &&& (255 : Int32)))] [])) _
                            refine XS.goto X0.here hx rfl (pc0 := 260) (pc' := 182) rfl (hb hby d1_260) (by decide) (by decide) ?_
                            show Steps p.tables e below (s₁.setTop (mkF m 182 #[.val (.ref a1), .val (.int p2), .val (.int p3), .val (.int ld), .val (.int (4 : Int32)), .val (.int j21), .val (.int j25), .val (.int (1 : Int32)), .val (.int (4 : Int32)), .val (.int ((fb (kb + 3)) &&& (255 : Int32)))] [])) _
                            refine XS.iload X0.here hx rfl (hb hby d1_182) rfl ?_
                            show Steps p.tables e below (s₁.setTop (mkF m 184 #[.val (.ref a1), .val (.int p2), .val (.int p3), .val (.int ld), .val (.int (4 : Int32)), .val (.int j21), .val (.int j25), .val (.int (1 : Int32)), .val (.int (4 : Int32)), .val (.int ((fb (kb + 3)) &&& (255 : Int32)))] [(.int (1 : Int32))])) _
                            refine XS.ifNo X0.here hx rfl (hb hby d1_184) rfl (XT.i0_eq_f (by decide)) ?_
                            show Steps p.tables e below (s₁.setTop (mkF m 187 #[.val (.ref a1), .val (.int p2), .val (.int p3), .val (.int ld), .val (.int (4 : Int32)), .val (.int j21), .val (.int j25), .val (.int (1 : Int32)), .val (.int (4 : Int32)), .val (.int ((fb (kb + 3)) &&& (255 : Int32)))] [])) _
                            refine XS.iload X0.here hx rfl (hb hby d1_187) rfl ?_
                            show Steps p.tables e below (s₁.setTop (mkF m 189 #[.val (.ref a1), .val (.int p2), .val (.int p3), .val (.int ld), .val (.int (4 : Int32)), .val (.int j21), .val (.int j25), .val (.int (1 : Int32)), .val (.int (4 : Int32)), .val (.int ((fb (kb + 3)) &&& (255 : Int32)))] [(.int (4 : Int32))])) _
                            refine XS.iload X0.here hx rfl (hb hby d1_189) rfl ?_
                            show Steps p.tables e below (s₁.setTop (mkF m 191 #[.val (.ref a1), .val (.int p2), .val (.int p3), .val (.int ld), .val (.int (4 : Int32)), .val (.int j21), .val (.int j25), .val (.int (1 : Int32)), .val (.int (4 : Int32)), .val (.int ((fb (kb + 3)) &&& (255 : Int32)))] [(.int (4 : Int32)), (.int (4 : Int32))])) _
                            refine XS.icmpYes X0.here hx rfl (pc0 := 191) (pc' := 263) rfl (hb hby d1_191) rfl (XT.ii_ge_t (by decide)) (by decide) (by decide) ?_
                            show Steps p.tables e below (s₁.setTop (mkF m 263 #[.val (.ref a1), .val (.int p2), .val (.int p3), .val (.int ld), .val (.int (4 : Int32)), .val (.int j21), .val (.int j25), .val (.int (1 : Int32)), .val (.int (4 : Int32)), .val (.int ((fb (kb + 3)) &&& (255 : Int32)))] [])) _
                            refine XS.iload X0.here hx rfl (hb hby d1_263) rfl ?_
                            show Steps p.tables e below (s₁.setTop (mkF m 265 #[.val (.ref a1), .val (.int p2), .val (.int p3), .val (.int ld), .val (.int (4 : Int32)), .val (.int j21), .val (.int j25), .val (.int (1 : Int32)), .val (.int (4 : Int32)), .val (.int ((fb (kb + 3)) &&& (255 : Int32)))] [(.int (1 : Int32))])) _
                            refine XS.ifNo X0.here hx rfl (hb hby d1_265) rfl (XT.i0_eq_f (by decide)) ?_
                            show Steps p.tables e below (s₁.setTop (mkF m 268 #[.val (.ref a1), .val (.int p2), .val (.int p3), .val (.int ld), .val (.int (4 : Int32)), .val (.int j21), .val (.int j25), .val (.int (1 : Int32)), .val (.int (4 : Int32)), .val (.int ((fb (kb + 3)) &&& (255 : Int32)))] [])) _
                            refine XS.iload X0.here hx rfl (hb hby d1_268) rfl ?_
                            show Steps p.tables e below (s₁.setTop (mkF m 270 #[.val (.ref a1), .val (.int p2), .val (.int p3), .val (.int ld), .val (.int (4 : Int32)), .val (.int j21), .val (.int j25), .val (.int (1 : Int32)), .val (.int (4 : Int32)), .val (.int ((fb (kb + 3)) &&& (255 : Int32)))] [(.int (4 : Int32))])) _
                            refine XS.goto X0.here hx rfl (pc0 := 270) (pc' := 274) rfl (hb hby d1_270) (by decide) (by decide) ?_
                            exact kt
                          obtain ⟨fs, hr, hrun, hended, hW, hsame⟩ := X0.leave (v := some (.int (4 : Int32))) (fun h => by rw [Bd.returns] at h; cases h)
                          refine ⟨_, _, pre48 _ ?_, hrun, hended, _, _, rfl, ?_, ⟨_, rfl⟩, hW, hsame.mono (by decide) (by decide)⟩
                          · show Steps p.tables e below (s₁.setTop (mkF m 274 #[.val (.ref a1), .val (.int p2), .val (.int p3), .val (.int ld), .val (.int (4 : Int32)), .val (.int j21), .val (.int j25), .val (.int (1 : Int32)), .val (.int (4 : Int32)), .val (.int ((fb (kb + 3)) &&& (255 : Int32)))] [(.int (4 : Int32))])) _
                            exact owRetI X0 hx Bd.returns (hb hby d1_274) hr
                          · show Q1 Z a1 p2 p3 fb kb h0 n0 _ s₁.heap _
                            rw [e0]
                            exact ⟨by subst h_ld h_j21 h_j25; unfold fn1; rw [if_neg hc25_4, if_neg hc38_10, if_pos hc45_13, if_pos hc65_15, if_neg hc119_17, if_neg hc169_28, if_neg hc216_31, if_neg hc223_34, if_neg hc239_37, if_neg hc247_40, if_neg hc239_43, if_neg hc247_46], N0, rfl⟩
        · skip
          have pre49 : ∀ t, Steps p.tables e below (s₁.setTop (mkF m 75 #[.val (.ref a1), .val (.int p2), .val (.int p3), .val (.int ld), .val (.int (3 : Int32)), .val (.int (128 : Int32)), .val (.int (191 : Int32)), .unset, .unset, .unset] [(.int (224 : Int32)), (.int ld)])) t → Steps p.tables e below (s₁.setTop (entryFrame m #[(.ref a1), (.int p2), (.int p3)] 10)) t := by
            intro t kt
            refine pre14 _ ?_
            show Steps p.tables e below (s₁.setTop (mkF m 65 #[.val (.ref a1), .val (.int p2), .val (.int p3), .val (.int ld), .val (.int (0 : Int32)), .val (.int (128 : Int32)), .val (.int (191 : Int32)), .unset, .unset, .unset] [(.int (239 : Int32)), (.int ld)])) _
            refine XS.icmpNo X0.here hx rfl (hb hby d1_65) rfl (XT.ii_gt_f hc65_15) ?_
            show Steps p.tables e below (s₁.setTop (mkF m 68 #[.val (.ref a1), .val (.int p2), .val (.int p3), .val (.int ld), .val (.int (0 : Int32)), .val (.int (128 : Int32)), .val (.int (191 : Int32)), .unset, .unset, .unset] [])) _
            refine XS.iconst X0.here hx rfl (hb hby d1_68) ?_
            show Steps p.tables e below (s₁.setTop (mkF m 69 #[.val (.ref a1), .val (.int p2), .val (.int p3), .val (.int ld), .val (.int (0 : Int32)), .val (.int (128 : Int32)), .val (.int (191 : Int32)), .unset, .unset, .unset] [(.int (3 : Int32))])) _
            refine XS.istore X0.here hx rfl (hb hby d1_69) rfl (l' := #[.val (.ref a1), .val (.int p2), .val (.int p3), .val (.int ld), .val (.int (3 : Int32)), .val (.int (128 : Int32)), .val (.int (191 : Int32)), .unset, .unset, .unset]) rfl ?_
            show Steps p.tables e below (s₁.setTop (mkF m 71 #[.val (.ref a1), .val (.int p2), .val (.int p3), .val (.int ld), .val (.int (3 : Int32)), .val (.int (128 : Int32)), .val (.int (191 : Int32)), .unset, .unset, .unset] [])) _
            refine XS.iloadN X0.here hx rfl (hb hby d1_71) rfl ?_
            show Steps p.tables e below (s₁.setTop (mkF m 72 #[.val (.ref a1), .val (.int p2), .val (.int p3), .val (.int ld), .val (.int (3 : Int32)), .val (.int (128 : Int32)), .val (.int (191 : Int32)), .unset, .unset, .unset] [(.int ld)])) _
            refine XS.sipush X0.here hx rfl (hb hby d1_72) ?_
            exact kt
          obtain ⟨j51, h_j51⟩ : ∃ z : Int32, z = (if ld = (224 : Int32) then (160 : Int32) else (128 : Int32)) := ⟨_, rfl⟩
          have pre52 : ∀ t, Steps p.tables e below (s₁.setTop (mkF m 86 #[.val (.ref a1), .val (.int p2), .val (.int p3), .val (.int ld), .val (.int (3 : Int32)), .val (.int (128 : Int32)), .val (.int (191 : Int32)), .unset, .unset, .unset] [(.int j51)])) t → Steps p.tables e below (s₁.setTop (entryFrame m #[(.ref a1), (.int p2), (.int p3)] 10)) t := by
            intro t kt
            refine pre49 _ ?_
            by_cases hc75_50 : ld = (224 : Int32)
            · skip
              have q_j51 : j51 = (160 : Int32) := by rw [h_j51, if_pos hc75_50]
              rw [q_j51] at kt
              show Steps p.tables e below (s₁.setTop (mkF m 75 #[.val (.ref a1), .val (.int p2), .val (.int p3), .val (.int ld), .val (.int (3 : Int32)), .val (.int (128 : Int32)), .val (.int (191 : Int32)), .unset, .unset, .unset] [(.int (224 : Int32)), (.int ld)])) _
              refine XS.icmpNo X0.here hx rfl (hb hby d1_75) rfl (XT.ii_ne_f hc75_50) ?_
              show Steps p.tables e below (s₁.setTop (mkF m 78 #[.val (.ref a1), .val (.int p2), .val (.int p3), .val (.int ld), .val (.int (3 : Int32)), .val (.int (128 : Int32)), .val (.int (191 : Int32)), .unset, .unset, .unset] [])) _
              refine XS.sipush X0.here hx rfl (hb hby d1_78) ?_
              show Steps p.tables e below (s₁.setTop (mkF m 81 #[.val (.ref a1), .val (.int p2), .val (.int p3), .val (.int ld), .val (.int (3 : Int32)), .val (.int (128 : Int32)), .val (.int (191 : Int32)), .unset, .unset, .unset] [(.int (160 : Int32))])) _
              refine XS.goto X0.here hx rfl (pc0 := 81) (pc' := 86) rfl (hb hby d1_81) (by decide) (by decide) ?_
              exact kt
            · skip
              have q_j51 : j51 = (128 : Int32) := by rw [h_j51, if_neg hc75_50]
              rw [q_j51] at kt
              show Steps p.tables e below (s₁.setTop (mkF m 75 #[.val (.ref a1), .val (.int p2), .val (.int p3), .val (.int ld), .val (.int (3 : Int32)), .val (.int (128 : Int32)), .val (.int (191 : Int32)), .unset, .unset, .unset] [(.int (224 : Int32)), (.int ld)])) _
              refine XS.icmpYes X0.here hx rfl (pc0 := 75) (pc' := 84) rfl (hb hby d1_75) rfl (XT.ii_ne_t hc75_50) (by decide) (by decide) ?_
              show Steps p.tables e below (s₁.setTop (mkF m 84 #[.val (.ref a1), .val (.int p2), .val (.int p3), .val (.int ld), .val (.int (3 : Int32)), .val (.int (128 : Int32)), .val (.int (191 : Int32)), .unset, .unset, .unset] [])) _
              refine XS.iload X0.here hx rfl (hb hby d1_84) rfl ?_
              exact kt
          have pre53 : ∀ t, Steps p.tables e below (s₁.setTop (mkF m 92 #[.val (.ref a1), .val (.int p2), .val (.int p3), .val (.int ld), .val (.int (3 : Int32)), .val (.int j51), .val (.int (191 : Int32)), .unset, .unset, .unset] [(.int (237 : Int32)), (.int ld)])) t → Steps p.tables e below (s₁.setTop (entryFrame m #[(.ref a1), (.int p2), (.int p3)] 10)) t := by
            intro t kt
            refine pre52 _ ?_
            show Steps p.tables e below (s₁.setTop (mkF m 86 #[.val (.ref a1), .val (.int p2), .val (.int p3), .val (.int ld), .val (.int (3 : Int32)), .val (.int (128 : Int32)), .val (.int (191 : Int32)), .unset, .unset, .unset] [(.int j51)])) _
            refine XS.istore X0.here hx rfl (hb hby d1_86) rfl (l' := #[.val (.ref a1), .val (.int p2), .val (.int p3), .val (.int ld), .val (.int (3 : Int32)), .val (.int j51), .val (.int (191 : Int32)), .unset, .unset, .unset]) rfl ?_
            show Steps p.tables e below (s₁.setTop (mkF m 88 #[.val (.ref a1), .val (.int p2), .val (.int p3), .val (.int ld), .val (.int (3 : Int32)), .val (.int j51), .val (.int (191 : Int32)), .unset, .unset, .unset] [])) _
            refine XS.iloadN X0.here hx rfl (hb hby d1_88) rfl ?_
            show Steps p.tables e below (s₁.setTop (mkF m 89 #[.val (.ref a1), .val (.int p2), .val (.int p3), .val (.int ld), .val (.int (3 : Int32)), .val (.int j51), .val (.int (191 : Int32)), .unset, .unset, .unset] [(.int ld)])) _
            refine XS.sipush X0.here hx rfl (hb hby d1_89) ?_
            exact kt
          obtain ⟨j55, h_j55⟩ : ∃ z : Int32, z = (if ld = (237 : Int32) then (159 : Int32) else (191 : Int32)) := ⟨_, rfl⟩
          have pre56 : ∀ t, Steps p.tables e below (s₁.setTop (mkF m 103 #[.val (.ref a1), .val (.int p2), .val (.int p3), .val (.int ld), .val (.int (3 : Int32)), .val (.int j51), .val (.int (191 : Int32)), .unset, .unset, .unset] [(.int j55)])) t → Steps p.tables e below (s₁.setTop (entryFrame m #[(.ref a1), (.int p2), (.int p3)] 10)) t := by
            intro t kt
            refine pre53 _ ?_
            by_cases hc92_54 : ld = (237 : Int32)
            · skip
              have q_j55 : j55 = (159 : Int32) := by rw [h_j55, if_pos hc92_54]
              rw [q_j55] at kt
              show Steps p.tables e below (s₁.setTop (mkF m 92 #[.val (.ref a1), .val (.int p2), .val (.int p3), .val (.int ld), .val (.int (3 : Int32)), .val (.int j51), .val (.int (191 : Int32)), .unset, .unset, .unset] [(.int (237 : Int32)), (.int ld)])) _
              refine XS.icmpNo X0.here hx rfl (hb hby d1_92) rfl (XT.ii_ne_f hc92_54) ?_
              show Steps p.tables e below (s₁.setTop (mkF m 95 #[.val (.ref a1), .val (.int p2), .val (.int p3), .val (.int ld), .val (.int (3 : Int32)), .val (.int j51), .val (.int (191 : Int32)), .unset, .unset, .unset] [])) _
              refine XS.sipush X0.here hx rfl (hb hby d1_95) ?_
              show Steps p.tables e below (s₁.setTop (mkF m 98 #[.val (.ref a1), .val (.int p2), .val (.int p3), .val (.int ld), .val (.int (3 : Int32)), .val (.int j51), .val (.int (191 : Int32)), .unset, .unset, .unset] [(.int (159 : Int32))])) _
              refine XS.goto X0.here hx rfl (pc0 := 98) (pc' := 103) rfl (hb hby d1_98) (by decide) (by decide) ?_
              exact kt
            · skip
              have q_j55 : j55 = (191 : Int32) := by rw [h_j55, if_neg hc92_54]
              rw [q_j55] at kt
              show Steps p.tables e below (s₁.setTop (mkF m 92 #[.val (.ref a1), .val (.int p2), .val (.int p3), .val (.int ld), .val (.int (3 : Int32)), .val (.int j51), .val (.int (191 : Int32)), .unset, .unset, .unset] [(.int (237 : Int32)), (.int ld)])) _
              refine XS.icmpYes X0.here hx rfl (pc0 := 92) (pc' := 101) rfl (hb hby d1_92) rfl (XT.ii_ne_t hc92_54) (by decide) (by decide) ?_
              show Steps p.tables e below (s₁.setTop (mkF m 101 #[.val (.ref a1), .val (.int p2), .val (.int p3), .val (.int ld), .val (.int (3 : Int32)), .val (.int j51), .val (.int (191 : Int32)), .unset, .unset, .unset] [])) _
              refine XS.iload X0.here hx rfl (hb hby d1_101) rfl ?_
              exact kt
          have pre57 : ∀ t, Steps p.tables e below (s₁.setTop (mkF m 169 #[.val (.ref a1), .val (.int p2), .val (.int p3), .val (.int ld), .val (.int (3 : Int32)), .val (.int j51), .val (.int j55), .unset, .unset, .unset] [(.int p3), (.int (p2 + (3 : Int32)))])) t → Steps p.tables e below (s₁.setTop (entryFrame m #[(.ref a1), (.int p2), (.int p3)] 10)) t := by
            intro t kt
            refine pre56 _ ?_
            show Steps p.tables e below (s₁.setTop (mkF m 103 #[.val (.ref a1), .val (.int p2), .val (.int p3), .val (.int ld), .val (.int (3 : Int32)), .val (.int j51), .val (.int (191 : Int32)), .unset, .unset, .unset] [(.int j55)])) _
            refine XS.istore X0.here hx rfl (hb hby d1_103) rfl (l' := #[.val (.ref a1), .val (.int p2), .val (.int p3), .val (.int ld), .val (.int (3 : Int32)), .val (.int j51), .val (.int j55), .unset, .unset, .unset]) rfl ?_
            show Steps p.tables e below (s₁.setTop (mkF m 105 #[.val (.ref a1), .val (.int p2), .val (.int p3), .val (.int ld), .val (.int (3 : Int32)), .val (.int j51), .val (.int j55), .unset, .unset, .unset] [])) _
            refine XS.goto X0.here hx rfl (pc0 := 105) (pc' := 159) rfl (hb hby d1_105) (by decide) (by decide) ?_
            show Steps p.tables e below (s₁.setTop (mkF m 159 #[.val (.ref a1), .val (.int p2), .val (.int p3), .val (.int ld), .val (.int (3 : Int32)), .val (.int j51), .val (.int j55), .unset, .unset, .unset] [])) _
            refine XS.iload X0.here hx rfl (hb hby d1_159) rfl ?_
            show Steps p.tables e below (s₁.setTop (mkF m 161 #[.val (.ref a1), .val (.int p2), .val (.int p3), .val (.int ld), .val (.int (3 : Int32)), .val (.int j51), .val (.int j55), .unset, .unset, .unset] [(.int (3 : Int32))])) _
            refine XS.ifNo X0.here hx rfl (hb hby d1_161) rfl (XT.i0_le_f (by decide)) ?_
            show Steps p.tables e below (s₁.setTop (mkF m 164 #[.val (.ref a1), .val (.int p2), .val (.int p3), .val (.int ld), .val (.int (3 : Int32)), .val (.int j51), .val (.int j55), .unset, .unset, .unset] [])) _
            refine XS.iloadN X0.here hx rfl (hb hby d1_164) rfl ?_
            show Steps p.tables e below (s₁.setTop (mkF m 165 #[.val (.ref a1), .val (.int p2), .val (.int p3), .val (.int ld), .val (.int (3 : Int32)), .val (.int j51), .val (.int j55), .unset, .unset, .unset] [(.int p2)])) _
            refine XS.iload X0.here hx rfl (hb hby d1_165) rfl ?_
            show Steps p.tables e below (s₁.setTop (mkF m 167 #[.val (.ref a1), .val (.int p2), .val (.int p3), .val (.int ld), .val (.int (3 : Int32)), .val (.int j51), .val (.int j55), .unset, .unset, .unset] [(.int (3 : Int32)), (.int p2)])) _
            refine XS.iadd X0.here hx rfl (hb hby d1_167) rfl ?_
            show Steps p.tables e below (s₁.setTop (mkF m 168 #[.val (.ref a1), .val (.int p2), .val (.int p3), .val (.int ld), .val (.int (3 : Int32)), .val (.int j51), .val (.int j55), .unset, .unset, .unset] [(.int (p2 + (3 : Int32)))])) _
            refine XS.iloadN X0.here hx rfl (hb hby d1_168) rfl ?_
            exact kt
          by_cases hc169_58 : p3 < (p2 + (3 : Int32))
          · skip
            have pre59 : ∀ t, Steps p.tables e below (s₁.setTop (mkF m 274 #[.val (.ref a1), .val (.int p2), .val (.int p3), .val (.int ld), .val (.int (3 : Int32)), .val (.int j51), .val (.int j55), .val (.int (0 : Int32)), .val (.int (1 : Int32)), .unset] [(.int (0 : Int32))])) t → Steps p.tables e below (s₁.setTop (entryFrame m #[(.ref a1), (.int p2), (.int p3)] 10)) t := by
              intro t kt
              refine pre57 _ ?_
              show Steps p.tables e below (s₁.setTop (mkF m 169 #[.val (.ref a1), .val (.int p2), .val (.int p3), .val (.int ld), .val (.int (3 : Int32)), .val (.int j51), .val (.int j55), .unset, .unset, .unset] [(.int p3), (.int (p2 + (3 : Int32)))])) _
              refine XS.icmpYes X0.here hx rfl (pc0 := 169) (pc' := 176) rfl (hb hby d1_169) rfl (XT.ii_gt_t hc169_58) (by decide) (by decide) ?_
              show Steps p.tables e below (s₁.setTop (mkF m 176 #[.val (.ref a1), .val (.int p2), .val (.int p3), .val (.int ld), .val (.int (3 : Int32)), .val (.int j51), .val (.int j55), .unset, .unset, .unset] [])) _
              refine XS.iconst X0.here hx rfl (hb hby d1_176) ?_
              show Steps p.tables e below (s₁.setTop (mkF m 177 #[.val (.ref a1), .val (.int p2), .val (.int p3), .val (.int ld), .val (.int (3 : Int32)), .val (.int j51), .val (.int j55), .unset, .unset, .unset] [(.int (0 : Int32))])) _
              refine XS.istore X0.here hx rfl (hb hby d1_177) rfl (l' := #[.val (.ref a1), .val (.int p2), .val (.int p3), .val (.int ld), .val (.int (3 : Int32)), .val (.int j51), .val (.int j55), .val (.int (0 : Int32)), .unset, .unset]) rfl ?_
              show Steps p.tables e below (s₁.setTop (mkF m 179 #[.val (.ref a1), .val (.int p2), .val (.int p3), .val (.int ld), .val (.int (3 : Int32)), .val (.int j51), .val (.int j55), .val (.int (0 : Int32)), .unset, .unset] [])) _
              refine XS.iconst X0.here hx rfl (hb hby d1_179) ?_
              show Steps p.tables e below (s₁.setTop (mkF m 180 #[.val (.ref a1), .val (.int p2), .val (.int p3), .val (.int ld), .val (.int (3 : Int32)), .val (.int j51), .val (.int j55), .val (.int (0 : Int32)), .unset, .unset] [(.int (1 : Int32))])) _
              refine XS.istore X0.here hx rfl (hb hby d1_180) rfl (l' := #[.val (.ref a1), .val (.int p2), .val (.int p3), .val (.int ld), .val (.int (3 : Int32)), .val (.int j51), .val (.int j55), .val (.int (0 : Int32)), .val (.int (1 : Int32)), .unset]) rfl ?_
              show Steps p.tables e below (s₁.setTop (mkF m 182 #[.val (.ref a1), .val (.int p2), .val (.int p3), .val (.int ld), .val (.int (3 : Int32)), .val (.int j51), .val (.int j55), .val (.int (0 : Int32)), .val (.int (1 : Int32)), .unset] [])) _
              refine XS.iload X0.here hx rfl (hb hby d1_182) rfl ?_
              show Steps p.tables e below (s₁.setTop (mkF m 184 #[.val (.ref a1), .val (.int p2), .val (.int p3), .val (.int ld), .val (.int (3 : Int32)), .val (.int j51), .val (.int j55), .val (.int (0 : Int32)), .val (.int (1 : Int32)), .unset] [(.int (0 : Int32))])) _
              refine XS.ifYes X0.here hx rfl (pc0 := 184) (pc' := 263) rfl (hb hby d1_184) rfl (XT.i0_eq_t (by decide)) (by decide) (by decide) ?_
              show Steps p.tables e below (s₁.setTop (mkF m 263 #[.val (.ref a1), .val (.int p2), .val (.int p3), .val (.int ld), .val (.int (3 : Int32)), .val (.int j51), .val (.int j55), .val (.int (0 : Int32)), .val (.int (1 : Int32)), .unset] [])) _
              refine XS.iload X0.here hx rfl (hb hby d1_263) rfl ?_
              show Steps p.tables e below (s₁.setTop (mkF m 265 #[.val (.ref a1), .val (.int p2), .val (.int p3), .val (.int ld), .val (.int (3 : Int32)), .val (.int j51), .val (.int j55), .val (.int (0 : Int32)), .val (.int (1 : Int32)), .unset] [(.int (0 : Int32))])) _
              refine XS.ifYes X0.here hx rfl (pc0 := 265) (pc' := 273) rfl (hb hby d1_265) rfl (XT.i0_eq_t (by decide)) (by decide) (by decide) ?_
              show Steps p.tables e below (s₁.setTop (mkF m 273 #[.val (.ref a1), .val (.int p2), .val (.int p3), .val (.int ld), .val (.int (3 : Int32)), .val (.int j51), .val (.int j55), .val (.int (0 : Int32)), .val (.int (1 : Int32)), .unset] [])) _
              refine XS.iconst X0.here hx rfl (hb hby d1_273) ?_
              exact kt
            obtain ⟨fs, hr, hrun, hended, hW, hsame⟩ := X0.leave (v := some (.int (0 : Int32))) (fun h => by rw [Bd.returns] at h; cases h)
            refine ⟨_, _, pre59 _ ?_, hrun, hended, _, _, rfl, ?_, ⟨_, rfl⟩, hW, hsame.mono (by decide) (by decide)⟩
            · show Steps p.tables e below (s₁.setTop (mkF m 274 #[.val (.ref a1), .val (.int p2), .val (.int p3), .val (.int ld), .val (.int (3 : Int32)), .val (.int j51), .val (.int j55), .val (.int (0 : Int32)), .val (.int (1 : Int32)), .unset] [(.int (0 : Int32))])) _
              exact owRetI X0 hx Bd.returns (hb hby d1_274) hr
            · show Q1 Z a1 p2 p3 fb kb h0 n0 _ s₁.heap _
              rw [e0]
              exact ⟨by subst h_ld h_j51 h_j55; unfold fn1; rw [if_neg hc25_4, if_neg hc38_10, if_pos hc45_13, if_neg hc65_15, if_pos hc169_58], N0, rfl⟩
          · skip
            have pre60 : ∀ t, Steps p.tables e below (s₁.setTop (mkF m 216 #[.val (.ref a1), .val (.int p2), .val (.int p3), .val (.int ld), .val (.int (3 : Int32)), .val (.int j51), .val (.int j55), .val (.int (1 : Int32)), .val (.int (1 : Int32)), .val (.int ((fb (kb + 1)) &&& (255 : Int32)))] [(.int j51), (.int ((fb (kb + 1)) &&& (255 : Int32)))])) t → Steps p.tables e below (s₁.setTop (entryFrame m #[(.ref a1), (.int p2), (.int p3)] 10)) t := by
              intro t kt
              refine pre57 _ ?_
              show Steps p.tables e below (s₁.setTop (mkF m 169 #[.val (.ref a1), .val (.int p2), .val (.int p3), .val (.int ld), .val (.int (3 : Int32)), .val (.int j51), .val (.int j55), .unset, .unset, .unset] [(.int p3), (.int (p2 + (3 : Int32)))])) _
              refine XS.icmpNo X0.here hx rfl (hb hby d1_169) rfl (XT.ii_gt_f hc169_58) ?_
              show Steps p.tables e below (s₁.setTop (mkF m 172 #[.val (.ref a1), .val (.int p2), .val (.int p3), .val (.int ld), .val (.int (3 : Int32)), .val (.int j51), .val (.int j55), .unset, .unset, .unset] [])) _
              refine XS.iconst X0.here hx rfl (hb hby d1_172) ?_
              show Steps p.tables e below (s₁.setTop (mkF m 173 #[.val (.ref a1), .val (.int p2), .val (.int p3), .val (.int ld), .val (.int (3 : Int32)), .val (.int j51), .val (.int j55), .unset, .unset, .unset] [(.int (1 : Int32))])) _
              refine XS.goto X0.here hx rfl (pc0 := 173) (pc' := 177) rfl (hb hby d1_173) (by decide) (by decide) ?_
              show Steps p.tables e below (s₁.setTop (mkF m 177 #[.val (.ref a1), .val (.int p2), .val (.int p3), .val (.int ld), .val (.int (3 : Int32)), .val (.int j51), .val (.int j55), .unset, .unset, .unset] [(.int (1 : Int32))])) _
              refine XS.istore X0.here hx rfl (hb hby d1_177) rfl (l' := #[.val (.ref a1), .val (.int p2), .val (.int p3), .val (.int ld), .val (.int (3 : Int32)), .val (.int j51), .val (.int j55), .val (.int (1 : Int32)), .unset, .unset]) rfl ?_
              show Steps p.tables e below (s₁.setTop (mkF m 179 #[.val (.ref a1), .val (.int p2), .val (.int p3), .val (.int ld), .val (.int (3 : Int32)), .val (.int j51), .val (.int j55), .val (.int (1 : Int32)), .unset, .unset] [])) _
              refine XS.iconst X0.here hx rfl (hb hby d1_179) ?_
              show Steps p.tables e below (s₁.setTop (mkF m 180 #[.val (.ref a1), .val (.int p2), .val (.int p3), .val (.int ld), .val (.int (3 : Int32)), .val (.int j51), .val (.int j55), .val (.int (1 : Int32)), .unset, .unset] [(.int (1 : Int32))])) _
              refine XS.istore X0.here hx rfl (hb hby d1_180) rfl (l' := #[.val (.ref a1), .val (.int p2), .val (.int p3), .val (.int ld), .val (.int (3 : Int32)), .val (.int j51), .val (.int j55), .val (.int (1 : Int32)), .val (.int (1 : Int32)), .unset]) rfl ?_
              show Steps p.tables e below (s₁.setTop (mkF m 182 #[.val (.ref a1), .val (.int p2), .val (.int p3), .val (.int ld), .val (.int (3 : Int32)), .val (.int j51), .val (.int j55), .val (.int (1 : Int32)), .val (.int (1 : Int32)), .unset] [])) _
              refine XS.iload X0.here hx rfl (hb hby d1_182) rfl ?_
              show Steps p.tables e below (s₁.setTop (mkF m 184 #[.val (.ref a1), .val (.int p2), .val (.int p3), .val (.int ld), .val (.int (3 : Int32)), .val (.int j51), .val (.int j55), .val (.int (1 : Int32)), .val (.int (1 : Int32)), .unset] [(.int (1 : Int32))])) _
              refine XS.ifNo X0.here hx rfl (hb hby d1_184) rfl (XT.i0_eq_f (by decide)) ?_
              show Steps p.tables e below (s₁.setTop (mkF m 187 #[.val (.ref a1), .val (.int p2), .val (.int p3), .val (.int ld), .val (.int (3 : Int32)), .val (.int j51), .val (.int j55), .val (.int (1 : Int32)), .val (.int (1 : Int32)), .unset] [])) _
              refine XS.iload X0.here hx rfl (hb hby d1_187) rfl ?_
              show Steps p.tables e below (s₁.setTop (mkF m 189 #[.val (.ref a1), .val (.int p2), .val (.int p3), .val (.int ld), .val (.int (3 : Int32)), .val (.int j51), .val (.int j55), .val (.int (1 : Int32)), .val (.int (1 : Int32)), .unset] [(.int (1 : Int32))])) _
              refine XS.iload X0.here hx rfl (hb hby d1_189) rfl ?_
              show Steps p.tables e below (s₁.setTop (mkF m 191 #[.val (.ref a1), .val (.int p2), .val (.int p3), .val (.int ld), .val (.int (3 : Int32)), .val (.int j51), .val (.int j55), .val (.int (1 : Int32)), .val (.int (1 : Int32)), .unset] [(.int (3 : Int32)), (.int (1 : Int32))])) _
              refine XS.icmpNo X0.here hx rfl (hb hby d1_191) rfl (XT.ii_ge_f (by decide)) ?_
              show Steps p.tables e below (s₁.setTop (mkF m 194 #[.val (.ref a1), .val (.int p2), .val (.int p3), .val (.int ld), .val (.int (3 : Int32)), .val (.int j51), .val (.int j55), .val (.int (1 : Int32)), .val (.int (1 : Int32)), .unset] [])) _
              refine XS.aloadN X0.here hx rfl (hb hby d1_194) rfl rfl ?_
              show Steps p.tables e below (s₁.setTop (mkF m 195 #[.val (.ref a1), .val (.int p2), .val (.int p3), .val (.int ld), .val (.int (3 : Int32)), .val (.int j51), .val (.int j55), .val (.int (1 : Int32)), .val (.int (1 : Int32)), .unset] [(.ref a1)])) _
              refine XS.iloadN X0.here hx rfl (hb hby d1_195) rfl ?_
              show Steps p.tables e below (s₁.setTop (mkF m 196 #[.val (.ref a1), .val (.int p2), .val (.int p3), .val (.int ld), .val (.int (3 : Int32)), .val (.int j51), .val (.int j55), .val (.int (1 : Int32)), .val (.int (1 : Int32)), .unset] [(.int p2), (.ref a1)])) _
              refine XS.iload X0.here hx rfl (hb hby d1_196) rfl ?_
              show Steps p.tables e below (s₁.setTop (mkF m 198 #[.val (.ref a1), .val (.int p2), .val (.int p3), .val (.int ld), .val (.int (3 : Int32)), .val (.int j51), .val (.int j55), .val (.int (1 : Int32)), .val (.int (1 : Int32)), .unset] [(.int (1 : Int32)), (.int p2), (.ref a1)])) _
              refine XS.iadd X0.here hx rfl (hb hby d1_198) rfl ?_
              show Steps p.tables e below (s₁.setTop (mkF m 199 #[.val (.ref a1), .val (.int p2), .val (.int p3), .val (.int ld), .val (.int (3 : Int32)), .val (.int j51), .val (.int j55), .val (.int (1 : Int32)), .val (.int (1 : Int32)), .unset] [(.int (p2 + (1 : Int32))), (.ref a1)])) _
              refine owLdB (k := (kb + 1)) X0 hx hZ e0 A_ab (j := (p2 + (1 : Int32))) (own_ix (1 : Int32) 1 hkb hk1 rfl (by decide)) (by omega) (g := (mkF m 199 #[.val (.ref a1), .val (.int p2), .val (.int p3), .val (.int ld), .val (.int (3 : Int32)), .val (.int j51), .val (.int j55), .val (.int (1 : Int32)), .val (.int (1 : Int32)), .unset] [(.int (p2 + (1 : Int32))), (.ref a1)])) rfl rfl (hb hby d1_199) _ ?_
              show Steps p.tables e below (s₁.setTop (mkF m 200 #[.val (.ref a1), .val (.int p2), .val (.int p3), .val (.int ld), .val (.int (3 : Int32)), .val (.int j51), .val (.int j55), .val (.int (1 : Int32)), .val (.int (1 : Int32)), .unset] [(.int (fb (kb + 1)))])) _
              refine XS.sipush X0.here hx rfl (hb hby d1_200) ?_
              show Steps p.tables e below (s₁.setTop (mkF m 203 #[.val (.ref a1), .val (.int p2), .val (.int p3), .val (.int ld), .val (.int (3 : Int32)), .val (.int j51), .val (.int j55), .val (.int (1 : Int32)), .val (.int (1 : Int32)), .unset] [(.int (255 : Int32)), (.int (fb (kb + 1)))])) _
              refine XS.iand X0.here hx rfl (hb hby d1_203) rfl ?_
              show Steps p.tables e below (s₁.setTop (mkF m 204 #[.val (.ref a1), .val (.int p2), .val (.int p3), .val (.int ld), .val (.int (3 : Int32)), .val (.int j51), .val (.int j55), .val (.int (1 : Int32)), .val (.int (1 : Int32)), .unset] [(.int ((fb (kb + 1)) &&& (255 : Int32)))])) _
              refine XS.istore X0.here hx rfl (hb hby d1_204) rfl (l' := #[.val (.ref a1), .val (.int p2), .val (.int p3), .val (.int ld), .val (.int (3 : Int32)), .val (.int j51), .val (.int j55), .val (.int (1 : Int32)), .val (.int (1 : Int32)), .val (.int ((fb (kb + 1)) &&& (255 : Int32)))]) rfl ?_
              show Steps p.tables e below (s₁.setTop (mkF m 206 #[.val (.ref a1), .val (.int p2), .val (.int p3), .val (.int ld), .val (.int (3 : Int32)), .val (.int j51), .val (.int j55), .val (.int (1 : Int32)), .val (.int (1 : Int32)), .val (.int ((fb (kb + 1)) &&& (255 : Int32)))] [])) _
              refine XS.iload X0.here hx rfl (hb hby d1_206) rfl ?_
              show Steps p.tables e below (s₁.setTop (mkF m 208 #[.val (.ref a1), .val (.int p2), .val (.int p3), .val (.int ld), .val (.int (3 : Int32)), .val (.int j51), .val (.int j55), .val (.int (1 : Int32)), .val (.int (1 : Int32)), .val (.int ((fb (kb + 1)) &&& (255 : Int32)))] [(.int (1 : Int32))])) _
              refine XS.iconst X0.here hx rfl (hb hby d1_208) ?_
              show Steps p.tables e below (s₁.setTop (mkF m 209 #[.val (.ref a1), .val (.int p2), .val (.int p3), .val (.int ld), .val (.int (3 : Int32)), .val (.int j51), .val (.int j55), .val (.int (1 : Int32)), .val (.int (1 : Int32)), .val (.int ((fb (kb + 1)) &&& (255 : Int32)))] [(.int (1 : Int32)), (.int (1 : Int32))])) _
              refine XS.icmpNo X0.here hx rfl (hb hby d1_209) rfl (XT.ii_ne_f (by decide)) ?_
              show Steps p.tables e below (s₁.setTop (mkF m 212 #[.val (.ref a1), .val (.int p2), .val (.int p3), .val (.int ld), .val (.int (3 : Int32)), .val (.int j51), .val (.int j55), .val (.int (1 : Int32)), .val (.int (1 : Int32)), .val (.int ((fb (kb + 1)) &&& (255 : Int32)))] [])) _
              refine XS.iload X0.here hx rfl (hb hby d1_212) rfl ?_
              show Steps p.tables e below (s₁.setTop (mkF m 214 #[.val (.ref a1), .val (.int p2), .val (.int p3), .val (.int ld), .val (.int (3 : Int32)), .val (.int j51), .val (.int j55), .val (.int (1 : Int32)), .val (.int (1 : Int32)), .val (.int ((fb (kb + 1)) &&& (255 : Int32)))] [(.int ((fb (kb + 1)) &&& (255 : Int32)))])) _
              refine XS.iload X0.here hx rfl (hb hby d1_214) rfl ?_
              exact kt
            by_cases hc216_61 : ((fb (kb + 1)) &&& (255 : Int32)) < j51
            · skip
              have pre62 : ∀ t, Steps p.tables e below (s₁.setTop (mkF m 274 #[.val (.ref a1), .val (.int p2), .val (.int p3), .val (.int ld), .val (.int (3 : Int32)), .val (.int j51), .val (.int j55), .val (.int (0 : Int32)), .val (.int (2 : Int32)), .val (.int ((fb (kb + 1)) &&& (255 : Int32)))] [(.int (0 : Int32))])) t → Steps p.tables e below (s₁.setTop (entryFrame m #[(.ref a1), (.int p2), (.int p3)] 10)) t := by
                intro t kt
                refine pre60 _ ?_
                show Steps p.tables e below (s₁.setTop (mkF m 216 #[.val (.ref a1), .val (.int p2), .val (.int p3), .val (.int ld), .val (.int (3 : Int32)), .val (.int j51), .val (.int j55), .val (.int (1 : Int32)), .val (.int (1 : Int32)), .val (.int ((fb (kb + 1)) &&& (255 : Int32)))] [(.int j51), (.int ((fb (kb + 1)) &&& (255 : Int32)))])) _
                refine XS.icmpYes X0.here hx rfl (pc0 := 216) (pc' := 230) rfl (hb hby d1_216) rfl (XT.ii_lt_t hc216_61) (by decide) (by decide) ?_
                show Steps p.tables e below (s₁.setTop (mkF m 230 #[.val (.ref a1), .val (.int p2), .val (.int p3), .val (.int ld), .val (.int (3 : Int32)), .val (.int j51), .val (.int j55), .val (.int (1 : Int32)), .val (.int (1 : Int32)), .val (.int ((fb (kb + 1)) &&& (255 : Int32)))] [])) _
                refine XS.iconst X0.here hx rfl (hb hby d1_230) ?_
                show Steps p.tables e below (s₁.setTop (mkF m 231 #[.val (.ref a1), .val (.int p2), .val (.int p3), .val (.int ld), .val (.int (3 : Int32)), .val (.int j51), .val (.int j55), .val (.int (1 : Int32)), .val (.int (1 : Int32)), .val (.int ((fb (kb + 1)) &&& (255 : Int32)))] [(.int (0 : Int32))])) _
                refine XS.goto X0.here hx rfl (pc0 := 231) (pc' := 255) rfl (hb hby d1_231) (by decide) (by decide) ?_
                show Steps p.tables e below (s₁.setTop (mkF m 255 #[.val (.ref a1), .val (.int p2), .val (.int p3), .val (.int ld), .val (.int (3 : Int32)), .val (.int j51), .val (.int j55), .val (.int (1 : Int32)), .val (.int (1 : Int32)), .val (.int ((fb (kb + 1)) &&& (255 : Int32)))] [(.int (0 : Int32))])) _
                refine XS.istore X0.here hx rfl (hb hby d1_255) rfl (l' := #[.val (.ref a1), .val (.int p2), .val (.int p3), .val (.int ld), .val (.int (3 : Int32)), .val (.int j51), .val (.int j55), .val (.int (0 : Int32)), .val (.int (1 : Int32)), .val (.int ((fb (kb + 1)) &&& (255 : Int32)))]) rfl ?_
                show Steps p.tables e below (s₁.setTop (mkF m 257 #[.val (.ref a1), .val (.int p2), .val (.int p3), .val (.int ld), .val (.int (3 : Int32)), .val (.int j51), .val (.int j55), .val (.int (0 : Int32)), .val (.int (1 : Int32)), .val (.int ((fb (kb + 1)) &&& (255 : Int32)))] [])) _
                refine XS.iinc X0.here hx rfl (hb hby d1_257) rfl (l' := #[.val (.ref a1), .val (.int p2), .val (.int p3), .val (.int ld), .val (.int (3 : Int32)), .val (.int j51), .val (.int j55), .val (.int (0 : Int32)), .val (.int (2 : Int32)), .val (.int ((fb (kb + 1)) &&& (255 : Int32)))]) rfl ?_
                show Steps p.tables e below (s₁.setTop (mkF m 260 #[.val (.ref a1), .val (.int p2), .val (.int p3), .val (.int ld), .val (.int (3 : Int32)), .val (.int j51), .val (.int j55), .val (.int (0 : Int32)), .val (.int (2 : Int32)), .val (.int ((fb (kb + 1)) &&& (255 : Int32)))] [])) _
                refine XS.goto X0.here hx rfl (pc0 := 260) (pc' := 182) rfl (hb hby d1_260) (by decide) (by decide) ?_
                show Steps p.tables e below (s₁.setTop (mkF m 182 #[.val (.ref a1), .val (.int p2), .val (.int p3), .val (.int ld), .val (.int (3 : Int32)), .val (.int j51), .val (.int j55), .val (.int (0 : Int32)), .val (.int (2 : Int32)), .val (.int ((fb (kb + 1)) &&& (255 : Int32)))] [])) _
                refine XS.iload X0.here hx rfl (hb hby d1_182) rfl ?_
                show Steps p.tables e below (s₁.setTop (mkF m 184 #[.val (.ref a1), .val (.int p2), .val (.int p3), .val (.int ld), .val (.int (3 : Int32)), .val (.int j51), .val (.int j55), .val (.int (0 : Int32)), .val (.int (2 : Int32)), .val (.int ((fb (kb + 1)) &&& (255 : Int32)))] [(.int (0 : Int32))])) _
                refine XS.ifYes X0.here hx rfl (pc0 := 184) (pc' := 263) rfl (hb hby d1_184) rfl (XT.i0_eq_t (by decide)) (by decide) (by decide) ?_
                show Steps p.tables e below (s₁.setTop (mkF m 263 #[.val (.ref a1), .val (.int p2), .val (.int p3), .val (.int ld), .val (.int (3 : Int32)), .val (.int j51), .val (.int j55), .val (.int (0 : Int32)), .val (.int (2 : Int32)), .val (.int ((fb (kb + 1)) &&& (255 : Int32)))] [])) _
                refine XS.iload X0.here hx rfl (hb hby d1_263) rfl ?_
                show Steps p.tables e below (s₁.setTop (mkF m 265 #[.val (.ref a1), .val (.int p2), .val (.int p3), .val (.int ld), .val (.int (3 : Int32)), .val (.int j51), .val (.int j55), .val (.int (0 : Int32)), .val (.int (2 : Int32)), .val (.int ((fb (kb + 1)) &&& (255 : Int32)))] [(.int (0 : Int32))])) _
                refine XS.ifYes X0.here hx rfl (pc0 := 265) (pc' := 273) rfl (hb hby d1_265) rfl (XT.i0_eq_t (by decide)) (by decide) (by decide) ?_
                show Steps p.tables e below (s₁.setTop (mkF m 273 #[.val (.ref a1), .val (.int p2), .val (.int p3), .val (.int ld), .val (.int (3 : Int32)), .val (.int j51), .val (.int j55), .val (.int (0 : Int32)), .val (.int (2 : Int32)), .val (.int ((fb (kb + 1)) &&& (255 : Int32)))] [])) _
                refine XS.iconst X0.here hx rfl (hb hby d1_273) ?_
                exact kt
              obtain ⟨fs, hr, hrun, hended, hW, hsame⟩ := X0.leave (v := some (.int (0 : Int32))) (fun h => by rw [Bd.returns] at h; cases h)
              refine ⟨_, _, pre62 _ ?_, hrun, hended, _, _, rfl, ?_, ⟨_, rfl⟩, hW, hsame.mono (by decide) (by decide)⟩
              · show Steps p.tables e below (s₁.setTop (mkF m 274 #[.val (.ref a1), .val (.int p2), .val (.int p3), .val (.int ld), .val (.int (3 : Int32)), .val (.int j51), .val (.int j55), .val (.int (0 : Int32)), .val (.int (2 : Int32)), .val (.int ((fb (kb + 1)) &&& (255 : Int32)))] [(.int (0 : Int32))])) _
                exact owRetI X0 hx Bd.returns (hb hby d1_274) hr
              · show Q1 Z a1 p2 p3 fb kb h0 n0 _ s₁.heap _
                rw [e0]
                exact ⟨by subst h_ld h_j51 h_j55; unfold fn1; rw [if_neg hc25_4, if_neg hc38_10, if_pos hc45_13, if_neg hc65_15, if_neg hc169_58, if_pos hc216_61], N0, rfl⟩
            · skip
              have pre63 : ∀ t, Steps p.tables e below (s₁.setTop (mkF m 223 #[.val (.ref a1), .val (.int p2), .val (.int p3), .val (.int ld), .val (.int (3 : Int32)), .val (.int j51), .val (.int j55), .val (.int (1 : Int32)), .val (.int (1 : Int32)), .val (.int ((fb (kb + 1)) &&& (255 : Int32)))] [(.int j55), (.int ((fb (kb + 1)) &&& (255 : Int32)))])) t → Steps p.tables e below (s₁.setTop (entryFrame m #[(.ref a1), (.int p2), (.int p3)] 10)) t := by
                intro t kt
                refine pre60 _ ?_
                show Steps p.tables e below (s₁.setTop (mkF m 216 #[.val (.ref a1), .val (.int p2), .val (.int p3), .val (.int ld), .val (.int (3 : Int32)), .val (.int j51), .val (.int j55), .val (.int (1 : Int32)), .val (.int (1 : Int32)), .val (.int ((fb (kb + 1)) &&& (255 : Int32)))] [(.int j51), (.int ((fb (kb + 1)) &&& (255 : Int32)))])) _
                refine XS.icmpNo X0.here hx rfl (hb hby d1_216) rfl (XT.ii_lt_f hc216_61) ?_
                show Steps p.tables e below (s₁.setTop (mkF m 219 #[.val (.ref a1), .val (.int p2), .val (.int p3), .val (.int ld), .val (.int (3 : Int32)), .val (.int j51), .val (.int j55), .val (.int (1 : Int32)), .val (.int (1 : Int32)), .val (.int ((fb (kb + 1)) &&& (255 : Int32)))] [])) _
                refine XS.iload X0.here hx rfl (hb hby d1_219) rfl ?_
                show Steps p.tables e below (s₁.setTop (mkF m 221 #[.val (.ref a1), .val (.int p2), .val (.int p3), .val (.int ld), .val (.int (3 : Int32)), .val (.int j51), .val (.int j55), .val (.int (1 : Int32)), .val (.int (1 : Int32)), .val (.int ((fb (kb + 1)) &&& (255 : Int32)))] [(.int ((fb (kb + 1)) &&& (255 : Int32)))])) _
                refine XS.iload X0.here hx rfl (hb hby d1_221) rfl ?_
                exact kt
              by_cases hc223_64 : j55 < ((fb (kb + 1)) &&& (255 : Int32))
              · skip
                have pre65 : ∀ t, Steps p.tables e below (s₁.setTop (mkF m 274 #[.val (.ref a1), .val (.int p2), .val (.int p3), .val (.int ld), .val (.int (3 : Int32)), .val (.int j51), .val (.int j55), .val (.int (0 : Int32)), .val (.int (2 : Int32)), .val (.int ((fb (kb + 1)) &&& (255 : Int32)))] [(.int (0 : Int32))])) t → Steps p.tables e below (s₁.setTop (entryFrame m #[(.ref a1), (.int p2), (.int p3)] 10)) t := by
                  intro t kt
                  refine pre63 _ ?_
                  show Steps p.tables e below (s₁.setTop (mkF m 223 #[.val (.ref a1), .val (.int p2), .val (.int p3), .val (.int ld), .val (.int (3 : Int32)), .val (.int j51), .val (.int j55), .val (.int (1 : Int32)), .val (.int (1 : Int32)), .val (.int ((fb (kb + 1)) &&& (255 : Int32)))] [(.int j55), (.int ((fb (kb + 1)) &&& (255 : Int32)))])) _
                  refine XS.icmpYes X0.here hx rfl (pc0 := 223) (pc' := 230) rfl (hb hby d1_223) rfl (XT.ii_gt_t hc223_64) (by decide) (by decide) ?_
                  show Steps p.tables e below (s₁.setTop (mkF m 230 #[.val (.ref a1), .val (.int p2), .val (.int p3), .val (.int ld), .val (.int (3 : Int32)), .val (.int j51), .val (.int j55), .val (.int (1 : Int32)), .val (.int (1 : Int32)), .val (.int ((fb (kb + 1)) &&& (255 : Int32)))] [])) _
                  refine XS.iconst X0.here hx rfl (hb hby d1_230) ?_
                  show Steps p.tables e below (s₁.setTop (mkF m 231 #[.val (.ref a1), .val (.int p2), .val (.int p3), .val (.int ld), .val (.int (3 : Int32)), .val (.int j51), .val (.int j55), .val (.int (1 : Int32)), .val (.int (1 : Int32)), .val (.int ((fb (kb + 1)) &&& (255 : Int32)))] [(.int (0 : Int32))])) _
                  refine XS.goto X0.here hx rfl (pc0 := 231) (pc' := 255) rfl (hb hby d1_231) (by decide) (by decide) ?_
                  show Steps p.tables e below (s₁.setTop (mkF m 255 #[.val (.ref a1), .val (.int p2), .val (.int p3), .val (.int ld), .val (.int (3 : Int32)), .val (.int j51), .val (.int j55), .val (.int (1 : Int32)), .val (.int (1 : Int32)), .val (.int ((fb (kb + 1)) &&& (255 : Int32)))] [(.int (0 : Int32))])) _
                  refine XS.istore X0.here hx rfl (hb hby d1_255) rfl (l' := #[.val (.ref a1), .val (.int p2), .val (.int p3), .val (.int ld), .val (.int (3 : Int32)), .val (.int j51), .val (.int j55), .val (.int (0 : Int32)), .val (.int (1 : Int32)), .val (.int ((fb (kb + 1)) &&& (255 : Int32)))]) rfl ?_
                  show Steps p.tables e below (s₁.setTop (mkF m 257 #[.val (.ref a1), .val (.int p2), .val (.int p3), .val (.int ld), .val (.int (3 : Int32)), .val (.int j51), .val (.int j55), .val (.int (0 : Int32)), .val (.int (1 : Int32)), .val (.int ((fb (kb + 1)) &&& (255 : Int32)))] [])) _
                  refine XS.iinc X0.here hx rfl (hb hby d1_257) rfl (l' := #[.val (.ref a1), .val (.int p2), .val (.int p3), .val (.int ld), .val (.int (3 : Int32)), .val (.int j51), .val (.int j55), .val (.int (0 : Int32)), .val (.int (2 : Int32)), .val (.int ((fb (kb + 1)) &&& (255 : Int32)))]) rfl ?_
                  show Steps p.tables e below (s₁.setTop (mkF m 260 #[.val (.ref a1), .val (.int p2), .val (.int p3), .val (.int ld), .val (.int (3 : Int32)), .val (.int j51), .val (.int j55), .val (.int (0 : Int32)), .val (.int (2 : Int32)), .val (.int ((fb (kb + 1)) &&& (255 : Int32)))] [])) _
                  refine XS.goto X0.here hx rfl (pc0 := 260) (pc' := 182) rfl (hb hby d1_260) (by decide) (by decide) ?_
                  show Steps p.tables e below (s₁.setTop (mkF m 182 #[.val (.ref a1), .val (.int p2), .val (.int p3), .val (.int ld), .val (.int (3 : Int32)), .val (.int j51), .val (.int j55), .val (.int (0 : Int32)), .val (.int (2 : Int32)), .val (.int ((fb (kb + 1)) &&& (255 : Int32)))] [])) _
                  refine XS.iload X0.here hx rfl (hb hby d1_182) rfl ?_
                  show Steps p.tables e below (s₁.setTop (mkF m 184 #[.val (.ref a1), .val (.int p2), .val (.int p3), .val (.int ld), .val (.int (3 : Int32)), .val (.int j51), .val (.int j55), .val (.int (0 : Int32)), .val (.int (2 : Int32)), .val (.int ((fb (kb + 1)) &&& (255 : Int32)))] [(.int (0 : Int32))])) _
                  refine XS.ifYes X0.here hx rfl (pc0 := 184) (pc' := 263) rfl (hb hby d1_184) rfl (XT.i0_eq_t (by decide)) (by decide) (by decide) ?_
                  show Steps p.tables e below (s₁.setTop (mkF m 263 #[.val (.ref a1), .val (.int p2), .val (.int p3), .val (.int ld), .val (.int (3 : Int32)), .val (.int j51), .val (.int j55), .val (.int (0 : Int32)), .val (.int (2 : Int32)), .val (.int ((fb (kb + 1)) &&& (255 : Int32)))] [])) _
                  refine XS.iload X0.here hx rfl (hb hby d1_263) rfl ?_
                  show Steps p.tables e below (s₁.setTop (mkF m 265 #[.val (.ref a1), .val (.int p2), .val (.int p3), .val (.int ld), .val (.int (3 : Int32)), .val (.int j51), .val (.int j55), .val (.int (0 : Int32)), .val (.int (2 : Int32)), .val (.int ((fb (kb + 1)) &&& (255 : Int32)))] [(.int (0 : Int32))])) _
                  refine XS.ifYes X0.here hx rfl (pc0 := 265) (pc' := 273) rfl (hb hby d1_265) rfl (XT.i0_eq_t (by decide)) (by decide) (by decide) ?_
                  show Steps p.tables e below (s₁.setTop (mkF m 273 #[.val (.ref a1), .val (.int p2), .val (.int p3), .val (.int ld), .val (.int (3 : Int32)), .val (.int j51), .val (.int j55), .val (.int (0 : Int32)), .val (.int (2 : Int32)), .val (.int ((fb (kb + 1)) &&& (255 : Int32)))] [])) _
                  refine XS.iconst X0.here hx rfl (hb hby d1_273) ?_
                  exact kt
                obtain ⟨fs, hr, hrun, hended, hW, hsame⟩ := X0.leave (v := some (.int (0 : Int32))) (fun h => by rw [Bd.returns] at h; cases h)
                refine ⟨_, _, pre65 _ ?_, hrun, hended, _, _, rfl, ?_, ⟨_, rfl⟩, hW, hsame.mono (by decide) (by decide)⟩
                · show Steps p.tables e below (s₁.setTop (mkF m 274 #[.val (.ref a1), .val (.int p2), .val (.int p3), .val (.int ld), .val (.int (3 : Int32)), .val (.int j51), .val (.int j55), .val (.int (0 : Int32)), .val (.int (2 : Int32)), .val (.int ((fb (kb + 1)) &&& (255 : Int32)))] [(.int (0 : Int32))])) _
                  exact owRetI X0 hx Bd.returns (hb hby d1_274) hr
                · show Q1 Z a1 p2 p3 fb kb h0 n0 _ s₁.heap _
                  rw [e0]
                  exact ⟨by subst h_ld h_j51 h_j55; unfold fn1; rw [if_neg hc25_4, if_neg hc38_10, if_pos hc45_13, if_neg hc65_15, if_neg hc169_58, if_neg hc216_61, if_pos hc223_64], N0, rfl⟩
              · skip
                have pre66 : ∀ t, Steps p.tables e below (s₁.setTop (mkF m 239 #[.val (.ref a1), .val (.int p2), .val (.int p3), .val (.int ld), .val (.int (3 : Int32)), .val (.int j51), .val (.int j55), .val (.int (1 : Int32)), .val (.int (2 : Int32)), .val (.int ((fb (kb + 2)) &&& (255 : Int32)))] [(.int (128 : Int32)), (.int ((fb (kb + 2)) &&& (255 : Int32)))])) t → Steps p.tables e below (s₁.setTop (entryFrame m #[(.ref a1), (.int p2), (.int p3)] 10)) t := by
                  intro t kt
                  refine pre63 _ ?_
                  show Steps p.tables e below (s₁.setTop (mkF m 223 #[.val (.ref a1), .val (.int p2), .val (.int p3), .val (.int ld), .val (.int (3 : Int32)), .val (.int j51), .val (.int j55), .val (.int (1 : Int32)), .val (.int (1 : Int32)), .val (.int ((fb (kb + 1)) &&& (255 : Int32)))] [(.int j55), (.int ((fb (kb + 1)) &&& (255 : Int32)))])) _
                  refine XS.icmpNo X0.here hx rfl (hb hby d1_223) rfl (XT.ii_gt_f hc223_64) ?_
                  show Steps p.tables e below (s₁.setTop (mkF m 226 #[.val (.ref a1), .val (.int p2), .val (.int p3), .val (.int ld), .val (.int (3 : Int32)), .val (.int j51), .val (.int j55), .val (.int (1 : Int32)), .val (.int (1 : Int32)), .val (.int ((fb (kb + 1)) &&& (255 : Int32)))] [])) _
                  refine XS.iconst X0.here hx rfl (hb hby d1_226) ?_
                  show Steps p.tables e below (s₁.setTop (mkF m 227 #[.val (.ref a1), .val (.int p2), .val (.int p3), .val (.int ld), .val (.int (3 : Int32)), .val (.int j51), .val (.int j55), .val (.int (1 : Int32)), .val (.int (1 : Int32)), .val (.int ((fb (kb + 1)) &&& (255 : Int32)))] [(.int (1 : Int32))])) _
                  refine XS.goto X0.here hx rfl (pc0 := 227) (pc' := 255) rfl (hb hby d1_227) (by decide) (by decide) ?_
                  show Steps p.tables e below (s₁.setTop (mkF m 255 #[.val (.ref a1), .val (.int p2), .val (.int p3), .val (.int ld), .val (.int (3 : Int32)), .val (.int j51), .val (.int j55), .val (.int (1 : Int32)), .val (.int (1 : Int32)), .val (.int ((fb (kb + 1)) &&& (255 : Int32)))] [(.int (1 : Int32))])) _
                  refine XS.istore X0.here hx rfl (hb hby d1_255) rfl (l' := #[.val (.ref a1), .val (.int p2), .val (.int p3), .val (.int ld), .val (.int (3 : Int32)), .val (.int j51), .val (.int j55), .val (.int (1 : Int32)), .val (.int (1 : Int32)), .val (.int ((fb (kb + 1)) &&& (255 : Int32)))]) rfl ?_
                  show Steps p.tables e below (s₁.setTop (mkF m 257 #[.val (.ref a1), .val (.int p2), .val (.int p3), .val (.int ld), .val (.int (3 : Int32)), .val (.int j51), .val (.int j55), .val (.int (1 : Int32)), .val (.int (1 : Int32)), .val (.int ((fb (kb + 1)) &&& (255 : Int32)))] [])) _
                  refine XS.iinc X0.here hx rfl (hb hby d1_257) rfl (l' := #[.val (.ref a1), .val (.int p2), .val (.int p3), .val (.int ld), .val (.int (3 : Int32)), .val (.int j51), .val (.int j55), .val (.int (1 : Int32)), .val (.int (2 : Int32)), .val (.int ((fb (kb + 1)) &&& (255 : Int32)))]) rfl ?_
                  show Steps p.tables e below (s₁.setTop (mkF m 260 #[.val (.ref a1), .val (.int p2), .val (.int p3), .val (.int ld), .val (.int (3 : Int32)), .val (.int j51), .val (.int j55), .val (.int (1 : Int32)), .val (.int (2 : Int32)), .val (.int ((fb (kb + 1)) &&& (255 : Int32)))] [])) _
                  refine XS.goto X0.here hx rfl (pc0 := 260) (pc' := 182) rfl (hb hby d1_260) (by decide) (by decide) ?_
                  show Steps p.tables e below (s₁.setTop (mkF m 182 #[.val (.ref a1), .val (.int p2), .val (.int p3), .val (.int ld), .val (.int (3 : Int32)), .val (.int j51), .val (.int j55), .val (.int (1 : Int32)), .val (.int (2 : Int32)), .val (.int ((fb (kb + 1)) &&& (255 : Int32)))] [])) _
                  refine XS.iload X0.here hx rfl (hb hby d1_182) rfl ?_
                  show Steps p.tables e below (s₁.setTop (mkF m 184 #[.val (.ref a1), .val (.int p2), .val (.int p3), .val (.int ld), .val (.int (3 : Int32)), .val (.int j51), .val (.int j55), .val (.int (1 : Int32)), .val (.int (2 : Int32)), .val (.int ((fb (kb + 1)) &&& (255 : Int32)))] [(.int (1 : Int32))])) _
                  refine XS.ifNo X0.here hx rfl (hb hby d1_184) rfl (XT.i0_eq_f (by decide)) ?_
                  show Steps p.tables e below (s₁.setTop (mkF m 187 #[.val (.ref a1), .val (.int p2), .val (.int p3), .val (.int ld), .val (.int (3 : Int32)), .val (.int j51), .val (.int j55), .val (.int (1 : Int32)), .val (.int (2 : Int32)), .val (.int ((fb (kb + 1)) &&& (255 : Int32)))] [])) _
                  refine XS.iload X0.here hx rfl (hb hby d1_187) rfl ?_
                  show Steps p.tables e below (s₁.setTop (mkF m 189 #[.val (.ref a1), .val (.int p2), .val (.int p3), .val (.int ld), .val (.int (3 : Int32)), .val (.int j51), .val (.int j55), .val (.int (1 : Int32)), .val (.int (2 : Int32)), .val (.int ((fb (kb + 1)) &&& (255 : Int32)))] [(.int (2 : Int32))])) _
                  refine XS.iload X0.here hx rfl (hb hby d1_189) rfl ?_
                  show Steps p.tables e below (s₁.setTop (mkF m 191 #[.val (.ref a1), .val (.int p2), .val (.int p3), .val (.int ld), .val (.int (3 : Int32)), .val (.int j51), .val (.int j55), .val (.int (1 : Int32)), .val (.int (2 : Int32)), .val (.int ((fb (kb + 1)) &&& (255 : Int32)))] [(.int (3 : Int32)), (.int (2 : Int32))])) _
                  refine XS.icmpNo X0.here hx rfl (hb hby d1_191) rfl (XT.ii_ge_f (by decide)) ?_
                  show Steps p.tables e below (s₁.setTop (mkF m 194 #[.val (.ref a1), .val (.int p2), .val (.int p3), .val (.int ld), .val (.int (3 : Int32)), .val (.int j51), .val (.int j55), .val (.int (1 : Int32)), .val (.int (2 : Int32)), .val (.int ((fb (kb + 1)) &&& (255 : Int32)))] [])) _
                  refine XS.aloadN X0.here hx rfl (hb hby d1_194) rfl rfl ?_
                  show Steps p.tables e below (s₁.setTop (mkF m 195 #[.val (.ref a1), .val (.int p2), .val (.int p3), .val (.int ld), .val (.int (3 : Int32)), .val (.int j51), .val (.int j55), .val (.int (1 : Int32)), .val (.int (2 : Int32)), .val (.int ((fb (kb + 1)) &&& (255 : Int32)))] [(.ref a1)])) _
                  refine XS.iloadN X0.here hx rfl (hb hby d1_195) rfl ?_
                  show Steps p.tables e below (s₁.setTop (mkF m 196 #[.val (.ref a1), .val (.int p2), .val (.int p3), .val (.int ld), .val (.int (3 : Int32)), .val (.int j51), .val (.int j55), .val (.int (1 : Int32)), .val (.int (2 : Int32)), .val (.int ((fb (kb + 1)) &&& (255 : Int32)))] [(.int p2), (.ref a1)])) _
                  refine XS.iload X0.here hx rfl (hb hby d1_196) rfl ?_
                  show Steps p.tables e below (s₁.setTop (mkF m 198 #[.val (.ref a1), .val (.int p2), .val (.int p3), .val (.int ld), .val (.int (3 : Int32)), .val (.int j51), .val (.int j55), .val (.int (1 : Int32)), .val (.int (2 : Int32)), .val (.int ((fb (kb + 1)) &&& (255 : Int32)))] [(.int (2 : Int32)), (.int p2), (.ref a1)])) _
                  refine XS.iadd X0.here hx rfl (hb hby d1_198) rfl ?_
                  show Steps p.tables e below (s₁.setTop (mkF m 199 #[.val (.ref a1), .val (.int p2), .val (.int p3), .val (.int ld), .val (.int (3 : Int32)), .val (.int j51), .val (.int j55), .val (.int (1 : Int32)), .val (.int (2 : Int32)), .val (.int ((fb (kb + 1)) &&& (255 : Int32)))] [(.int (p2 + (2 : Int32))), (.ref a1)])) _
                  refine owLdB (k := (kb + 2)) X0 hx hZ e0 A_ab (j := (p2 + (2 : Int32))) (own_ix (2 : Int32) 2 hkb hk1 rfl (by decide)) (by omega) (g := (mkF m 199 #[.val (.ref a1), .val (.int p2), .val (.int p3), .val (.int ld), .val (.int (3 : Int32)), .val (.int j51), .val (.int j55), .val (.int (1 : Int32)), .val (.int (2 : Int32)), .val (.int ((fb (kb + 1)) &&& (255 : Int32)))] [(.int (p2 + (2 : Int32))), (.ref a1)])) rfl rfl (hb hby d1_199) _ ?_
                  show Steps p.tables e below (s₁.setTop (mkF m 200 #[.val (.ref a1), .val (.int p2), .val (.int p3), .val (.int ld), .val (.int (3 : Int32)), .val (.int j51), .val (.int j55), .val (.int (1 : Int32)), .val (.int (2 : Int32)), .val (.int ((fb (kb + 1)) &&& (255 : Int32)))] [(.int (fb (kb + 2)))])) _
                  refine XS.sipush X0.here hx rfl (hb hby d1_200) ?_
                  show Steps p.tables e below (s₁.setTop (mkF m 203 #[.val (.ref a1), .val (.int p2), .val (.int p3), .val (.int ld), .val (.int (3 : Int32)), .val (.int j51), .val (.int j55), .val (.int (1 : Int32)), .val (.int (2 : Int32)), .val (.int ((fb (kb + 1)) &&& (255 : Int32)))] [(.int (255 : Int32)), (.int (fb (kb + 2)))])) _
                  refine XS.iand X0.here hx rfl (hb hby d1_203) rfl ?_
                  show Steps p.tables e below (s₁.setTop (mkF m 204 #[.val (.ref a1), .val (.int p2), .val (.int p3), .val (.int ld), .val (.int (3 : Int32)), .val (.int j51), .val (.int j55), .val (.int (1 : Int32)), .val (.int (2 : Int32)), .val (.int ((fb (kb + 1)) &&& (255 : Int32)))] [(.int ((fb (kb + 2)) &&& (255 : Int32)))])) _
                  refine XS.istore X0.here hx rfl (hb hby d1_204) rfl (l' := #[.val (.ref a1), .val (.int p2), .val (.int p3), .val (.int ld), .val (.int (3 : Int32)), .val (.int j51), .val (.int j55), .val (.int (1 : Int32)), .val (.int (2 : Int32)), .val (.int ((fb (kb + 2)) &&& (255 : Int32)))]) rfl ?_
                  show Steps p.tables e below (s₁.setTop (mkF m 206 #[.val (.ref a1), .val (.int p2), .val (.int p3), .val (.int ld), .val (.int (3 : Int32)), .val (.int j51), .val (.int j55), .val (.int (1 : Int32)), .val (.int (2 : Int32)), .val (.int ((fb (kb + 2)) &&& (255 : Int32)))] [])) _
                  refine XS.iload X0.here hx rfl (hb hby d1_206) rfl ?_
                  show Steps p.tables e below (s₁.setTop (mkF m 208 #[.val (.ref a1), .val (.int p2), .val (.int p3), .val (.int ld), .val (.int (3 : Int32)), .val (.int j51), .val (.int j55), .val (.int (1 : Int32)), .val (.int (2 : Int32)), .val (.int ((fb (kb + 2)) &&& (255 : Int32)))] [(.int (2 : Int32))])) _
                  refine XS.iconst X0.here hx rfl (hb hby d1_208) ?_
                  show Steps p.tables e below (s₁.setTop (mkF m 209 #[.val (.ref a1), .val (.int p2), .val (.int p3), .val (.int ld), .val (.int (3 : Int32)), .val (.int j51), .val (.int j55), .val (.int (1 : Int32)), .val (.int (2 : Int32)), .val (.int ((fb (kb + 2)) &&& (255 : Int32)))] [(.int (1 : Int32)), (.int (2 : Int32))])) _
                  refine XS.icmpYes X0.here hx rfl (pc0 := 209) (pc' := 234) rfl (hb hby d1_209) rfl (XT.ii_ne_t (by decide)) (by decide) (by decide) ?_
                  show Steps p.tables e below (s₁.setTop (mkF m 234 #[.val (.ref a1), .val (.int p2), .val (.int p3), .val (.int ld), .val (.int (3 : Int32)), .val (.int j51), .val (.int j55), .val (.int (1 : Int32)), .val (.int (2 : Int32)), .val (.int ((fb (kb + 2)) &&& (255 : Int32)))] [])) _
                  refine XS.iload X0.here hx rfl (hb hby d1_234) rfl ?_
                  show Steps p.tables e below (s₁.setTop (mkF m 236 #[.val (.ref a1), .val (.int p2), .val (.int p3), .val (.int ld), .val (.int (3 : Int32)), .val (.int j51), .val (.int j55), .val (.int (1 : Int32)), .val (.int (2 : Int32)), .val (.int ((fb (kb + 2)) &&& (255 : Int32)))] [(.int ((fb (kb + 2)) &&& (255 : Int32)))])) _
                  refine XS.sipush X0.here hx rfl (hb hby d1_236) ?_
                  exact kt
                by_cases hc239_67 : ((fb (kb + 2)) &&& (255 : Int32)) < (128 : Int32)
                · skip
                  have pre68 : ∀ t, Steps p.tables e below (s₁.setTop (mkF m 274 #[.val (.ref a1), .val (.int p2), .val (.int p3), .val (.int ld), .val (.int (3 : Int32)), .val (.int j51), .val (.int j55), .val (.int (0 : Int32)), .val (.int (3 : Int32)), .val (.int ((fb (kb + 2)) &&& (255 : Int32)))] [(.int (0 : Int32))])) t → Steps p.tables e below (s₁.setTop (entryFrame m #[(.ref a1), (.int p2), (.int p3)] 10)) t := by
                    intro t kt
                    refine pre66 _ ?_
                    show Steps p.tables e below (s₁.setTop (mkF m 239 #[.val (.ref a1), .val (.int p2), .val (.int p3), .val (.int ld), .val (.int (3 : Int32)), .val (.int j51), .val (.int j55), .val (.int (1 : Int32)), .val (.int (2 : Int32)), .val (.int ((fb (kb + 2)) &&& (255 : Int32)))] [(.int (128 : Int32)), (.int ((fb (kb + 2)) &&& (255 : Int32)))])) _
                    refine XS.icmpYes X0.here hx rfl (pc0 := 239) (pc' := 254) rfl (hb hby d1_239) rfl (XT.ii_lt_t hc239_67) (by decide) (by decide) ?_
                    show Steps p.tables e below (s₁.setTop (mkF m 254 #[.val (.ref a1), .val (.int p2), .val (.int p3), .val (.int ld), .val (.int (3 : Int32)), .val (.int j51), .val (.int j55), .val (.int (1 : Int32)), .val (.int (2 : Int32)), .val (.int ((fb (kb + 2)) &&& (255 : Int32)))] [])) _
                    refine XS.iconst X0.here hx rfl (hb hby d1_254) ?_
                    show Steps p.tables e below (s₁.setTop (mkF m 255 #[.val (.ref a1), .val (.int p2), .val (.int p3), .val (.int ld), .val (.int (3 : Int32)), .val (.int j51), .val (.int j55), .val (.int (1 : Int32)), .val (.int (2 : Int32)), .val (.int ((fb (kb + 2)) &&& (255 : Int32)))] [(.int (0 : Int32))])) _
                    refine XS.istore X0.here hx rfl (hb hby d1_255) rfl (l' := #[.val (.ref a1), .val (.int p2), .val (.int p3), .val (.int ld), .val (.int (3 : Int32)), .val (.int j51), .val (.int j55), .val (.int (0 : Int32)), .val (.int (2 : Int32)), .val (.int ((fb (kb + 2)) &&& (255 : Int32)))]) rfl ?_
                    show Steps p.tables e below (s₁.setTop (mkF m 257 #[.val (.ref a1), .val (.int p2), .val (.int p3), .val (.int ld), .val (.int (3 : Int32)), .val (.int j51), .val (.int j55), .val (.int (0 : Int32)), .val (.int (2 : Int32)), .val (.int ((fb (kb + 2)) &&& (255 : Int32)))] [])) _
                    refine XS.iinc X0.here hx rfl (hb hby d1_257) rfl (l' := #[.val (.ref a1), .val (.int p2), .val (.int p3), .val (.int ld), .val (.int (3 : Int32)), .val (.int j51), .val (.int j55), .val (.int (0 : Int32)), .val (.int (3 : Int32)), .val (.int ((fb (kb + 2)) &&& (255 : Int32)))]) rfl ?_
                    show Steps p.tables e below (s₁.setTop (mkF m 260 #[.val (.ref a1), .val (.int p2), .val (.int p3), .val (.int ld), .val (.int (3 : Int32)), .val (.int j51), .val (.int j55), .val (.int (0 : Int32)), .val (.int (3 : Int32)), .val (.int ((fb (kb + 2)) &&& (255 : Int32)))] [])) _
                    refine XS.goto X0.here hx rfl (pc0 := 260) (pc' := 182) rfl (hb hby d1_260) (by decide) (by decide) ?_
                    show Steps p.tables e below (s₁.setTop (mkF m 182 #[.val (.ref a1), .val (.int p2), .val (.int p3), .val (.int ld), .val (.int (3 : Int32)), .val (.int j51), .val (.int j55), .val (.int (0 : Int32)), .val (.int (3 : Int32)), .val (.int ((fb (kb + 2)) &&& (255 : Int32)))] [])) _
                    refine XS.iload X0.here hx rfl (hb hby d1_182) rfl ?_
                    show Steps p.tables e below (s₁.setTop (mkF m 184 #[.val (.ref a1), .val (.int p2), .val (.int p3), .val (.int ld), .val (.int (3 : Int32)), .val (.int j51), .val (.int j55), .val (.int (0 : Int32)), .val (.int (3 : Int32)), .val (.int ((fb (kb + 2)) &&& (255 : Int32)))] [(.int (0 : Int32))])) _
                    refine XS.ifYes X0.here hx rfl (pc0 := 184) (pc' := 263) rfl (hb hby d1_184) rfl (XT.i0_eq_t (by decide)) (by decide) (by decide) ?_
                    show Steps p.tables e below (s₁.setTop (mkF m 263 #[.val (.ref a1), .val (.int p2), .val (.int p3), .val (.int ld), .val (.int (3 : Int32)), .val (.int j51), .val (.int j55), .val (.int (0 : Int32)), .val (.int (3 : Int32)), .val (.int ((fb (kb + 2)) &&& (255 : Int32)))] [])) _
                    refine XS.iload X0.here hx rfl (hb hby d1_263) rfl ?_
                    show Steps p.tables e below (s₁.setTop (mkF m 265 #[.val (.ref a1), .val (.int p2), .val (.int p3), .val (.int ld), .val (.int (3 : Int32)), .val (.int j51), .val (.int j55), .val (.int (0 : Int32)), .val (.int (3 : Int32)), .val (.int ((fb (kb + 2)) &&& (255 : Int32)))] [(.int (0 : Int32))])) _
                    refine XS.ifYes X0.here hx rfl (pc0 := 265) (pc' := 273) rfl (hb hby d1_265) rfl (XT.i0_eq_t (by decide)) (by decide) (by decide) ?_
                    show Steps p.tables e below (s₁.setTop (mkF m 273 #[.val (.ref a1), .val (.int p2), .val (.int p3), .val (.int ld), .val (.int (3 : Int32)), .val (.int j51), .val (.int j55), .val (.int (0 : Int32)), .val (.int (3 : Int32)), .val (.int ((fb (kb + 2)) &&& (255 : Int32)))] [])) _
                    refine XS.iconst X0.here hx rfl (hb hby d1_273) ?_
                    exact kt
                  obtain ⟨fs, hr, hrun, hended, hW, hsame⟩ := X0.leave (v := some (.int (0 : Int32))) (fun h => by rw [Bd.returns] at h; cases h)
                  refine ⟨_, _, pre68 _ ?_, hrun, hended, _, _, rfl, ?_, ⟨_, rfl⟩, hW, hsame.mono (by decide) (by decide)⟩
                  · show Steps p.tables e below (s₁.setTop (mkF m 274 #[.val (.ref a1), .val (.int p2), .val (.int p3), .val (.int ld), .val (.int (3 : Int32)), .val (.int j51), .val (.int j55), .val (.int (0 : Int32)), .val (.int (3 : Int32)), .val (.int ((fb (kb + 2)) &&& (255 : Int32)))] [(.int (0 : Int32))])) _
                    exact owRetI X0 hx Bd.returns (hb hby d1_274) hr
                  · show Q1 Z a1 p2 p3 fb kb h0 n0 _ s₁.heap _
                    rw [e0]
                    exact ⟨by subst h_ld h_j51 h_j55; unfold fn1; rw [if_neg hc25_4, if_neg hc38_10, if_pos hc45_13, if_neg hc65_15, if_neg hc169_58, if_neg hc216_61, if_neg hc223_64, if_pos hc239_67], N0, rfl⟩
                · skip
                  have pre69 : ∀ t, Steps p.tables e below (s₁.setTop (mkF m 247 #[.val (.ref a1), .val (.int p2), .val (.int p3), .val (.int ld), .val (.int (3 : Int32)), .val (.int j51), .val (.int j55), .val (.int (1 : Int32)), .val (.int (2 : Int32)), .val (.int ((fb (kb + 2)) &&& (255 : Int32)))] [(.int (191 : Int32)), (.int ((fb (kb + 2)) &&& (255 : Int32)))])) t → Steps p.tables e below (s₁.setTop (entryFrame m #[(.ref a1), (.int p2), (.int p3)] 10)) t := by
                    intro t kt
                    refine pre66 _ ?_
                    show Steps p.tables e below (s₁.setTop (mkF m 239 #[.val (.ref a1), .val (.int p2), .val (.int p3), .val (.int ld), .val (.int (3 : Int32)), .val (.int j51), .val (.int j55), .val (.int (1 : Int32)), .val (.int (2 : Int32)), .val (.int ((fb (kb + 2)) &&& (255 : Int32)))] [(.int (128 : Int32)), (.int ((fb (kb + 2)) &&& (255 : Int32)))])) _
                    refine XS.icmpNo X0.here hx rfl (hb hby d1_239) rfl (XT.ii_lt_f hc239_67) ?_
                    show Steps p.tables e below (s₁.setTop (mkF m 242 #[.val (.ref a1), .val (.int p2), .val (.int p3), .val (.int ld), .val (.int (3 : Int32)), .val (.int j51), .val (.int j55), .val (.int (1 : Int32)), .val (.int (2 : Int32)), .val (.int ((fb (kb + 2)) &&& (255 : Int32)))] [])) _
                    refine XS.iload X0.here hx rfl (hb hby d1_242) rfl ?_
                    show Steps p.tables e below (s₁.setTop (mkF m 244 #[.val (.ref a1), .val (.int p2), .val (.int p3), .val (.int ld), .val (.int (3 : Int32)), .val (.int j51), .val (.int j55), .val (.int (1 : Int32)), .val (.int (2 : Int32)), .val (.int ((fb (kb + 2)) &&& (255 : Int32)))] [(.int ((fb (kb + 2)) &&& (255 : Int32)))])) _
                    refine XS.sipush X0.here hx rfl (hb hby d1_244) ?_
                    exact kt
                  by_cases hc247_70 : (191 : Int32) < ((fb (kb + 2)) &&& (255 : Int32))
                  · skip
                    have pre71 : ∀ t, Steps p.tables e below (s₁.setTop (mkF m 274 #[.val (.ref a1), .val (.int p2), .val (.int p3), .val (.int ld), .val (.int (3 : Int32)), .val (.int j51), .val (.int j55), .val (.int (0 : Int32)), .val (.int (3 : Int32)), .val (.int ((fb (kb + 2)) &&& (255 : Int32)))] [(.int (0 : Int32))])) t → Steps p.tables e below (s₁.setTop (entryFrame m #[(.ref a1), (.int p2), (.int p3)] 10)) t := by
                      intro t kt
                      refine pre69 _ ?_
                      show Steps p.tables e below (s₁.setTop (mkF m 247 #[.val (.ref a1), .val (.int p2), .val (.int p3), .val (.int ld), .val (.int (3 : Int32)), .val (.int j51), .val (.int j55), .val (.int (1 : Int32)), .val (.int (2 : Int32)), .val (.int ((fb (kb + 2)) &&& (255 : Int32)))] [(.int (191 : Int32)), (.int ((fb (kb + 2)) &&& (255 : Int32)))])) _
                      refine XS.icmpYes X0.here hx rfl (pc0 := 247) (pc' := 254) rfl (hb hby d1_247) rfl (XT.ii_gt_t hc247_70) (by decide) (by decide) ?_
                      show Steps p.tables e below (s₁.setTop (mkF m 254 #[.val (.ref a1), .val (.int p2), .val (.int p3), .val (.int ld), .val (.int (3 : Int32)), .val (.int j51), .val (.int j55), .val (.int (1 : Int32)), .val (.int (2 : Int32)), .val (.int ((fb (kb + 2)) &&& (255 : Int32)))] [])) _
                      refine XS.iconst X0.here hx rfl (hb hby d1_254) ?_
                      show Steps p.tables e below (s₁.setTop (mkF m 255 #[.val (.ref a1), .val (.int p2), .val (.int p3), .val (.int ld), .val (.int (3 : Int32)), .val (.int j51), .val (.int j55), .val (.int (1 : Int32)), .val (.int (2 : Int32)), .val (.int ((fb (kb + 2)) &&& (255 : Int32)))] [(.int (0 : Int32))])) _
                      refine XS.istore X0.here hx rfl (hb hby d1_255) rfl (l' := #[.val (.ref a1), .val (.int p2), .val (.int p3), .val (.int ld), .val (.int (3 : Int32)), .val (.int j51), .val (.int j55), .val (.int (0 : Int32)), .val (.int (2 : Int32)), .val (.int ((fb (kb + 2)) &&& (255 : Int32)))]) rfl ?_
                      show Steps p.tables e below (s₁.setTop (mkF m 257 #[.val (.ref a1), .val (.int p2), .val (.int p3), .val (.int ld), .val (.int (3 : Int32)), .val (.int j51), .val (.int j55), .val (.int (0 : Int32)), .val (.int (2 : Int32)), .val (.int ((fb (kb + 2)) &&& (255 : Int32)))] [])) _
                      refine XS.iinc X0.here hx rfl (hb hby d1_257) rfl (l' := #[.val (.ref a1), .val (.int p2), .val (.int p3), .val (.int ld), .val (.int (3 : Int32)), .val (.int j51), .val (.int j55), .val (.int (0 : Int32)), .val (.int (3 : Int32)), .val (.int ((fb (kb + 2)) &&& (255 : Int32)))]) rfl ?_
                      show Steps p.tables e below (s₁.setTop (mkF m 260 #[.val (.ref a1), .val (.int p2), .val (.int p3), .val (.int ld), .val (.int (3 : Int32)), .val (.int j51), .val (.int j55), .val (.int (0 : Int32)), .val (.int (3 : Int32)), .val (.int ((fb (kb + 2)) &&& (255 : Int32)))] [])) _
                      refine XS.goto X0.here hx rfl (pc0 := 260) (pc' := 182) rfl (hb hby d1_260) (by decide) (by decide) ?_
                      show Steps p.tables e below (s₁.setTop (mkF m 182 #[.val (.ref a1), .val (.int p2), .val (.int p3), .val (.int ld), .val (.int (3 : Int32)), .val (.int j51), .val (.int j55), .val (.int (0 : Int32)), .val (.int (3 : Int32)), .val (.int ((fb (kb + 2)) &&& (255 : Int32)))] [])) _
                      refine XS.iload X0.here hx rfl (hb hby d1_182) rfl ?_
                      show Steps p.tables e below (s₁.setTop (mkF m 184 #[.val (.ref a1), .val (.int p2), .val (.int p3), .val (.int ld), .val (.int (3 : Int32)), .val (.int j51), .val (.int j55), .val (.int (0 : Int32)), .val (.int (3 : Int32)), .val (.int ((fb (kb + 2)) &&& (255 : Int32)))] [(.int (0 : Int32))])) _
                      refine XS.ifYes X0.here hx rfl (pc0 := 184) (pc' := 263) rfl (hb hby d1_184) rfl (XT.i0_eq_t (by decide)) (by decide) (by decide) ?_
                      show Steps p.tables e below (s₁.setTop (mkF m 263 #[.val (.ref a1), .val (.int p2), .val (.int p3), .val (.int ld), .val (.int (3 : Int32)), .val (.int j51), .val (.int j55), .val (.int (0 : Int32)), .val (.int (3 : Int32)), .val (.int ((fb (kb + 2)) &&& (255 : Int32)))] [])) _
                      refine XS.iload X0.here hx rfl (hb hby d1_263) rfl ?_
                      show Steps p.tables e below (s₁.setTop (mkF m 265 #[.val (.ref a1), .val (.int p2), .val (.int p3), .val (.int ld), .val (.int (3 : Int32)), .val (.int j51), .val (.int j55), .val (.int (0 : Int32)), .val (.int (3 : Int32)), .val (.int ((fb (kb + 2)) &&& (255 : Int32)))] [(.int (0 : Int32))])) _
                      refine XS.ifYes X0.here hx rfl (pc0 := 265) (pc' := 273) rfl (hb hby d1_265) rfl (XT.i0_eq_t (by decide)) (by decide) (by decide) ?_
                      show Steps p.tables e below (s₁.setTop (mkF m 273 #[.val (.ref a1), .val (.int p2), .val (.int p3), .val (.int ld), .val (.int (3 : Int32)), .val (.int j51), .val (.int j55), .val (.int (0 : Int32)), .val (.int (3 : Int32)), .val (.int ((fb (kb + 2)) &&& (255 : Int32)))] [])) _
                      refine XS.iconst X0.here hx rfl (hb hby d1_273) ?_
                      exact kt
                    obtain ⟨fs, hr, hrun, hended, hW, hsame⟩ := X0.leave (v := some (.int (0 : Int32))) (fun h => by rw [Bd.returns] at h; cases h)
                    refine ⟨_, _, pre71 _ ?_, hrun, hended, _, _, rfl, ?_, ⟨_, rfl⟩, hW, hsame.mono (by decide) (by decide)⟩
                    · show Steps p.tables e below (s₁.setTop (mkF m 274 #[.val (.ref a1), .val (.int p2), .val (.int p3), .val (.int ld), .val (.int (3 : Int32)), .val (.int j51), .val (.int j55), .val (.int (0 : Int32)), .val (.int (3 : Int32)), .val (.int ((fb (kb + 2)) &&& (255 : Int32)))] [(.int (0 : Int32))])) _
                      exact owRetI X0 hx Bd.returns (hb hby d1_274) hr
                    · show Q1 Z a1 p2 p3 fb kb h0 n0 _ s₁.heap _
                      rw [e0]
                      exact ⟨by subst h_ld h_j51 h_j55; unfold fn1; rw [if_neg hc25_4, if_neg hc38_10, if_pos hc45_13, if_neg hc65_15, if_neg hc169_58, if_neg hc216_61, if_neg hc223_64, if_neg hc239_67, if_pos hc247_70], N0, rfl⟩
                  · skip
                    have pre72 : ∀ t, Steps p.tables e below (s₁.setTop (mkF m 274 #[.val (.ref a1), .val (.int p2), .val (.int p3), .val (.int ld), .val (.int (3 : Int32)), .val (.int j51), .val (.int j55), .val (.int (1 : Int32)), .val (.int (3 : Int32)), .val (.int ((fb (kb + 2)) &&& (255 : Int32)))] [(.int (3 : Int32))])) t → Steps p.tables e below (s₁.setTop (entryFrame m #[(.ref a1), (.int p2), (.int p3)] 10)) t := by
                      intro t kt
                      refine pre69 _ ?_
                      show Steps p.tables e below (s₁.setTop (mkF m 247 #[.val (.ref a1), .val (.int p2), .val (.int p3), .val (.int ld), .val (.int (3 : Int32)), .val (.int j51), .val (.int j55), .val (.int (1 : Int32)), .val (.int (2 : Int32)), .val (.int ((fb (kb + 2)) &&& (255 : Int32)))] [(.int (191 : Int32)), (.int ((fb (kb + 2)) &&& (255 : Int32)))])) _
                      refine XS.icmpNo X0.here hx rfl (hb hby d1_247) rfl (XT.ii_gt_f hc247_70) ?_
                      show Steps p.tables e below (s₁.setTop (mkF m 250 #[.val (.ref a1), .val (.int p2), .val (.int p3), .val (.int ld), .val (.int (3 : Int32)), .val (.int j51), .val (.int j55), .val (.int (1 : Int32)), .val (.int (2 : Int32)), .val (.int ((fb (kb + 2)) &&& (255 : Int32)))] [])) _
                      refine XS.iconst X0.here hx rfl (hb hby d1_250) ?_
                      show Steps p.tables e below (s₁.setTop (mkF m 251 #[.val (.ref a1), .val (.int p2), .val (.int p3), .val (.int ld), .val (.int (3 : Int32)), .val (.int j51), .val (.int j55), .val (.int (1 : Int32)), .val (.int (2 : Int32)), .val (.int ((fb (kb + 2)) &&& (255 : Int32)))] [(.int (1 : Int32))])) _
                      refine XS.goto X0.here hx rfl (pc0 := 251) (pc' := 255) rfl (hb hby d1_251) (by decide) (by decide) ?_
                      show Steps p.tables e below (s₁.setTop (mkF m 255 #[.val (.ref a1), .val (.int p2), .val (.int p3), .val (.int ld), .val (.int (3 : Int32)), .val (.int j51), .val (.int j55), .val (.int (1 : Int32)), .val (.int (2 : Int32)), .val (.int ((fb (kb + 2)) &&& (255 : Int32)))] [(.int (1 : Int32))])) _
                      refine XS.istore X0.here hx rfl (hb hby d1_255) rfl (l' := #[.val (.ref a1), .val (.int p2), .val (.int p3), .val (.int ld), .val (.int (3 : Int32)), .val (.int j51), .val (.int j55), .val (.int (1 : Int32)), .val (.int (2 : Int32)), .val (.int ((fb (kb + 2)) &&& (255 : Int32)))]) rfl ?_
                      show Steps p.tables e below (s₁.setTop (mkF m 257 #[.val (.ref a1), .val (.int p2), .val (.int p3), .val (.int ld), .val (.int (3 : Int32)), .val (.int j51), .val (.int j55), .val (.int (1 : Int32)), .val (.int (2 : Int32)), .val (.int ((fb (kb + 2)) &&& (255 : Int32)))] [])) _
                      refine XS.iinc X0.here hx rfl (hb hby d1_257) rfl (l' := #[.val (.ref a1), .val (.int p2), .val (.int p3), .val (.int ld), .val (.int (3 : Int32)), .val (.int j51), .val (.int j55), .val (.int (1 : Int32)), .val (.int (3 : Int32)), .val (.int ((fb (kb + 2)) &&& (255 : Int32)))]) rfl ?_
                      show Steps p.tables e below (s₁.setTop (mkF m 260 #[.val (.ref a1), .val (.int p2), .val (.int p3), .val (.int ld), .val (.int (3 : Int32)), .val (.int j51), .val (.int j55), .val (.int (1 : Int32)), .val (.int (3 : Int32)), .val (.int ((fb (kb + 2)) &&& (255 : Int32)))] [])) _
                      refine XS.goto X0.here hx rfl (pc0 := 260) (pc' := 182) rfl (hb hby d1_260) (by decide) (by decide) ?_
                      show Steps p.tables e below (s₁.setTop (mkF m 182 #[.val (.ref a1), .val (.int p2), .val (.int p3), .val (.int ld), .val (.int (3 : Int32)), .val (.int j51), .val (.int j55), .val (.int (1 : Int32)), .val (.int (3 : Int32)), .val (.int ((fb (kb + 2)) &&& (255 : Int32)))] [])) _
                      refine XS.iload X0.here hx rfl (hb hby d1_182) rfl ?_
                      show Steps p.tables e below (s₁.setTop (mkF m 184 #[.val (.ref a1), .val (.int p2), .val (.int p3), .val (.int ld), .val (.int (3 : Int32)), .val (.int j51), .val (.int j55), .val (.int (1 : Int32)), .val (.int (3 : Int32)), .val (.int ((fb (kb + 2)) &&& (255 : Int32)))] [(.int (1 : Int32))])) _
                      refine XS.ifNo X0.here hx rfl (hb hby d1_184) rfl (XT.i0_eq_f (by decide)) ?_
                      show Steps p.tables e below (s₁.setTop (mkF m 187 #[.val (.ref a1), .val (.int p2), .val (.int p3), .val (.int ld), .val (.int (3 : Int32)), .val (.int j51), .val (.int j55), .val (.int (1 : Int32)), .val (.int (3 : Int32)), .val (.int ((fb (kb + 2)) &&& (255 : Int32)))] [])) _
                      refine XS.iload X0.here hx rfl (hb hby d1_187) rfl ?_
                      show Steps p.tables e below (s₁.setTop (mkF m 189 #[.val (.ref a1), .val (.int p2), .val (.int p3), .val (.int ld), .val (.int (3 : Int32)), .val (.int j51), .val (.int j55), .val (.int (1 : Int32)), .val (.int (3 : Int32)), .val (.int ((fb (kb + 2)) &&& (255 : Int32)))] [(.int (3 : Int32))])) _
                      refine XS.iload X0.here hx rfl (hb hby d1_189) rfl ?_
                      show Steps p.tables e below (s₁.setTop (mkF m 191 #[.val (.ref a1), .val (.int p2), .val (.int p3), .val (.int ld), .val (.int (3 : Int32)), .val (.int j51), .val (.int j55), .val (.int (1 : Int32)), .val (.int (3 : Int32)), .val (.int ((fb (kb + 2)) &&& (255 : Int32)))] [(.int (3 : Int32)), (.int (3 : Int32))])) _
                      refine XS.icmpYes X0.here hx rfl (pc0 := 191) (pc' := 263) rfl (hb hby d1_191) rfl (XT.ii_ge_t (by decide)) (by decide) (by decide) ?_
                      show Steps p.tables e below (s₁.setTop (mkF m 263 #[.val (.ref a1), .val (.int p2), .val (.int p3), .val (.int ld), .val (.int (3 : Int32)), .val (.int j51), .val (.int j55), .val (.int (1 : Int32)), .val (.int (3 : Int32)), .val (.int ((fb (kb + 2)) &&& (255 : Int32)))] [])) _
                      refine XS.iload X0.here hx rfl (hb hby d1_263) rfl ?_
                      show Steps p.tables e below (s₁.setTop (mkF m 265 #[.val (.ref a1), .val (.int p2), .val (.int p3), .val (.int ld), .val (.int (3 : Int32)), .val (.int j51), .val (.int j55), .val (.int (1 : Int32)), .val (.int (3 : Int32)), .val (.int ((fb (kb + 2)) &&& (255 : Int32)))] [(.int (1 : Int32))])) _
                      refine XS.ifNo X0.here hx rfl (hb hby d1_265) rfl (XT.i0_eq_f (by decide)) ?_
                      show Steps p.tables e below (s₁.setTop (mkF m 268 #[.val (.ref a1), .val (.int p2), .val (.int p3), .val (.int ld), .val (.int (3 : Int32)), .val (.int j51), .val (.int j55), .val (.int (1 : Int32)), .val (.int (3 : Int32)), .val (.int ((fb (kb + 2)) &&& (255 : Int32)))] [])) _
                      refine XS.iload X0.here hx rfl (hb hby d1_268) rfl ?_
                      show Steps p.tables e below (s₁.setTop (mkF m 270 #[.val (.ref a1), .val (.int p2), .val (.int p3), .val (.int ld), .val (.int (3 : Int32)), .val (.int j51), .val (.int j55), .val (.int (1 : Int32)), .val (.int (3 : Int32)), .val (.int ((fb (kb + 2)) &&& (255 : Int32)))] [(.int (3 : Int32))])) _
                      refine XS.goto X0.here hx rfl (pc0 := 270) (pc' := 274) rfl (hb hby d1_270) (by decide) (by decide) ?_
                      exact kt
                    obtain ⟨fs, hr, hrun, hended, hW, hsame⟩ := X0.leave (v := some (.int (3 : Int32))) (fun h => by rw [Bd.returns] at h; cases h)
                    refine ⟨_, _, pre72 _ ?_, hrun, hended, _, _, rfl, ?_, ⟨_, rfl⟩, hW, hsame.mono (by decide) (by decide)⟩
                    · show Steps p.tables e below (s₁.setTop (mkF m 274 #[.val (.ref a1), .val (.int p2), .val (.int p3), .val (.int ld), .val (.int (3 : Int32)), .val (.int j51), .val (.int j55), .val (.int (1 : Int32)), .val (.int (3 : Int32)), .val (.int ((fb (kb + 2)) &&& (255 : Int32)))] [(.int (3 : Int32))])) _
                      exact owRetI X0 hx Bd.returns (hb hby d1_274) hr
                    · show Q1 Z a1 p2 p3 fb kb h0 n0 _ s₁.heap _
                      rw [e0]
                      exact ⟨by subst h_ld h_j51 h_j55; unfold fn1; rw [if_neg hc25_4, if_neg hc38_10, if_pos hc45_13, if_neg hc65_15, if_neg hc169_58, if_neg hc216_61, if_neg hc223_64, if_neg hc239_67, if_neg hc247_70], N0, rfl⟩
      · skip
        have pre73 : ∀ t, Steps p.tables e below (s₁.setTop (mkF m 169 #[.val (.ref a1), .val (.int p2), .val (.int p3), .val (.int ld), .val (.int (2 : Int32)), .val (.int (128 : Int32)), .val (.int (191 : Int32)), .unset, .unset, .unset] [(.int p3), (.int (p2 + (2 : Int32)))])) t → Steps p.tables e below (s₁.setTop (entryFrame m #[(.ref a1), (.int p2), (.int p3)] 10)) t := by
          intro t kt
          refine pre12 _ ?_
          show Steps p.tables e below (s₁.setTop (mkF m 45 #[.val (.ref a1), .val (.int p2), .val (.int p3), .val (.int ld), .val (.int (0 : Int32)), .val (.int (128 : Int32)), .val (.int (191 : Int32)), .unset, .unset, .unset] [(.int (223 : Int32)), (.int ld)])) _
          refine XS.icmpNo X0.here hx rfl (hb hby d1_45) rfl (XT.ii_gt_f hc45_13) ?_
          show Steps p.tables e below (s₁.setTop (mkF m 48 #[.val (.ref a1), .val (.int p2), .val (.int p3), .val (.int ld), .val (.int (0 : Int32)), .val (.int (128 : Int32)), .val (.int (191 : Int32)), .unset, .unset, .unset] [])) _
          refine XS.iconst X0.here hx rfl (hb hby d1_48) ?_
          show Steps p.tables e below (s₁.setTop (mkF m 49 #[.val (.ref a1), .val (.int p2), .val (.int p3), .val (.int ld), .val (.int (0 : Int32)), .val (.int (128 : Int32)), .val (.int (191 : Int32)), .unset, .unset, .unset] [(.int (2 : Int32))])) _
          refine XS.istore X0.here hx rfl (hb hby d1_49) rfl (l' := #[.val (.ref a1), .val (.int p2), .val (.int p3), .val (.int ld), .val (.int (2 : Int32)), .val (.int (128 : Int32)), .val (.int (191 : Int32)), .unset, .unset, .unset]) rfl ?_
          show Steps p.tables e below (s₁.setTop (mkF m 51 #[.val (.ref a1), .val (.int p2), .val (.int p3), .val (.int ld), .val (.int (2 : Int32)), .val (.int (128 : Int32)), .val (.int (191 : Int32)), .unset, .unset, .unset] [])) _
          refine XS.goto X0.here hx rfl (pc0 := 51) (pc' := 159) rfl (hb hby d1_51) (by decide) (by decide) ?_
          show Steps p.tables e below (s₁.setTop (mkF m 159 #[.val (.ref a1), .val (.int p2), .val (.int p3), .val (.int ld), .val (.int (2 : Int32)), .val (.int (128 : Int32)), .val (.int (191 : Int32)), .unset, .unset, .unset] [])) _
          refine XS.iload X0.here hx rfl (hb hby d1_159) rfl ?_
          show Steps p.tables e below (s₁.setTop (mkF m 161 #[.val (.ref a1), .val (.int p2), .val (.int p3), .val (.int ld), .val (.int (2 : Int32)), .val (.int (128 : Int32)), .val (.int (191 : Int32)), .unset, .unset, .unset] [(.int (2 : Int32))])) _
          refine XS.ifNo X0.here hx rfl (hb hby d1_161) rfl (XT.i0_le_f (by decide)) ?_
          show Steps p.tables e below (s₁.setTop (mkF m 164 #[.val (.ref a1), .val (.int p2), .val (.int p3), .val (.int ld), .val (.int (2 : Int32)), .val (.int (128 : Int32)), .val (.int (191 : Int32)), .unset, .unset, .unset] [])) _
          refine XS.iloadN X0.here hx rfl (hb hby d1_164) rfl ?_
          show Steps p.tables e below (s₁.setTop (mkF m 165 #[.val (.ref a1), .val (.int p2), .val (.int p3), .val (.int ld), .val (.int (2 : Int32)), .val (.int (128 : Int32)), .val (.int (191 : Int32)), .unset, .unset, .unset] [(.int p2)])) _
          refine XS.iload X0.here hx rfl (hb hby d1_165) rfl ?_
          show Steps p.tables e below (s₁.setTop (mkF m 167 #[.val (.ref a1), .val (.int p2), .val (.int p3), .val (.int ld), .val (.int (2 : Int32)), .val (.int (128 : Int32)), .val (.int (191 : Int32)), .unset, .unset, .unset] [(.int (2 : Int32)), (.int p2)])) _
          refine XS.iadd X0.here hx rfl (hb hby d1_167) rfl ?_
          show Steps p.tables e below (s₁.setTop (mkF m 168 #[.val (.ref a1), .val (.int p2), .val (.int p3), .val (.int ld), .val (.int (2 : Int32)), .val (.int (128 : Int32)), .val (.int (191 : Int32)), .unset, .unset, .unset] [(.int (p2 + (2 : Int32)))])) _
          refine XS.iloadN X0.here hx rfl (hb hby d1_168) rfl ?_
          exact kt
        by_cases hc169_74 : p3 < (p2 + (2 : Int32))
        · skip
          have pre75 : ∀ t, Steps p.tables e below (s₁.setTop (mkF m 274 #[.val (.ref a1), .val (.int p2), .val (.int p3), .val (.int ld), .val (.int (2 : Int32)), .val (.int (128 : Int32)), .val (.int (191 : Int32)), .val (.int (0 : Int32)), .val (.int (1 : Int32)), .unset] [(.int (0 : Int32))])) t → Steps p.tables e below (s₁.setTop (entryFrame m #[(.ref a1), (.int p2), (.int p3)] 10)) t := by
            intro t kt
            refine pre73 _ ?_
            show Steps p.tables e below (s₁.setTop (mkF m 169 #[.val (.ref a1), .val (.int p2), .val (.int p3), .val (.int ld), .val (.int (2 : Int32)), .val (.int (128 : Int32)), .val (.int (191 : Int32)), .unset, .unset, .unset] [(.int p3), (.int (p2 + (2 : Int32)))])) _
            refine XS.icmpYes X0.here hx rfl (pc0 := 169) (pc' := 176) rfl (hb hby d1_169) rfl (XT.ii_gt_t hc169_74) (by decide) (by decide) ?_
            show Steps p.tables e below (s₁.setTop (mkF m 176 #[.val (.ref a1), .val (.int p2), .val (.int p3), .val (.int ld), .val (.int (2 : Int32)), .val (.int (128 : Int32)), .val (.int (191 : Int32)), .unset, .unset, .unset] [])) _
            refine XS.iconst X0.here hx rfl (hb hby d1_176) ?_
            show Steps p.tables e below (s₁.setTop (mkF m 177 #[.val (.ref a1), .val (.int p2), .val (.int p3), .val (.int ld), .val (.int (2 : Int32)), .val (.int (128 : Int32)), .val (.int (191 : Int32)), .unset, .unset, .unset] [(.int (0 : Int32))])) _
            refine XS.istore X0.here hx rfl (hb hby d1_177) rfl (l' := #[.val (.ref a1), .val (.int p2), .val (.int p3), .val (.int ld), .val (.int (2 : Int32)), .val (.int (128 : Int32)), .val (.int (191 : Int32)), .val (.int (0 : Int32)), .unset, .unset]) rfl ?_
            show Steps p.tables e below (s₁.setTop (mkF m 179 #[.val (.ref a1), .val (.int p2), .val (.int p3), .val (.int ld), .val (.int (2 : Int32)), .val (.int (128 : Int32)), .val (.int (191 : Int32)), .val (.int (0 : Int32)), .unset, .unset] [])) _
            refine XS.iconst X0.here hx rfl (hb hby d1_179) ?_
            show Steps p.tables e below (s₁.setTop (mkF m 180 #[.val (.ref a1), .val (.int p2), .val (.int p3), .val (.int ld), .val (.int (2 : Int32)), .val (.int (128 : Int32)), .val (.int (191 : Int32)), .val (.int (0 : Int32)), .unset, .unset] [(.int (1 : Int32))])) _
            refine XS.istore X0.here hx rfl (hb hby d1_180) rfl (l' := #[.val (.ref a1), .val (.int p2), .val (.int p3), .val (.int ld), .val (.int (2 : Int32)), .val (.int (128 : Int32)), .val (.int (191 : Int32)), .val (.int (0 : Int32)), .val (.int (1 : Int32)), .unset]) rfl ?_
            show Steps p.tables e below (s₁.setTop (mkF m 182 #[.val (.ref a1), .val (.int p2), .val (.int p3), .val (.int ld), .val (.int (2 : Int32)), .val (.int (128 : Int32)), .val (.int (191 : Int32)), .val (.int (0 : Int32)), .val (.int (1 : Int32)), .unset] [])) _
            refine XS.iload X0.here hx rfl (hb hby d1_182) rfl ?_
            show Steps p.tables e below (s₁.setTop (mkF m 184 #[.val (.ref a1), .val (.int p2), .val (.int p3), .val (.int ld), .val (.int (2 : Int32)), .val (.int (128 : Int32)), .val (.int (191 : Int32)), .val (.int (0 : Int32)), .val (.int (1 : Int32)), .unset] [(.int (0 : Int32))])) _
            refine XS.ifYes X0.here hx rfl (pc0 := 184) (pc' := 263) rfl (hb hby d1_184) rfl (XT.i0_eq_t (by decide)) (by decide) (by decide) ?_
            show Steps p.tables e below (s₁.setTop (mkF m 263 #[.val (.ref a1), .val (.int p2), .val (.int p3), .val (.int ld), .val (.int (2 : Int32)), .val (.int (128 : Int32)), .val (.int (191 : Int32)), .val (.int (0 : Int32)), .val (.int (1 : Int32)), .unset] [])) _
            refine XS.iload X0.here hx rfl (hb hby d1_263) rfl ?_
            show Steps p.tables e below (s₁.setTop (mkF m 265 #[.val (.ref a1), .val (.int p2), .val (.int p3), .val (.int ld), .val (.int (2 : Int32)), .val (.int (128 : Int32)), .val (.int (191 : Int32)), .val (.int (0 : Int32)), .val (.int (1 : Int32)), .unset] [(.int (0 : Int32))])) _
            refine XS.ifYes X0.here hx rfl (pc0 := 265) (pc' := 273) rfl (hb hby d1_265) rfl (XT.i0_eq_t (by decide)) (by decide) (by decide) ?_
            show Steps p.tables e below (s₁.setTop (mkF m 273 #[.val (.ref a1), .val (.int p2), .val (.int p3), .val (.int ld), .val (.int (2 : Int32)), .val (.int (128 : Int32)), .val (.int (191 : Int32)), .val (.int (0 : Int32)), .val (.int (1 : Int32)), .unset] [])) _
            refine XS.iconst X0.here hx rfl (hb hby d1_273) ?_
            exact kt
          obtain ⟨fs, hr, hrun, hended, hW, hsame⟩ := X0.leave (v := some (.int (0 : Int32))) (fun h => by rw [Bd.returns] at h; cases h)
          refine ⟨_, _, pre75 _ ?_, hrun, hended, _, _, rfl, ?_, ⟨_, rfl⟩, hW, hsame.mono (by decide) (by decide)⟩
          · show Steps p.tables e below (s₁.setTop (mkF m 274 #[.val (.ref a1), .val (.int p2), .val (.int p3), .val (.int ld), .val (.int (2 : Int32)), .val (.int (128 : Int32)), .val (.int (191 : Int32)), .val (.int (0 : Int32)), .val (.int (1 : Int32)), .unset] [(.int (0 : Int32))])) _
            exact owRetI X0 hx Bd.returns (hb hby d1_274) hr
          · show Q1 Z a1 p2 p3 fb kb h0 n0 _ s₁.heap _
            rw [e0]
            exact ⟨by subst h_ld; unfold fn1; rw [if_neg hc25_4, if_neg hc38_10, if_neg hc45_13, if_pos hc169_74], N0, rfl⟩
        · skip
          have pre76 : ∀ t, Steps p.tables e below (s₁.setTop (mkF m 216 #[.val (.ref a1), .val (.int p2), .val (.int p3), .val (.int ld), .val (.int (2 : Int32)), .val (.int (128 : Int32)), .val (.int (191 : Int32)), .val (.int (1 : Int32)), .val (.int (1 : Int32)), .val (.int ((fb (kb + 1)) &&& (255 : Int32)))] [(.int (128 : Int32)), (.int ((fb (kb + 1)) &&& (255 : Int32)))])) t → Steps p.tables e below (s₁.setTop (entryFrame m #[(.ref a1), (.int p2), (.int p3)] 10)) t := by
            intro t kt
            refine pre73 _ ?_
            show Steps p.tables e below (s₁.setTop (mkF m 169 #[.val (.ref a1), .val (.int p2), .val (.int p3), .val (.int ld), .val (.int (2 : Int32)), .val (.int (128 : Int32)), .val (.int (191 : Int32)), .unset, .unset, .unset] [(.int p3), (.int (p2 + (2 : Int32)))])) _
            refine XS.icmpNo X0.here hx rfl (hb hby d1_169) rfl (XT.ii_gt_f hc169_74) ?_
            show Steps p.tables e below (s₁.setTop (mkF m 172 #[.val (.ref a1), .val (.int p2), .val (.int p3), .val (.int ld), .val (.int (2 : Int32)), .val (.int (128 : Int32)), .val (.int (191 : Int32)), .unset, .unset, .unset] [])) _
            refine XS.iconst X0.here hx rfl (hb hby d1_172) ?_
            show Steps p.tables e below (s₁.setTop (mkF m 173 #[.val (.ref a1), .val (.int p2), .val (.int p3), .val (.int ld), .val (.int (2 : Int32)), .val (.int (128 : Int32)), .val (.int (191 : Int32)), .unset, .unset, .unset] [(.int (1 : Int32))])) _
            refine XS.goto X0.here hx rfl (pc0 := 173) (pc' := 177) rfl (hb hby d1_173) (by decide) (by decide) ?_
            show Steps p.tables e below (s₁.setTop (mkF m 177 #[.val (.ref a1), .val (.int p2), .val (.int p3), .val (.int ld), .val (.int (2 : Int32)), .val (.int (128 : Int32)), .val (.int (191 : Int32)), .unset, .unset, .unset] [(.int (1 : Int32))])) _
            refine XS.istore X0.here hx rfl (hb hby d1_177) rfl (l' := #[.val (.ref a1), .val (.int p2), .val (.int p3), .val (.int ld), .val (.int (2 : Int32)), .val (.int (128 : Int32)), .val (.int (191 : Int32)), .val (.int (1 : Int32)), .unset, .unset]) rfl ?_
            show Steps p.tables e below (s₁.setTop (mkF m 179 #[.val (.ref a1), .val (.int p2), .val (.int p3), .val (.int ld), .val (.int (2 : Int32)), .val (.int (128 : Int32)), .val (.int (191 : Int32)), .val (.int (1 : Int32)), .unset, .unset] [])) _
            refine XS.iconst X0.here hx rfl (hb hby d1_179) ?_
            show Steps p.tables e below (s₁.setTop (mkF m 180 #[.val (.ref a1), .val (.int p2), .val (.int p3), .val (.int ld), .val (.int (2 : Int32)), .val (.int (128 : Int32)), .val (.int (191 : Int32)), .val (.int (1 : Int32)), .unset, .unset] [(.int (1 : Int32))])) _
            refine XS.istore X0.here hx rfl (hb hby d1_180) rfl (l' := #[.val (.ref a1), .val (.int p2), .val (.int p3), .val (.int ld), .val (.int (2 : Int32)), .val (.int (128 : Int32)), .val (.int (191 : Int32)), .val (.int (1 : Int32)), .val (.int (1 : Int32)), .unset]) rfl ?_
            show Steps p.tables e below (s₁.setTop (mkF m 182 #[.val (.ref a1), .val (.int p2), .val (.int p3), .val (.int ld), .val (.int (2 : Int32)), .val (.int (128 : Int32)), .val (.int (191 : Int32)), .val (.int (1 : Int32)), .val (.int (1 : Int32)), .unset] [])) _
            refine XS.iload X0.here hx rfl (hb hby d1_182) rfl ?_
            show Steps p.tables e below (s₁.setTop (mkF m 184 #[.val (.ref a1), .val (.int p2), .val (.int p3), .val (.int ld), .val (.int (2 : Int32)), .val (.int (128 : Int32)), .val (.int (191 : Int32)), .val (.int (1 : Int32)), .val (.int (1 : Int32)), .unset] [(.int (1 : Int32))])) _
            refine XS.ifNo X0.here hx rfl (hb hby d1_184) rfl (XT.i0_eq_f (by decide)) ?_
            show Steps p.tables e below (s₁.setTop (mkF m 187 #[.val (.ref a1), .val (.int p2), .val (.int p3), .val (.int ld), .val (.int (2 : Int32)), .val (.int (128 : Int32)), .val (.int (191 : Int32)), .val (.int (1 : Int32)), .val (.int (1 : Int32)), .unset] [])) _
            refine XS.iload X0.here hx rfl (hb hby d1_187) rfl ?_
            show Steps p.tables e below (s₁.setTop (mkF m 189 #[.val (.ref a1), .val (.int p2), .val (.int p3), .val (.int ld), .val (.int (2 : Int32)), .val (.int (128 : Int32)), .val (.int (191 : Int32)), .val (.int (1 : Int32)), .val (.int (1 : Int32)), .unset] [(.int (1 : Int32))])) _
            refine XS.iload X0.here hx rfl (hb hby d1_189) rfl ?_
            show Steps p.tables e below (s₁.setTop (mkF m 191 #[.val (.ref a1), .val (.int p2), .val (.int p3), .val (.int ld), .val (.int (2 : Int32)), .val (.int (128 : Int32)), .val (.int (191 : Int32)), .val (.int (1 : Int32)), .val (.int (1 : Int32)), .unset] [(.int (2 : Int32)), (.int (1 : Int32))])) _
            refine XS.icmpNo X0.here hx rfl (hb hby d1_191) rfl (XT.ii_ge_f (by decide)) ?_
            show Steps p.tables e below (s₁.setTop (mkF m 194 #[.val (.ref a1), .val (.int p2), .val (.int p3), .val (.int ld), .val (.int (2 : Int32)), .val (.int (128 : Int32)), .val (.int (191 : Int32)), .val (.int (1 : Int32)), .val (.int (1 : Int32)), .unset] [])) _
            refine XS.aloadN X0.here hx rfl (hb hby d1_194) rfl rfl ?_
            show Steps p.tables e below (s₁.setTop (mkF m 195 #[.val (.ref a1), .val (.int p2), .val (.int p3), .val (.int ld), .val (.int (2 : Int32)), .val (.int (128 : Int32)), .val (.int (191 : Int32)), .val (.int (1 : Int32)), .val (.int (1 : Int32)), .unset] [(.ref a1)])) _
            refine XS.iloadN X0.here hx rfl (hb hby d1_195) rfl ?_
            show Steps p.tables e below (s₁.setTop (mkF m 196 #[.val (.ref a1), .val (.int p2), .val (.int p3), .val (.int ld), .val (.int (2 : Int32)), .val (.int (128 : Int32)), .val (.int (191 : Int32)), .val (.int (1 : Int32)), .val (.int (1 : Int32)), .unset] [(.int p2), (.ref a1)])) _
            refine XS.iload X0.here hx rfl (hb hby d1_196) rfl ?_
            show Steps p.tables e below (s₁.setTop (mkF m 198 #[.val (.ref a1), .val (.int p2), .val (.int p3), .val (.int ld), .val (.int (2 : Int32)), .val (.int (128 : Int32)), .val (.int (191 : Int32)), .val (.int (1 : Int32)), .val (.int (1 : Int32)), .unset] [(.int (1 : Int32)), (.int p2), (.ref a1)])) _
            refine XS.iadd X0.here hx rfl (hb hby d1_198) rfl ?_
            show Steps p.tables e below (s₁.setTop (mkF m 199 #[.val (.ref a1), .val (.int p2), .val (.int p3), .val (.int ld), .val (.int (2 : Int32)), .val (.int (128 : Int32)), .val (.int (191 : Int32)), .val (.int (1 : Int32)), .val (.int (1 : Int32)), .unset] [(.int (p2 + (1 : Int32))), (.ref a1)])) _
            refine owLdB (k := (kb + 1)) X0 hx hZ e0 A_ab (j := (p2 + (1 : Int32))) (own_ix (1 : Int32) 1 hkb hk1 rfl (by decide)) (by omega) (g := (mkF m 199 #[.val (.ref a1), .val (.int p2), .val (.int p3), .val (.int ld), .val (.int (2 : Int32)), .val (.int (128 : Int32)), .val (.int (191 : Int32)), .val (.int (1 : Int32)), .val (.int (1 : Int32)), .unset] [(.int (p2 + (1 : Int32))), (.ref a1)])) rfl rfl (hb hby d1_199) _ ?_
            show Steps p.tables e below (s₁.setTop (mkF m 200 #[.val (.ref a1), .val (.int p2), .val (.int p3), .val (.int ld), .val (.int (2 : Int32)), .val (.int (128 : Int32)), .val (.int (191 : Int32)), .val (.int (1 : Int32)), .val (.int (1 : Int32)), .unset] [(.int (fb (kb + 1)))])) _
            refine XS.sipush X0.here hx rfl (hb hby d1_200) ?_
            show Steps p.tables e below (s₁.setTop (mkF m 203 #[.val (.ref a1), .val (.int p2), .val (.int p3), .val (.int ld), .val (.int (2 : Int32)), .val (.int (128 : Int32)), .val (.int (191 : Int32)), .val (.int (1 : Int32)), .val (.int (1 : Int32)), .unset] [(.int (255 : Int32)), (.int (fb (kb + 1)))])) _
            refine XS.iand X0.here hx rfl (hb hby d1_203) rfl ?_
            show Steps p.tables e below (s₁.setTop (mkF m 204 #[.val (.ref a1), .val (.int p2), .val (.int p3), .val (.int ld), .val (.int (2 : Int32)), .val (.int (128 : Int32)), .val (.int (191 : Int32)), .val (.int (1 : Int32)), .val (.int (1 : Int32)), .unset] [(.int ((fb (kb + 1)) &&& (255 : Int32)))])) _
            refine XS.istore X0.here hx rfl (hb hby d1_204) rfl (l' := #[.val (.ref a1), .val (.int p2), .val (.int p3), .val (.int ld), .val (.int (2 : Int32)), .val (.int (128 : Int32)), .val (.int (191 : Int32)), .val (.int (1 : Int32)), .val (.int (1 : Int32)), .val (.int ((fb (kb + 1)) &&& (255 : Int32)))]) rfl ?_
            show Steps p.tables e below (s₁.setTop (mkF m 206 #[.val (.ref a1), .val (.int p2), .val (.int p3), .val (.int ld), .val (.int (2 : Int32)), .val (.int (128 : Int32)), .val (.int (191 : Int32)), .val (.int (1 : Int32)), .val (.int (1 : Int32)), .val (.int ((fb (kb + 1)) &&& (255 : Int32)))] [])) _
            refine XS.iload X0.here hx rfl (hb hby d1_206) rfl ?_
            show Steps p.tables e below (s₁.setTop (mkF m 208 #[.val (.ref a1), .val (.int p2), .val (.int p3), .val (.int ld), .val (.int (2 : Int32)), .val (.int (128 : Int32)), .val (.int (191 : Int32)), .val (.int (1 : Int32)), .val (.int (1 : Int32)), .val (.int ((fb (kb + 1)) &&& (255 : Int32)))] [(.int (1 : Int32))])) _
            refine XS.iconst X0.here hx rfl (hb hby d1_208) ?_
            show Steps p.tables e below (s₁.setTop (mkF m 209 #[.val (.ref a1), .val (.int p2), .val (.int p3), .val (.int ld), .val (.int (2 : Int32)), .val (.int (128 : Int32)), .val (.int (191 : Int32)), .val (.int (1 : Int32)), .val (.int (1 : Int32)), .val (.int ((fb (kb + 1)) &&& (255 : Int32)))] [(.int (1 : Int32)), (.int (1 : Int32))])) _
            refine XS.icmpNo X0.here hx rfl (hb hby d1_209) rfl (XT.ii_ne_f (by decide)) ?_
            show Steps p.tables e below (s₁.setTop (mkF m 212 #[.val (.ref a1), .val (.int p2), .val (.int p3), .val (.int ld), .val (.int (2 : Int32)), .val (.int (128 : Int32)), .val (.int (191 : Int32)), .val (.int (1 : Int32)), .val (.int (1 : Int32)), .val (.int ((fb (kb + 1)) &&& (255 : Int32)))] [])) _
            refine XS.iload X0.here hx rfl (hb hby d1_212) rfl ?_
            show Steps p.tables e below (s₁.setTop (mkF m 214 #[.val (.ref a1), .val (.int p2), .val (.int p3), .val (.int ld), .val (.int (2 : Int32)), .val (.int (128 : Int32)), .val (.int (191 : Int32)), .val (.int (1 : Int32)), .val (.int (1 : Int32)), .val (.int ((fb (kb + 1)) &&& (255 : Int32)))] [(.int ((fb (kb + 1)) &&& (255 : Int32)))])) _
            refine XS.iload X0.here hx rfl (hb hby d1_214) rfl ?_
            exact kt
          by_cases hc216_77 : ((fb (kb + 1)) &&& (255 : Int32)) < (128 : Int32)
          · skip
            have pre78 : ∀ t, Steps p.tables e below (s₁.setTop (mkF m 274 #[.val (.ref a1), .val (.int p2), .val (.int p3), .val (.int ld), .val (.int (2 : Int32)), .val (.int (128 : Int32)), .val (.int (191 : Int32)), .val (.int (0 : Int32)), .val (.int (2 : Int32)), .val (.int ((fb (kb + 1)) &&& (255 : Int32)))] [(.int (0 : Int32))])) t → Steps p.tables e below (s₁.setTop (entryFrame m #[(.ref a1), (.int p2), (.int p3)] 10)) t := by
              intro t kt
              refine pre76 _ ?_
              show Steps p.tables e below (s₁.setTop (mkF m 216 #[.val (.ref a1), .val (.int p2), .val (.int p3), .val (.int ld), .val (.int (2 : Int32)), .val (.int (128 : Int32)), .val (.int (191 : Int32)), .val (.int (1 : Int32)), .val (.int (1 : Int32)), .val (.int ((fb (kb + 1)) &&& (255 : Int32)))] [(.int (128 : Int32)), (.int ((fb (kb + 1)) &&& (255 : Int32)))])) _
              refine XS.icmpYes X0.here hx rfl (pc0 := 216) (pc' := 230) rfl (hb hby d1_216) rfl (XT.ii_lt_t hc216_77) (by decide) (by decide) ?_
              show Steps p.tables e below (s₁.setTop (mkF m 230 #[.val (.ref a1), .val (.int p2), .val (.int p3), .val (.int ld), .val (.int (2 : Int32)), .val (.int (128 : Int32)), .val (.int (191 : Int32)), .val (.int (1 : Int32)), .val (.int (1 : Int32)), .val (.int ((fb (kb + 1)) &&& (255 : Int32)))] [])) _
              refine XS.iconst X0.here hx rfl (hb hby d1_230) ?_
              show Steps p.tables e below (s₁.setTop (mkF m 231 #[.val (.ref a1), .val (.int p2), .val (.int p3), .val (.int ld), .val (.int (2 : Int32)), .val (.int (128 : Int32)), .val (.int (191 : Int32)), .val (.int (1 : Int32)), .val (.int (1 : Int32)), .val (.int ((fb (kb + 1)) &&& (255 : Int32)))] [(.int (0 : Int32))])) _
              refine XS.goto X0.here hx rfl (pc0 := 231) (pc' := 255) rfl (hb hby d1_231) (by decide) (by decide) ?_
              show Steps p.tables e below (s₁.setTop (mkF m 255 #[.val (.ref a1), .val (.int p2), .val (.int p3), .val (.int ld), .val (.int (2 : Int32)), .val (.int (128 : Int32)), .val (.int (191 : Int32)), .val (.int (1 : Int32)), .val (.int (1 : Int32)), .val (.int ((fb (kb + 1)) &&& (255 : Int32)))] [(.int (0 : Int32))])) _
              refine XS.istore X0.here hx rfl (hb hby d1_255) rfl (l' := #[.val (.ref a1), .val (.int p2), .val (.int p3), .val (.int ld), .val (.int (2 : Int32)), .val (.int (128 : Int32)), .val (.int (191 : Int32)), .val (.int (0 : Int32)), .val (.int (1 : Int32)), .val (.int ((fb (kb + 1)) &&& (255 : Int32)))]) rfl ?_
              show Steps p.tables e below (s₁.setTop (mkF m 257 #[.val (.ref a1), .val (.int p2), .val (.int p3), .val (.int ld), .val (.int (2 : Int32)), .val (.int (128 : Int32)), .val (.int (191 : Int32)), .val (.int (0 : Int32)), .val (.int (1 : Int32)), .val (.int ((fb (kb + 1)) &&& (255 : Int32)))] [])) _
              refine XS.iinc X0.here hx rfl (hb hby d1_257) rfl (l' := #[.val (.ref a1), .val (.int p2), .val (.int p3), .val (.int ld), .val (.int (2 : Int32)), .val (.int (128 : Int32)), .val (.int (191 : Int32)), .val (.int (0 : Int32)), .val (.int (2 : Int32)), .val (.int ((fb (kb + 1)) &&& (255 : Int32)))]) rfl ?_
              show Steps p.tables e below (s₁.setTop (mkF m 260 #[.val (.ref a1), .val (.int p2), .val (.int p3), .val (.int ld), .val (.int (2 : Int32)), .val (.int (128 : Int32)), .val (.int (191 : Int32)), .val (.int (0 : Int32)), .val (.int (2 : Int32)), .val (.int ((fb (kb + 1)) &&& (255 : Int32)))] [])) _
              refine XS.goto X0.here hx rfl (pc0 := 260) (pc' := 182) rfl (hb hby d1_260) (by decide) (by decide) ?_
              show Steps p.tables e below (s₁.setTop (mkF m 182 #[.val (.ref a1), .val (.int p2), .val (.int p3), .val (.int ld), .val (.int (2 : Int32)), .val (.int (128 : Int32)), .val (.int (191 : Int32)), .val (.int (0 : Int32)), .val (.int (2 : Int32)), .val (.int ((fb (kb + 1)) &&& (255 : Int32)))] [])) _
              refine XS.iload X0.here hx rfl (hb hby d1_182) rfl ?_
              show Steps p.tables e below (s₁.setTop (mkF m 184 #[.val (.ref a1), .val (.int p2), .val (.int p3), .val (.int ld), .val (.int (2 : Int32)), .val (.int (128 : Int32)), .val (.int (191 : Int32)), .val (.int (0 : Int32)), .val (.int (2 : Int32)), .val (.int ((fb (kb + 1)) &&& (255 : Int32)))] [(.int (0 : Int32))])) _
              refine XS.ifYes X0.here hx rfl (pc0 := 184) (pc' := 263) rfl (hb hby d1_184) rfl (XT.i0_eq_t (by decide)) (by decide) (by decide) ?_
              show Steps p.tables e below (s₁.setTop (mkF m 263 #[.val (.ref a1), .val (.int p2), .val (.int p3), .val (.int ld), .val (.int (2 : Int32)), .val (.int (128 : Int32)), .val (.int (191 : Int32)), .val (.int (0 : Int32)), .val (.int (2 : Int32)), .val (.int ((fb (kb + 1)) &&& (255 : Int32)))] [])) _
              refine XS.iload X0.here hx rfl (hb hby d1_263) rfl ?_
              show Steps p.tables e below (s₁.setTop (mkF m 265 #[.val (.ref a1), .val (.int p2), .val (.int p3), .val (.int ld), .val (.int (2 : Int32)), .val (.int (128 : Int32)), .val (.int (191 : Int32)), .val (.int (0 : Int32)), .val (.int (2 : Int32)), .val (.int ((fb (kb + 1)) &&& (255 : Int32)))] [(.int (0 : Int32))])) _
              refine XS.ifYes X0.here hx rfl (pc0 := 265) (pc' := 273) rfl (hb hby d1_265) rfl (XT.i0_eq_t (by decide)) (by decide) (by decide) ?_
              show Steps p.tables e below (s₁.setTop (mkF m 273 #[.val (.ref a1), .val (.int p2), .val (.int p3), .val (.int ld), .val (.int (2 : Int32)), .val (.int (128 : Int32)), .val (.int (191 : Int32)), .val (.int (0 : Int32)), .val (.int (2 : Int32)), .val (.int ((fb (kb + 1)) &&& (255 : Int32)))] [])) _
              refine XS.iconst X0.here hx rfl (hb hby d1_273) ?_
              exact kt
            obtain ⟨fs, hr, hrun, hended, hW, hsame⟩ := X0.leave (v := some (.int (0 : Int32))) (fun h => by rw [Bd.returns] at h; cases h)
            refine ⟨_, _, pre78 _ ?_, hrun, hended, _, _, rfl, ?_, ⟨_, rfl⟩, hW, hsame.mono (by decide) (by decide)⟩
            · show Steps p.tables e below (s₁.setTop (mkF m 274 #[.val (.ref a1), .val (.int p2), .val (.int p3), .val (.int ld), .val (.int (2 : Int32)), .val (.int (128 : Int32)), .val (.int (191 : Int32)), .val (.int (0 : Int32)), .val (.int (2 : Int32)), .val (.int ((fb (kb + 1)) &&& (255 : Int32)))] [(.int (0 : Int32))])) _
              exact owRetI X0 hx Bd.returns (hb hby d1_274) hr
            · show Q1 Z a1 p2 p3 fb kb h0 n0 _ s₁.heap _
              rw [e0]
              exact ⟨by subst h_ld; unfold fn1; rw [if_neg hc25_4, if_neg hc38_10, if_neg hc45_13, if_neg hc169_74, if_pos hc216_77], N0, rfl⟩
          · skip
            have pre79 : ∀ t, Steps p.tables e below (s₁.setTop (mkF m 223 #[.val (.ref a1), .val (.int p2), .val (.int p3), .val (.int ld), .val (.int (2 : Int32)), .val (.int (128 : Int32)), .val (.int (191 : Int32)), .val (.int (1 : Int32)), .val (.int (1 : Int32)), .val (.int ((fb (kb + 1)) &&& (255 : Int32)))] [(.int (191 : Int32)), (.int ((fb (kb + 1)) &&& (255 : Int32)))])) t → Steps p.tables e below (s₁.setTop (entryFrame m #[(.ref a1), (.int p2), (.int p3)] 10)) t := by
              intro t kt
              refine pre76 _ ?_
              show Steps p.tables e below (s₁.setTop (mkF m 216 #[.val (.ref a1), .val (.int p2), .val (.int p3), .val (.int ld), .val (.int (2 : Int32)), .val (.int (128 : Int32)), .val (.int (191 : Int32)), .val (.int (1 : Int32)), .val (.int (1 : Int32)), .val (.int ((fb (kb + 1)) &&& (255 : Int32)))] [(.int (128 : Int32)), (.int ((fb (kb + 1)) &&& (255 : Int32)))])) _
              refine XS.icmpNo X0.here hx rfl (hb hby d1_216) rfl (XT.ii_lt_f hc216_77) ?_
              show Steps p.tables e below (s₁.setTop (mkF m 219 #[.val (.ref a1), .val (.int p2), .val (.int p3), .val (.int ld), .val (.int (2 : Int32)), .val (.int (128 : Int32)), .val (.int (191 : Int32)), .val (.int (1 : Int32)), .val (.int (1 : Int32)), .val (.int ((fb (kb + 1)) &&& (255 : Int32)))] [])) _
              refine XS.iload X0.here hx rfl (hb hby d1_219) rfl ?_
              show Steps p.tables e below (s₁.setTop (mkF m 221 #[.val (.ref a1), .val (.int p2), .val (.int p3), .val (.int ld), .val (.int (2 : Int32)), .val (.int (128 : Int32)), .val (.int (191 : Int32)), .val (.int (1 : Int32)), .val (.int (1 : Int32)), .val (.int ((fb (kb + 1)) &&& (255 : Int32)))] [(.int ((fb (kb + 1)) &&& (255 : Int32)))])) _
              refine XS.iload X0.here hx rfl (hb hby d1_221) rfl ?_
              exact kt
            by_cases hc223_80 : (191 : Int32) < ((fb (kb + 1)) &&& (255 : Int32))
            · skip
              have pre81 : ∀ t, Steps p.tables e below (s₁.setTop (mkF m 274 #[.val (.ref a1), .val (.int p2), .val (.int p3), .val (.int ld), .val (.int (2 : Int32)), .val (.int (128 : Int32)), .val (.int (191 : Int32)), .val (.int (0 : Int32)), .val (.int (2 : Int32)), .val (.int ((fb (kb + 1)) &&& (255 : Int32)))] [(.int (0 : Int32))])) t → Steps p.tables e below (s₁.setTop (entryFrame m #[(.ref a1), (.int p2), (.int p3)] 10)) t := by
                intro t kt
                refine pre79 _ ?_
                show Steps p.tables e below (s₁.setTop (mkF m 223 #[.val (.ref a1), .val (.int p2), .val (.int p3), .val (.int ld), .val (.int (2 : Int32)), .val (.int (128 : Int32)), .val (.int (191 : Int32)), .val (.int (1 : Int32)), .val (.int (1 : Int32)), .val (.int ((fb (kb + 1)) &&& (255 : Int32)))] [(.int (191 : Int32)), (.int ((fb (kb + 1)) &&& (255 : Int32)))])) _
                refine XS.icmpYes X0.here hx rfl (pc0 := 223) (pc' := 230) rfl (hb hby d1_223) rfl (XT.ii_gt_t hc223_80) (by decide) (by decide) ?_
                show Steps p.tables e below (s₁.setTop (mkF m 230 #[.val (.ref a1), .val (.int p2), .val (.int p3), .val (.int ld), .val (.int (2 : Int32)), .val (.int (128 : Int32)), .val (.int (191 : Int32)), .val (.int (1 : Int32)), .val (.int (1 : Int32)), .val (.int ((fb (kb + 1)) &&& (255 : Int32)))] [])) _
                refine XS.iconst X0.here hx rfl (hb hby d1_230) ?_
                show Steps p.tables e below (s₁.setTop (mkF m 231 #[.val (.ref a1), .val (.int p2), .val (.int p3), .val (.int ld), .val (.int (2 : Int32)), .val (.int (128 : Int32)), .val (.int (191 : Int32)), .val (.int (1 : Int32)), .val (.int (1 : Int32)), .val (.int ((fb (kb + 1)) &&& (255 : Int32)))] [(.int (0 : Int32))])) _
                refine XS.goto X0.here hx rfl (pc0 := 231) (pc' := 255) rfl (hb hby d1_231) (by decide) (by decide) ?_
                show Steps p.tables e below (s₁.setTop (mkF m 255 #[.val (.ref a1), .val (.int p2), .val (.int p3), .val (.int ld), .val (.int (2 : Int32)), .val (.int (128 : Int32)), .val (.int (191 : Int32)), .val (.int (1 : Int32)), .val (.int (1 : Int32)), .val (.int ((fb (kb + 1)) &&& (255 : Int32)))] [(.int (0 : Int32))])) _
                refine XS.istore X0.here hx rfl (hb hby d1_255) rfl (l' := #[.val (.ref a1), .val (.int p2), .val (.int p3), .val (.int ld), .val (.int (2 : Int32)), .val (.int (128 : Int32)), .val (.int (191 : Int32)), .val (.int (0 : Int32)), .val (.int (1 : Int32)), .val (.int ((fb (kb + 1)) &&& (255 : Int32)))]) rfl ?_
                show Steps p.tables e below (s₁.setTop (mkF m 257 #[.val (.ref a1), .val (.int p2), .val (.int p3), .val (.int ld), .val (.int (2 : Int32)), .val (.int (128 : Int32)), .val (.int (191 : Int32)), .val (.int (0 : Int32)), .val (.int (1 : Int32)), .val (.int ((fb (kb + 1)) &&& (255 : Int32)))] [])) _
                refine XS.iinc X0.here hx rfl (hb hby d1_257) rfl (l' := #[.val (.ref a1), .val (.int p2), .val (.int p3), .val (.int ld), .val (.int (2 : Int32)), .val (.int (128 : Int32)), .val (.int (191 : Int32)), .val (.int (0 : Int32)), .val (.int (2 : Int32)), .val (.int ((fb (kb + 1)) &&& (255 : Int32)))]) rfl ?_
                show Steps p.tables e below (s₁.setTop (mkF m 260 #[.val (.ref a1), .val (.int p2), .val (.int p3), .val (.int ld), .val (.int (2 : Int32)), .val (.int (128 : Int32)), .val (.int (191 : Int32)), .val (.int (0 : Int32)), .val (.int (2 : Int32)), .val (.int ((fb (kb + 1)) &&& (255 : Int32)))] [])) _
                refine XS.goto X0.here hx rfl (pc0 := 260) (pc' := 182) rfl (hb hby d1_260) (by decide) (by decide) ?_
                show Steps p.tables e below (s₁.setTop (mkF m 182 #[.val (.ref a1), .val (.int p2), .val (.int p3), .val (.int ld), .val (.int (2 : Int32)), .val (.int (128 : Int32)), .val (.int (191 : Int32)), .val (.int (0 : Int32)), .val (.int (2 : Int32)), .val (.int ((fb (kb + 1)) &&& (255 : Int32)))] [])) _
                refine XS.iload X0.here hx rfl (hb hby d1_182) rfl ?_
                show Steps p.tables e below (s₁.setTop (mkF m 184 #[.val (.ref a1), .val (.int p2), .val (.int p3), .val (.int ld), .val (.int (2 : Int32)), .val (.int (128 : Int32)), .val (.int (191 : Int32)), .val (.int (0 : Int32)), .val (.int (2 : Int32)), .val (.int ((fb (kb + 1)) &&& (255 : Int32)))] [(.int (0 : Int32))])) _
                refine XS.ifYes X0.here hx rfl (pc0 := 184) (pc' := 263) rfl (hb hby d1_184) rfl (XT.i0_eq_t (by decide)) (by decide) (by decide) ?_
                show Steps p.tables e below (s₁.setTop (mkF m 263 #[.val (.ref a1), .val (.int p2), .val (.int p3), .val (.int ld), .val (.int (2 : Int32)), .val (.int (128 : Int32)), .val (.int (191 : Int32)), .val (.int (0 : Int32)), .val (.int (2 : Int32)), .val (.int ((fb (kb + 1)) &&& (255 : Int32)))] [])) _
                refine XS.iload X0.here hx rfl (hb hby d1_263) rfl ?_
                show Steps p.tables e below (s₁.setTop (mkF m 265 #[.val (.ref a1), .val (.int p2), .val (.int p3), .val (.int ld), .val (.int (2 : Int32)), .val (.int (128 : Int32)), .val (.int (191 : Int32)), .val (.int (0 : Int32)), .val (.int (2 : Int32)), .val (.int ((fb (kb + 1)) &&& (255 : Int32)))] [(.int (0 : Int32))])) _
                refine XS.ifYes X0.here hx rfl (pc0 := 265) (pc' := 273) rfl (hb hby d1_265) rfl (XT.i0_eq_t (by decide)) (by decide) (by decide) ?_
                show Steps p.tables e below (s₁.setTop (mkF m 273 #[.val (.ref a1), .val (.int p2), .val (.int p3), .val (.int ld), .val (.int (2 : Int32)), .val (.int (128 : Int32)), .val (.int (191 : Int32)), .val (.int (0 : Int32)), .val (.int (2 : Int32)), .val (.int ((fb (kb + 1)) &&& (255 : Int32)))] [])) _
                refine XS.iconst X0.here hx rfl (hb hby d1_273) ?_
                exact kt
              obtain ⟨fs, hr, hrun, hended, hW, hsame⟩ := X0.leave (v := some (.int (0 : Int32))) (fun h => by rw [Bd.returns] at h; cases h)
              refine ⟨_, _, pre81 _ ?_, hrun, hended, _, _, rfl, ?_, ⟨_, rfl⟩, hW, hsame.mono (by decide) (by decide)⟩
              · show Steps p.tables e below (s₁.setTop (mkF m 274 #[.val (.ref a1), .val (.int p2), .val (.int p3), .val (.int ld), .val (.int (2 : Int32)), .val (.int (128 : Int32)), .val (.int (191 : Int32)), .val (.int (0 : Int32)), .val (.int (2 : Int32)), .val (.int ((fb (kb + 1)) &&& (255 : Int32)))] [(.int (0 : Int32))])) _
                exact owRetI X0 hx Bd.returns (hb hby d1_274) hr
              · show Q1 Z a1 p2 p3 fb kb h0 n0 _ s₁.heap _
                rw [e0]
                exact ⟨by subst h_ld; unfold fn1; rw [if_neg hc25_4, if_neg hc38_10, if_neg hc45_13, if_neg hc169_74, if_neg hc216_77, if_pos hc223_80], N0, rfl⟩
            · skip
              have pre82 : ∀ t, Steps p.tables e below (s₁.setTop (mkF m 274 #[.val (.ref a1), .val (.int p2), .val (.int p3), .val (.int ld), .val (.int (2 : Int32)), .val (.int (128 : Int32)), .val (.int (191 : Int32)), .val (.int (1 : Int32)), .val (.int (2 : Int32)), .val (.int ((fb (kb + 1)) &&& (255 : Int32)))] [(.int (2 : Int32))])) t → Steps p.tables e below (s₁.setTop (entryFrame m #[(.ref a1), (.int p2), (.int p3)] 10)) t := by
                intro t kt
                refine pre79 _ ?_
                show Steps p.tables e below (s₁.setTop (mkF m 223 #[.val (.ref a1), .val (.int p2), .val (.int p3), .val (.int ld), .val (.int (2 : Int32)), .val (.int (128 : Int32)), .val (.int (191 : Int32)), .val (.int (1 : Int32)), .val (.int (1 : Int32)), .val (.int ((fb (kb + 1)) &&& (255 : Int32)))] [(.int (191 : Int32)), (.int ((fb (kb + 1)) &&& (255 : Int32)))])) _
                refine XS.icmpNo X0.here hx rfl (hb hby d1_223) rfl (XT.ii_gt_f hc223_80) ?_
                show Steps p.tables e below (s₁.setTop (mkF m 226 #[.val (.ref a1), .val (.int p2), .val (.int p3), .val (.int ld), .val (.int (2 : Int32)), .val (.int (128 : Int32)), .val (.int (191 : Int32)), .val (.int (1 : Int32)), .val (.int (1 : Int32)), .val (.int ((fb (kb + 1)) &&& (255 : Int32)))] [])) _
                refine XS.iconst X0.here hx rfl (hb hby d1_226) ?_
                show Steps p.tables e below (s₁.setTop (mkF m 227 #[.val (.ref a1), .val (.int p2), .val (.int p3), .val (.int ld), .val (.int (2 : Int32)), .val (.int (128 : Int32)), .val (.int (191 : Int32)), .val (.int (1 : Int32)), .val (.int (1 : Int32)), .val (.int ((fb (kb + 1)) &&& (255 : Int32)))] [(.int (1 : Int32))])) _
                refine XS.goto X0.here hx rfl (pc0 := 227) (pc' := 255) rfl (hb hby d1_227) (by decide) (by decide) ?_
                show Steps p.tables e below (s₁.setTop (mkF m 255 #[.val (.ref a1), .val (.int p2), .val (.int p3), .val (.int ld), .val (.int (2 : Int32)), .val (.int (128 : Int32)), .val (.int (191 : Int32)), .val (.int (1 : Int32)), .val (.int (1 : Int32)), .val (.int ((fb (kb + 1)) &&& (255 : Int32)))] [(.int (1 : Int32))])) _
                refine XS.istore X0.here hx rfl (hb hby d1_255) rfl (l' := #[.val (.ref a1), .val (.int p2), .val (.int p3), .val (.int ld), .val (.int (2 : Int32)), .val (.int (128 : Int32)), .val (.int (191 : Int32)), .val (.int (1 : Int32)), .val (.int (1 : Int32)), .val (.int ((fb (kb + 1)) &&& (255 : Int32)))]) rfl ?_
                show Steps p.tables e below (s₁.setTop (mkF m 257 #[.val (.ref a1), .val (.int p2), .val (.int p3), .val (.int ld), .val (.int (2 : Int32)), .val (.int (128 : Int32)), .val (.int (191 : Int32)), .val (.int (1 : Int32)), .val (.int (1 : Int32)), .val (.int ((fb (kb + 1)) &&& (255 : Int32)))] [])) _
                refine XS.iinc X0.here hx rfl (hb hby d1_257) rfl (l' := #[.val (.ref a1), .val (.int p2), .val (.int p3), .val (.int ld), .val (.int (2 : Int32)), .val (.int (128 : Int32)), .val (.int (191 : Int32)), .val (.int (1 : Int32)), .val (.int (2 : Int32)), .val (.int ((fb (kb + 1)) &&& (255 : Int32)))]) rfl ?_
                show Steps p.tables e below (s₁.setTop (mkF m 260 #[.val (.ref a1), .val (.int p2), .val (.int p3), .val (.int ld), .val (.int (2 : Int32)), .val (.int (128 : Int32)), .val (.int (191 : Int32)), .val (.int (1 : Int32)), .val (.int (2 : Int32)), .val (.int ((fb (kb + 1)) &&& (255 : Int32)))] [])) _
                refine XS.goto X0.here hx rfl (pc0 := 260) (pc' := 182) rfl (hb hby d1_260) (by decide) (by decide) ?_
                show Steps p.tables e below (s₁.setTop (mkF m 182 #[.val (.ref a1), .val (.int p2), .val (.int p3), .val (.int ld), .val (.int (2 : Int32)), .val (.int (128 : Int32)), .val (.int (191 : Int32)), .val (.int (1 : Int32)), .val (.int (2 : Int32)), .val (.int ((fb (kb + 1)) &&& (255 : Int32)))] [])) _
                refine XS.iload X0.here hx rfl (hb hby d1_182) rfl ?_
                show Steps p.tables e below (s₁.setTop (mkF m 184 #[.val (.ref a1), .val (.int p2), .val (.int p3), .val (.int ld), .val (.int (2 : Int32)), .val (.int (128 : Int32)), .val (.int (191 : Int32)), .val (.int (1 : Int32)), .val (.int (2 : Int32)), .val (.int ((fb (kb + 1)) &&& (255 : Int32)))] [(.int (1 : Int32))])) _
                refine XS.ifNo X0.here hx rfl (hb hby d1_184) rfl (XT.i0_eq_f (by decide)) ?_
                show Steps p.tables e below (s₁.setTop (mkF m 187 #[.val (.ref a1), .val (.int p2), .val (.int p3), .val (.int ld), .val (.int (2 : Int32)), .val (.int (128 : Int32)), .val (.int (191 : Int32)), .val (.int (1 : Int32)), .val (.int (2 : Int32)), .val (.int ((fb (kb + 1)) &&& (255 : Int32)))] [])) _
                refine XS.iload X0.here hx rfl (hb hby d1_187) rfl ?_
                show Steps p.tables e below (s₁.setTop (mkF m 189 #[.val (.ref a1), .val (.int p2), .val (.int p3), .val (.int ld), .val (.int (2 : Int32)), .val (.int (128 : Int32)), .val (.int (191 : Int32)), .val (.int (1 : Int32)), .val (.int (2 : Int32)), .val (.int ((fb (kb + 1)) &&& (255 : Int32)))] [(.int (2 : Int32))])) _
                refine XS.iload X0.here hx rfl (hb hby d1_189) rfl ?_
                show Steps p.tables e below (s₁.setTop (mkF m 191 #[.val (.ref a1), .val (.int p2), .val (.int p3), .val (.int ld), .val (.int (2 : Int32)), .val (.int (128 : Int32)), .val (.int (191 : Int32)), .val (.int (1 : Int32)), .val (.int (2 : Int32)), .val (.int ((fb (kb + 1)) &&& (255 : Int32)))] [(.int (2 : Int32)), (.int (2 : Int32))])) _
                refine XS.icmpYes X0.here hx rfl (pc0 := 191) (pc' := 263) rfl (hb hby d1_191) rfl (XT.ii_ge_t (by decide)) (by decide) (by decide) ?_
                show Steps p.tables e below (s₁.setTop (mkF m 263 #[.val (.ref a1), .val (.int p2), .val (.int p3), .val (.int ld), .val (.int (2 : Int32)), .val (.int (128 : Int32)), .val (.int (191 : Int32)), .val (.int (1 : Int32)), .val (.int (2 : Int32)), .val (.int ((fb (kb + 1)) &&& (255 : Int32)))] [])) _
                refine XS.iload X0.here hx rfl (hb hby d1_263) rfl ?_
                show Steps p.tables e below (s₁.setTop (mkF m 265 #[.val (.ref a1), .val (.int p2), .val (.int p3), .val (.int ld), .val (.int (2 : Int32)), .val (.int (128 : Int32)), .val (.int (191 : Int32)), .val (.int (1 : Int32)), .val (.int (2 : Int32)), .val (.int ((fb (kb + 1)) &&& (255 : Int32)))] [(.int (1 : Int32))])) _
                refine XS.ifNo X0.here hx rfl (hb hby d1_265) rfl (XT.i0_eq_f (by decide)) ?_
                show Steps p.tables e below (s₁.setTop (mkF m 268 #[.val (.ref a1), .val (.int p2), .val (.int p3), .val (.int ld), .val (.int (2 : Int32)), .val (.int (128 : Int32)), .val (.int (191 : Int32)), .val (.int (1 : Int32)), .val (.int (2 : Int32)), .val (.int ((fb (kb + 1)) &&& (255 : Int32)))] [])) _
                refine XS.iload X0.here hx rfl (hb hby d1_268) rfl ?_
                show Steps p.tables e below (s₁.setTop (mkF m 270 #[.val (.ref a1), .val (.int p2), .val (.int p3), .val (.int ld), .val (.int (2 : Int32)), .val (.int (128 : Int32)), .val (.int (191 : Int32)), .val (.int (1 : Int32)), .val (.int (2 : Int32)), .val (.int ((fb (kb + 1)) &&& (255 : Int32)))] [(.int (2 : Int32))])) _
                refine XS.goto X0.here hx rfl (pc0 := 270) (pc' := 274) rfl (hb hby d1_270) (by decide) (by decide) ?_
                exact kt
              obtain ⟨fs, hr, hrun, hended, hW, hsame⟩ := X0.leave (v := some (.int (2 : Int32))) (fun h => by rw [Bd.returns] at h; cases h)
              refine ⟨_, _, pre82 _ ?_, hrun, hended, _, _, rfl, ?_, ⟨_, rfl⟩, hW, hsame.mono (by decide) (by decide)⟩
              · show Steps p.tables e below (s₁.setTop (mkF m 274 #[.val (.ref a1), .val (.int p2), .val (.int p3), .val (.int ld), .val (.int (2 : Int32)), .val (.int (128 : Int32)), .val (.int (191 : Int32)), .val (.int (1 : Int32)), .val (.int (2 : Int32)), .val (.int ((fb (kb + 1)) &&& (255 : Int32)))] [(.int (2 : Int32))])) _
                exact owRetI X0 hx Bd.returns (hb hby d1_274) hr
              · show Q1 Z a1 p2 p3 fb kb h0 n0 _ s₁.heap _
                rw [e0]
                exact ⟨by subst h_ld; unfold fn1; rw [if_neg hc25_4, if_neg hc38_10, if_neg hc45_13, if_neg hc169_74, if_neg hc216_77, if_neg hc223_80], N0, rfl⟩
theorem d3_0 : decode method_3_code 0 = .ok (.iload_n 0, 1) := by decide +kernel
theorem d3_1 : decode method_3_code 1 = .ok (.sipush 192, 3) := by decide +kernel
theorem d3_4 : decode method_3_code 4 = .ok (.iand, 1) := by decide +kernel
theorem d3_5 : decode method_3_code 5 = .ok (.sipush 128, 3) := by decide +kernel
theorem d3_8 : decode method_3_code 8 = .ok (.if_icmp .ne 7, 3) := by decide +kernel
theorem d3_11 : decode method_3_code 11 = .ok (.iconst 1, 1) := by decide +kernel
theorem d3_12 : decode method_3_code 12 = .ok (.goto 4, 3) := by decide +kernel
theorem d3_15 : decode method_3_code 15 = .ok (.iconst 0, 1) := by decide +kernel
theorem d3_16 : decode method_3_code 16 = .ok (.ireturn, 1) := by decide +kernel
theorem pn_3 : plainName "com/example/fama/fama/table/TableLinesSequenceLengthPinLaw" = true := by first | (simp [plainName, overriddenIn]; done) | decide +kernel
theorem ef_3 (m : MethodId) (x0 : Int32) : entryFrame m #[(.int x0)] 1 = mkF m 0 #[.val (.int x0)] [] := by first | (simp [entryFrame, mkF, argsToLocals, Value.category]; done) | rfl
def fn3 (p1 : Int32) : Int32 := (if (p1 &&& (192 : Int32)) = (128 : Int32) then (1 : Int32) else (0 : Int32))
def Q3 (Z : State) (p1 : Int32) (h0 : Heap) (n0 : Nat) (v : Option Value) (h : Heap) (L : List Loc) : Prop := v = some (.int (fn3 p1)) ∧ Fr n0 L ∧ h = h0
set_option maxRecDepth 65536 in
set_option maxHeartbeats 40000000 in
theorem rm3 (l : Launch) (Z : State) (a0 : Array Value) (hw : ∀ d ∈ tables_1, d.before a0 Z = true) (ws : List Jvm.Cond) (p1 : Int32) (h0 : Heap) (n0 : Nat) (Z0 : n0 ≤ h0.size) :
    MetFree l (⟨"com/example/fama/fama/table/TableLinesSequenceLengthPinLaw", "cont", "(I)Z"⟩ : MethodName) (head1 (Jvm.Cond.code (⟨"com/example/fama/fama/table/TableLinesSequenceLengthPinLaw", "cont", "(I)Z"⟩ : MethodName) method_3_code 1 (some .boolean) :: ws) ({ frames := 0, cells := 0, slots := 0, locals := 0 } : Room)) (fun a U => a = #[(.int p1)] ∧ Z.Warmed39 U.vm ∧ U.heap = h0) (fun _ _ _ _ _ => True) (fun _ U o U' => ∃ v L, o = .returned v ∧ Q3 Z p1 h0 n0 v U'.heap L ∧ FrameEnd U o U' L ({ frames := 0, cells := 0, slots := 0, locals := 0 } : Room).cells ({ frames := 0, cells := 0, slots := 0, locals := 0 } : Room).slots) := by
  refine MetFree.of_bodySF (plainFor_of_name pn_3) hisR ?_
  intro p e s m args below meth c s₁ Bd hml0 hP hK
  obtain ⟨rfl, hZ, hh⟩ := hP
  have hx := Bd.exec
  have hby := Bd.bytes
  have hml : c.maxLocals = 1 := hml0
  have hown : s.vm.findClass "com/example/fama/fama/table/TableLinesSequenceLengthPinLaw" = some m.cls := findClass_of_methodNamed Bd.named
  have hnm := (name_of_methodNamed Bd.named Bd.method).1
  have X0 : Stand p l e ({ frames := 0, cells := 0, slots := 0, locals := 0 } : Room) s m #[(.int p1)] below meth c s₁ [] 0 0 := Stand.of_body Bd
  have e0 : s₁.heap = h0 := by rw [← hh, Bd.state]; rfl
  have N0 := Fr.nil n0
  have pre0 : ∀ t, Steps p.tables e below (s₁.setTop (mkF m 0 #[.val (.int p1)] [])) t → Steps p.tables e below (s₁.setTop (entryFrame m #[(.int p1)] 1)) t := fun t k => castTop (ef_3 m p1) k
  have pre1 : ∀ t, Steps p.tables e below (s₁.setTop (mkF m 8 #[.val (.int p1)] [(.int (128 : Int32)), (.int (p1 &&& (192 : Int32)))])) t → Steps p.tables e below (s₁.setTop (entryFrame m #[(.int p1)] 1)) t := by
    intro t kt
    refine pre0 _ ?_
    show Steps p.tables e below (s₁.setTop (mkF m 0 #[.val (.int p1)] [])) _
    refine XS.iloadN X0.here hx rfl (hb hby d3_0) rfl ?_
    show Steps p.tables e below (s₁.setTop (mkF m 1 #[.val (.int p1)] [(.int p1)])) _
    refine XS.sipush X0.here hx rfl (hb hby d3_1) ?_
    show Steps p.tables e below (s₁.setTop (mkF m 4 #[.val (.int p1)] [(.int (192 : Int32)), (.int p1)])) _
    refine XS.iand X0.here hx rfl (hb hby d3_4) rfl ?_
    show Steps p.tables e below (s₁.setTop (mkF m 5 #[.val (.int p1)] [(.int (p1 &&& (192 : Int32)))])) _
    refine XS.sipush X0.here hx rfl (hb hby d3_5) ?_
    exact kt
  by_cases hc8_2 : (p1 &&& (192 : Int32)) = (128 : Int32)
  · skip
    have pre3 : ∀ t, Steps p.tables e below (s₁.setTop (mkF m 16 #[.val (.int p1)] [(.int (1 : Int32))])) t → Steps p.tables e below (s₁.setTop (entryFrame m #[(.int p1)] 1)) t := by
      intro t kt
      refine pre1 _ ?_
      show Steps p.tables e below (s₁.setTop (mkF m 8 #[.val (.int p1)] [(.int (128 : Int32)), (.int (p1 &&& (192 : Int32)))])) _
      refine XS.icmpNo X0.here hx rfl (hb hby d3_8) rfl (XT.ii_ne_f hc8_2) ?_
      show Steps p.tables e below (s₁.setTop (mkF m 11 #[.val (.int p1)] [])) _
      refine XS.iconst X0.here hx rfl (hb hby d3_11) ?_
      show Steps p.tables e below (s₁.setTop (mkF m 12 #[.val (.int p1)] [(.int (1 : Int32))])) _
      refine XS.goto X0.here hx rfl (pc0 := 12) (pc' := 16) rfl (hb hby d3_12) (by decide) (by decide) ?_
      exact kt
    obtain ⟨fs, hr, hrun, hended, hW, hsame⟩ := X0.leave (v := some (.int (1 : Int32))) (fun h => by rw [Bd.returns] at h; cases h)
    refine ⟨_, _, pre3 _ ?_, hrun, hended, _, _, rfl, ?_, ⟨_, rfl⟩, hW, hsame.mono (by decide) (by decide)⟩
    · show Steps p.tables e below (s₁.setTop (mkF m 16 #[.val (.int p1)] [(.int (1 : Int32))])) _
      exact retN X0 hx (t := .boolean) Bd.returns (by simp) (hb hby d3_16) hr
    · show Q3 Z p1 h0 n0 _ s₁.heap _
      rw [e0]
      exact ⟨by unfold fn3; rw [if_pos hc8_2], N0, rfl⟩
  · skip
    have pre4 : ∀ t, Steps p.tables e below (s₁.setTop (mkF m 16 #[.val (.int p1)] [(.int (0 : Int32))])) t → Steps p.tables e below (s₁.setTop (entryFrame m #[(.int p1)] 1)) t := by
      intro t kt
      refine pre1 _ ?_
      show Steps p.tables e below (s₁.setTop (mkF m 8 #[.val (.int p1)] [(.int (128 : Int32)), (.int (p1 &&& (192 : Int32)))])) _
      refine XS.icmpYes X0.here hx rfl (pc0 := 8) (pc' := 15) rfl (hb hby d3_8) rfl (XT.ii_ne_t hc8_2) (by decide) (by decide) ?_
      show Steps p.tables e below (s₁.setTop (mkF m 15 #[.val (.int p1)] [])) _
      refine XS.iconst X0.here hx rfl (hb hby d3_15) ?_
      exact kt
    obtain ⟨fs, hr, hrun, hended, hW, hsame⟩ := X0.leave (v := some (.int (0 : Int32))) (fun h => by rw [Bd.returns] at h; cases h)
    refine ⟨_, _, pre4 _ ?_, hrun, hended, _, _, rfl, ?_, ⟨_, rfl⟩, hW, hsame.mono (by decide) (by decide)⟩
    · show Steps p.tables e below (s₁.setTop (mkF m 16 #[.val (.int p1)] [(.int (0 : Int32))])) _
      exact retN X0 hx (t := .boolean) Bd.returns (by simp) (hb hby d3_16) hr
    · show Q3 Z p1 h0 n0 _ s₁.heap _
      rw [e0]
      exact ⟨by unfold fn3; rw [if_neg hc8_2], N0, rfl⟩
theorem d2_0 : decode method_4_code 0 = .ok (.iload_n 0, 1) := by decide +kernel
theorem d2_1 : decode method_4_code 1 = .ok (.sipush 128, 3) := by decide +kernel
theorem d2_4 : decode method_4_code 4 = .ok (.if_icmp .ge 9, 3) := by decide +kernel
theorem d2_7 : decode method_4_code 7 = .ok (.iconst 1, 1) := by decide +kernel
theorem d2_8 : decode method_4_code 8 = .ok (.istore 5, 2) := by decide +kernel
theorem d2_10 : decode method_4_code 10 = .ok (.goto 56, 3) := by decide +kernel
theorem d2_13 : decode method_4_code 13 = .ok (.iload_n 0, 1) := by decide +kernel
theorem d2_14 : decode method_4_code 14 = .ok (.sipush 224, 3) := by decide +kernel
theorem d2_17 : decode method_4_code 17 = .ok (.iand, 1) := by decide +kernel
theorem d2_18 : decode method_4_code 18 = .ok (.sipush 192, 3) := by decide +kernel
theorem d2_21 : decode method_4_code 21 = .ok (.if_icmp .ne 9, 3) := by decide +kernel
theorem d2_24 : decode method_4_code 24 = .ok (.iconst 2, 1) := by decide +kernel
theorem d2_25 : decode method_4_code 25 = .ok (.istore 5, 2) := by decide +kernel
theorem d2_27 : decode method_4_code 27 = .ok (.goto 39, 3) := by decide +kernel
theorem d2_30 : decode method_4_code 30 = .ok (.iload_n 0, 1) := by decide +kernel
theorem d2_31 : decode method_4_code 31 = .ok (.sipush 240, 3) := by decide +kernel
theorem d2_34 : decode method_4_code 34 = .ok (.iand, 1) := by decide +kernel
theorem d2_35 : decode method_4_code 35 = .ok (.sipush 224, 3) := by decide +kernel
theorem d2_38 : decode method_4_code 38 = .ok (.if_icmp .ne 9, 3) := by decide +kernel
theorem d2_41 : decode method_4_code 41 = .ok (.iconst 3, 1) := by decide +kernel
theorem d2_42 : decode method_4_code 42 = .ok (.istore 5, 2) := by decide +kernel
theorem d2_44 : decode method_4_code 44 = .ok (.goto 22, 3) := by decide +kernel
theorem d2_47 : decode method_4_code 47 = .ok (.iload_n 0, 1) := by decide +kernel
theorem d2_48 : decode method_4_code 48 = .ok (.sipush 248, 3) := by decide +kernel
theorem d2_51 : decode method_4_code 51 = .ok (.iand, 1) := by decide +kernel
theorem d2_52 : decode method_4_code 52 = .ok (.sipush 240, 3) := by decide +kernel
theorem d2_55 : decode method_4_code 55 = .ok (.if_icmp .ne 9, 3) := by decide +kernel
theorem d2_58 : decode method_4_code 58 = .ok (.iconst 4, 1) := by decide +kernel
theorem d2_59 : decode method_4_code 59 = .ok (.istore 5, 2) := by decide +kernel
theorem d2_61 : decode method_4_code 61 = .ok (.goto 5, 3) := by decide +kernel
theorem d2_64 : decode method_4_code 64 = .ok (.iconst 0, 1) := by decide +kernel
theorem d2_65 : decode method_4_code 65 = .ok (.ireturn, 1) := by decide +kernel
theorem d2_66 : decode method_4_code 66 = .ok (.iload 5, 2) := by decide +kernel
theorem d2_68 : decode method_4_code 68 = .ok (.iload 4, 2) := by decide +kernel
theorem d2_70 : decode method_4_code 70 = .ok (.if_icmp .le 5, 3) := by decide +kernel
theorem d2_73 : decode method_4_code 73 = .ok (.iconst 0, 1) := by decide +kernel
theorem d2_74 : decode method_4_code 74 = .ok (.ireturn, 1) := by decide +kernel
theorem d2_75 : decode method_4_code 75 = .ok (.iload 5, 2) := by decide +kernel
theorem d2_77 : decode method_4_code 77 = .ok (.iconst 1, 1) := by decide +kernel
theorem d2_78 : decode method_4_code 78 = .ok (.if_icmp .ne 5, 3) := by decide +kernel
theorem d2_81 : decode method_4_code 81 = .ok (.iconst 1, 1) := by decide +kernel
theorem d2_82 : decode method_4_code 82 = .ok (.ireturn, 1) := by decide +kernel
theorem d2_83 : decode method_4_code 83 = .ok (.iload_n 1, 1) := by decide +kernel
theorem d2_84 : decode method_4_code 84 = .ok (.invokestatic 20, 3) := by decide +kernel
theorem d2_87 : decode method_4_code 87 = .ok (.ifCond .ne 5, 3) := by decide +kernel
theorem d2_90 : decode method_4_code 90 = .ok (.iconst 0, 1) := by decide +kernel
theorem d2_91 : decode method_4_code 91 = .ok (.ireturn, 1) := by decide +kernel
theorem d2_92 : decode method_4_code 92 = .ok (.iload 5, 2) := by decide +kernel
theorem d2_94 : decode method_4_code 94 = .ok (.iconst 3, 1) := by decide +kernel
theorem d2_95 : decode method_4_code 95 = .ok (.if_icmp .lt 12, 3) := by decide +kernel
theorem d2_98 : decode method_4_code 98 = .ok (.iload_n 2, 1) := by decide +kernel
theorem d2_99 : decode method_4_code 99 = .ok (.invokestatic 20, 3) := by decide +kernel
theorem d2_102 : decode method_4_code 102 = .ok (.ifCond .ne 5, 3) := by decide +kernel
theorem d2_105 : decode method_4_code 105 = .ok (.iconst 0, 1) := by decide +kernel
theorem d2_106 : decode method_4_code 106 = .ok (.ireturn, 1) := by decide +kernel
theorem d2_107 : decode method_4_code 107 = .ok (.iload 5, 2) := by decide +kernel
theorem d2_109 : decode method_4_code 109 = .ok (.iconst 4, 1) := by decide +kernel
theorem d2_110 : decode method_4_code 110 = .ok (.if_icmp .ne 12, 3) := by decide +kernel
theorem d2_113 : decode method_4_code 113 = .ok (.iload_n 3, 1) := by decide +kernel
theorem d2_114 : decode method_4_code 114 = .ok (.invokestatic 20, 3) := by decide +kernel
theorem d2_117 : decode method_4_code 117 = .ok (.ifCond .ne 5, 3) := by decide +kernel
theorem d2_120 : decode method_4_code 120 = .ok (.iconst 0, 1) := by decide +kernel
theorem d2_121 : decode method_4_code 121 = .ok (.ireturn, 1) := by decide +kernel
theorem d2_122 : decode method_4_code 122 = .ok (.iload 5, 2) := by decide +kernel
theorem d2_124 : decode method_4_code 124 = .ok (.iconst 2, 1) := by decide +kernel
theorem d2_125 : decode method_4_code 125 = .ok (.if_icmp .ne 25, 3) := by decide +kernel
theorem d2_128 : decode method_4_code 128 = .ok (.iload_n 0, 1) := by decide +kernel
theorem d2_129 : decode method_4_code 129 = .ok (.bipush 31, 2) := by decide +kernel
theorem d2_131 : decode method_4_code 131 = .ok (.iand, 1) := by decide +kernel
theorem d2_132 : decode method_4_code 132 = .ok (.bipush 6, 2) := by decide +kernel
theorem d2_134 : decode method_4_code 134 = .ok (.ishl, 1) := by decide +kernel
theorem d2_135 : decode method_4_code 135 = .ok (.iload_n 1, 1) := by decide +kernel
theorem d2_136 : decode method_4_code 136 = .ok (.bipush 63, 2) := by decide +kernel
theorem d2_138 : decode method_4_code 138 = .ok (.iand, 1) := by decide +kernel
theorem d2_139 : decode method_4_code 139 = .ok (.ior, 1) := by decide +kernel
theorem d2_140 : decode method_4_code 140 = .ok (.istore 6, 2) := by decide +kernel
theorem d2_142 : decode method_4_code 142 = .ok (.sipush 128, 3) := by decide +kernel
theorem d2_145 : decode method_4_code 145 = .ok (.istore 7, 2) := by decide +kernel
theorem d2_147 : decode method_4_code 147 = .ok (.goto 73, 3) := by decide +kernel
theorem d2_150 : decode method_4_code 150 = .ok (.iload 5, 2) := by decide +kernel
theorem d2_152 : decode method_4_code 152 = .ok (.iconst 3, 1) := by decide +kernel
theorem d2_153 : decode method_4_code 153 = .ok (.if_icmp .ne 33, 3) := by decide +kernel
theorem d2_156 : decode method_4_code 156 = .ok (.iload_n 0, 1) := by decide +kernel
theorem d2_157 : decode method_4_code 157 = .ok (.bipush 15, 2) := by decide +kernel
theorem d2_159 : decode method_4_code 159 = .ok (.iand, 1) := by decide +kernel
theorem d2_160 : decode method_4_code 160 = .ok (.bipush 12, 2) := by decide +kernel
theorem d2_162 : decode method_4_code 162 = .ok (.ishl, 1) := by decide +kernel
theorem d2_163 : decode method_4_code 163 = .ok (.iload_n 1, 1) := by decide +kernel
theorem d2_164 : decode method_4_code 164 = .ok (.bipush 63, 2) := by decide +kernel
theorem d2_166 : decode method_4_code 166 = .ok (.iand, 1) := by decide +kernel
theorem d2_167 : decode method_4_code 167 = .ok (.bipush 6, 2) := by decide +kernel
theorem d2_169 : decode method_4_code 169 = .ok (.ishl, 1) := by decide +kernel
theorem d2_170 : decode method_4_code 170 = .ok (.ior, 1) := by decide +kernel
theorem d2_171 : decode method_4_code 171 = .ok (.iload_n 2, 1) := by decide +kernel
theorem d2_172 : decode method_4_code 172 = .ok (.bipush 63, 2) := by decide +kernel
theorem d2_174 : decode method_4_code 174 = .ok (.iand, 1) := by decide +kernel
theorem d2_175 : decode method_4_code 175 = .ok (.ior, 1) := by decide +kernel
theorem d2_176 : decode method_4_code 176 = .ok (.istore 6, 2) := by decide +kernel
theorem d2_178 : decode method_4_code 178 = .ok (.sipush 2048, 3) := by decide +kernel
theorem d2_181 : decode method_4_code 181 = .ok (.istore 7, 2) := by decide +kernel
theorem d2_183 : decode method_4_code 183 = .ok (.goto 37, 3) := by decide +kernel
theorem d2_186 : decode method_4_code 186 = .ok (.iload_n 0, 1) := by decide +kernel
theorem d2_187 : decode method_4_code 187 = .ok (.bipush 7, 2) := by decide +kernel
theorem d2_189 : decode method_4_code 189 = .ok (.iand, 1) := by decide +kernel
theorem d2_190 : decode method_4_code 190 = .ok (.bipush 18, 2) := by decide +kernel
theorem d2_192 : decode method_4_code 192 = .ok (.ishl, 1) := by decide +kernel
theorem d2_193 : decode method_4_code 193 = .ok (.iload_n 1, 1) := by decide +kernel
theorem d2_194 : decode method_4_code 194 = .ok (.bipush 63, 2) := by decide +kernel
theorem d2_196 : decode method_4_code 196 = .ok (.iand, 1) := by decide +kernel
theorem d2_197 : decode method_4_code 197 = .ok (.bipush 12, 2) := by decide +kernel
theorem d2_199 : decode method_4_code 199 = .ok (.ishl, 1) := by decide +kernel
theorem d2_200 : decode method_4_code 200 = .ok (.ior, 1) := by decide +kernel
theorem d2_201 : decode method_4_code 201 = .ok (.iload_n 2, 1) := by decide +kernel
theorem d2_202 : decode method_4_code 202 = .ok (.bipush 63, 2) := by decide +kernel
theorem d2_204 : decode method_4_code 204 = .ok (.iand, 1) := by decide +kernel
theorem d2_205 : decode method_4_code 205 = .ok (.bipush 6, 2) := by decide +kernel
theorem d2_207 : decode method_4_code 207 = .ok (.ishl, 1) := by decide +kernel
theorem d2_208 : decode method_4_code 208 = .ok (.ior, 1) := by decide +kernel
theorem d2_209 : decode method_4_code 209 = .ok (.iload_n 3, 1) := by decide +kernel
theorem d2_210 : decode method_4_code 210 = .ok (.bipush 63, 2) := by decide +kernel
theorem d2_212 : decode method_4_code 212 = .ok (.iand, 1) := by decide +kernel
theorem d2_213 : decode method_4_code 213 = .ok (.ior, 1) := by decide +kernel
theorem d2_214 : decode method_4_code 214 = .ok (.istore 6, 2) := by decide +kernel
theorem d2_216 : decode method_4_code 216 = .ok (.ldc 24, 2) := by decide +kernel
theorem d2_218 : decode method_4_code 218 = .ok (.istore 7, 2) := by decide +kernel
theorem d2_220 : decode method_4_code 220 = .ok (.iload 6, 2) := by decide +kernel
theorem d2_222 : decode method_4_code 222 = .ok (.iload 7, 2) := by decide +kernel
theorem d2_224 : decode method_4_code 224 = .ok (.if_icmp .ge 5, 3) := by decide +kernel
theorem d2_227 : decode method_4_code 227 = .ok (.iconst 0, 1) := by decide +kernel
theorem d2_228 : decode method_4_code 228 = .ok (.ireturn, 1) := by decide +kernel
theorem d2_229 : decode method_4_code 229 = .ok (.iload 6, 2) := by decide +kernel
theorem d2_231 : decode method_4_code 231 = .ok (.ldc 25, 2) := by decide +kernel
theorem d2_233 : decode method_4_code 233 = .ok (.if_icmp .le 5, 3) := by decide +kernel
theorem d2_236 : decode method_4_code 236 = .ok (.iconst 0, 1) := by decide +kernel
theorem d2_237 : decode method_4_code 237 = .ok (.ireturn, 1) := by decide +kernel
theorem d2_238 : decode method_4_code 238 = .ok (.iload 6, 2) := by decide +kernel
theorem d2_240 : decode method_4_code 240 = .ok (.ldc 26, 2) := by decide +kernel
theorem d2_242 : decode method_4_code 242 = .ok (.if_icmp .lt 12, 3) := by decide +kernel
theorem d2_245 : decode method_4_code 245 = .ok (.iload 6, 2) := by decide +kernel
theorem d2_247 : decode method_4_code 247 = .ok (.ldc 27, 2) := by decide +kernel
theorem d2_249 : decode method_4_code 249 = .ok (.if_icmp .gt 5, 3) := by decide +kernel
theorem d2_252 : decode method_4_code 252 = .ok (.iconst 0, 1) := by decide +kernel
theorem d2_253 : decode method_4_code 253 = .ok (.ireturn, 1) := by decide +kernel
theorem d2_254 : decode method_4_code 254 = .ok (.iload 5, 2) := by decide +kernel
theorem d2_256 : decode method_4_code 256 = .ok (.ireturn, 1) := by decide +kernel
theorem pn_2 : plainName "com/example/fama/fama/table/TableLinesSequenceLengthPinLaw" = true := by first | (simp [plainName, overriddenIn]; done) | decide +kernel
theorem ef_2 (m : MethodId) (x0 : Int32) (x1 : Int32) (x2 : Int32) (x3 : Int32) (x4 : Int32) : entryFrame m #[(.int x0), (.int x1), (.int x2), (.int x3), (.int x4)] 8 = mkF m 0 #[.val (.int x0), .val (.int x1), .val (.int x2), .val (.int x3), .val (.int x4), .unset, .unset, .unset] [] := by first | (simp [entryFrame, mkF, argsToLocals, Value.category]; done) | rfl
theorem pd_0 : parseMethodDescriptor "(I)Z" = some ⟨[.int], some .boolean⟩ := by decide +kernel
def fn2 (p1 : Int32) (p2 : Int32) (p3 : Int32) (p4 : Int32) (p5 : Int32) : Int32 := (if p1 < (128 : Int32) then (if p5 < (1 : Int32) then (0 : Int32) else (1 : Int32)) else (if (p1 &&& (224 : Int32)) = (192 : Int32) then (if p5 < (2 : Int32) then (0 : Int32) else (if (fn3 p2) = (0 : Int32) then (0 : Int32) else (if (((p1 &&& (31 : Int32)) <<< ((6 : Int32) &&& 31)) ||| (p2 &&& (63 : Int32))) < (128 : Int32) then (0 : Int32) else (if (1114111 : Int32) < (((p1 &&& (31 : Int32)) <<< ((6 : Int32) &&& 31)) ||| (p2 &&& (63 : Int32))) then (0 : Int32) else (if (((p1 &&& (31 : Int32)) <<< ((6 : Int32) &&& 31)) ||| (p2 &&& (63 : Int32))) < (55296 : Int32) then (2 : Int32) else (if (57343 : Int32) < (((p1 &&& (31 : Int32)) <<< ((6 : Int32) &&& 31)) ||| (p2 &&& (63 : Int32))) then (2 : Int32) else (0 : Int32))))))) else (if (p1 &&& (240 : Int32)) = (224 : Int32) then (if p5 < (3 : Int32) then (0 : Int32) else (if (fn3 p2) = (0 : Int32) then (0 : Int32) else (if (fn3 p3) = (0 : Int32) then (0 : Int32) else (if ((((p1 &&& (15 : Int32)) <<< ((12 : Int32) &&& 31)) ||| ((p2 &&& (63 : Int32)) <<< ((6 : Int32) &&& 31))) ||| (p3 &&& (63 : Int32))) < (2048 : Int32) then (0 : Int32) else (if (1114111 : Int32) < ((((p1 &&& (15 : Int32)) <<< ((12 : Int32) &&& 31)) ||| ((p2 &&& (63 : Int32)) <<< ((6 : Int32) &&& 31))) ||| (p3 &&& (63 : Int32))) then (0 : Int32) else (if ((((p1 &&& (15 : Int32)) <<< ((12 : Int32) &&& 31)) ||| ((p2 &&& (63 : Int32)) <<< ((6 : Int32) &&& 31))) ||| (p3 &&& (63 : Int32))) < (55296 : Int32) then (3 : Int32) else (if (57343 : Int32) < ((((p1 &&& (15 : Int32)) <<< ((12 : Int32) &&& 31)) ||| ((p2 &&& (63 : Int32)) <<< ((6 : Int32) &&& 31))) ||| (p3 &&& (63 : Int32))) then (3 : Int32) else (0 : Int32)))))))) else (if (p1 &&& (248 : Int32)) = (240 : Int32) then (if p5 < (4 : Int32) then (0 : Int32) else (if (fn3 p2) = (0 : Int32) then (0 : Int32) else (if (fn3 p3) = (0 : Int32) then (0 : Int32) else (if (fn3 p4) = (0 : Int32) then (0 : Int32) else (if (((((p1 &&& (7 : Int32)) <<< ((18 : Int32) &&& 31)) ||| ((p2 &&& (63 : Int32)) <<< ((12 : Int32) &&& 31))) ||| ((p3 &&& (63 : Int32)) <<< ((6 : Int32) &&& 31))) ||| (p4 &&& (63 : Int32))) < (65536 : Int32) then (0 : Int32) else (if (1114111 : Int32) < (((((p1 &&& (7 : Int32)) <<< ((18 : Int32) &&& 31)) ||| ((p2 &&& (63 : Int32)) <<< ((12 : Int32) &&& 31))) ||| ((p3 &&& (63 : Int32)) <<< ((6 : Int32) &&& 31))) ||| (p4 &&& (63 : Int32))) then (0 : Int32) else (4 : Int32))))))) else (0 : Int32)))))
def Q2 (Z : State) (p1 : Int32) (p2 : Int32) (p3 : Int32) (p4 : Int32) (p5 : Int32) (h0 : Heap) (n0 : Nat) (v : Option Value) (h : Heap) (L : List Loc) : Prop := v = some (.int (fn2 p1 p2 p3 p4 p5)) ∧ Fr n0 L ∧ h = h0
set_option maxRecDepth 65536 in
set_option maxHeartbeats 40000000 in
theorem rm2 (l : Launch) (Z : State) (a0 : Array Value) (hw : ∀ d ∈ tables_1, d.before a0 Z = true) (ws : List Jvm.Cond) (p1 : Int32) (p2 : Int32) (p3 : Int32) (p4 : Int32) (p5 : Int32) (h0 : Heap) (n0 : Nat) (Z0 : n0 ≤ h0.size) :
    MetFree l (⟨"com/example/fama/fama/table/TableLinesSequenceLengthPinLaw", "expected", "(IIIII)I"⟩ : MethodName) (head1 (Jvm.Cond.code (⟨"com/example/fama/fama/table/TableLinesSequenceLengthPinLaw", "expected", "(IIIII)I"⟩ : MethodName) method_4_code 8 (some .int) :: ws) ({ frames := 1, cells := 0, slots := 0, locals := 12 } : Room)) (fun a U => a = #[(.int p1), (.int p2), (.int p3), (.int p4), (.int p5)] ∧ Z.Warmed39 U.vm ∧ U.heap = h0) (fun _ _ _ _ _ => True) (fun _ U o U' => ∃ v L, o = .returned v ∧ Q2 Z p1 p2 p3 p4 p5 h0 n0 v U'.heap L ∧ FrameEnd U o U' L ({ frames := 1, cells := 0, slots := 0, locals := 12 } : Room).cells ({ frames := 1, cells := 0, slots := 0, locals := 12 } : Room).slots) := by
  refine MetFree.of_bodySF (plainFor_of_name pn_2) hisR ?_
  intro p e s m args below meth c s₁ Bd hml0 hP hK
  obtain ⟨rfl, hZ, hh⟩ := hP
  have hx := Bd.exec
  have hby := Bd.bytes
  have hml : c.maxLocals = 8 := hml0
  have hown : s.vm.findClass "com/example/fama/fama/table/TableLinesSequenceLengthPinLaw" = some m.cls := findClass_of_methodNamed Bd.named
  have hnm := (name_of_methodNamed Bd.named Bd.method).1
  have X0 : Stand p l e ({ frames := 1, cells := 0, slots := 0, locals := 12 } : Room) s m #[(.int p1), (.int p2), (.int p3), (.int p4), (.int p5)] below meth c s₁ [] 0 0 := Stand.of_body Bd
  have e0 : s₁.heap = h0 := by rw [← hh, Bd.state]; rfl
  have N0 := Fr.nil n0
  have pre0 : ∀ t, Steps p.tables e below (s₁.setTop (mkF m 0 #[.val (.int p1), .val (.int p2), .val (.int p3), .val (.int p4), .val (.int p5), .unset, .unset, .unset] [])) t → Steps p.tables e below (s₁.setTop (entryFrame m #[(.int p1), (.int p2), (.int p3), (.int p4), (.int p5)] 8)) t := fun t k => castTop (ef_2 m p1 p2 p3 p4 p5) k
  have pre1 : ∀ t, Steps p.tables e below (s₁.setTop (mkF m 4 #[.val (.int p1), .val (.int p2), .val (.int p3), .val (.int p4), .val (.int p5), .unset, .unset, .unset] [(.int (128 : Int32)), (.int p1)])) t → Steps p.tables e below (s₁.setTop (entryFrame m #[(.int p1), (.int p2), (.int p3), (.int p4), (.int p5)] 8)) t := by
    intro t kt
    refine pre0 _ ?_
    show Steps p.tables e below (s₁.setTop (mkF m 0 #[.val (.int p1), .val (.int p2), .val (.int p3), .val (.int p4), .val (.int p5), .unset, .unset, .unset] [])) _
    refine XS.iloadN X0.here hx rfl (hb hby d2_0) rfl ?_
    show Steps p.tables e below (s₁.setTop (mkF m 1 #[.val (.int p1), .val (.int p2), .val (.int p3), .val (.int p4), .val (.int p5), .unset, .unset, .unset] [(.int p1)])) _
    refine XS.sipush X0.here hx rfl (hb hby d2_1) ?_
    exact kt
  by_cases hc4_2 : p1 < (128 : Int32)
  · skip
    have pre3 : ∀ t, Steps p.tables e below (s₁.setTop (mkF m 70 #[.val (.int p1), .val (.int p2), .val (.int p3), .val (.int p4), .val (.int p5), .val (.int (1 : Int32)), .unset, .unset] [(.int p5), (.int (1 : Int32))])) t → Steps p.tables e below (s₁.setTop (entryFrame m #[(.int p1), (.int p2), (.int p3), (.int p4), (.int p5)] 8)) t := by
      intro t kt
      refine pre1 _ ?_
      show Steps p.tables e below (s₁.setTop (mkF m 4 #[.val (.int p1), .val (.int p2), .val (.int p3), .val (.int p4), .val (.int p5), .unset, .unset, .unset] [(.int (128 : Int32)), (.int p1)])) _
      refine XS.icmpNo X0.here hx rfl (hb hby d2_4) rfl (XT.ii_ge_f hc4_2) ?_
      show Steps p.tables e below (s₁.setTop (mkF m 7 #[.val (.int p1), .val (.int p2), .val (.int p3), .val (.int p4), .val (.int p5), .unset, .unset, .unset] [])) _
      refine XS.iconst X0.here hx rfl (hb hby d2_7) ?_
      show Steps p.tables e below (s₁.setTop (mkF m 8 #[.val (.int p1), .val (.int p2), .val (.int p3), .val (.int p4), .val (.int p5), .unset, .unset, .unset] [(.int (1 : Int32))])) _
      refine XS.istore X0.here hx rfl (hb hby d2_8) rfl (l' := #[.val (.int p1), .val (.int p2), .val (.int p3), .val (.int p4), .val (.int p5), .val (.int (1 : Int32)), .unset, .unset]) rfl ?_
      show Steps p.tables e below (s₁.setTop (mkF m 10 #[.val (.int p1), .val (.int p2), .val (.int p3), .val (.int p4), .val (.int p5), .val (.int (1 : Int32)), .unset, .unset] [])) _
      refine XS.goto X0.here hx rfl (pc0 := 10) (pc' := 66) rfl (hb hby d2_10) (by decide) (by decide) ?_
      show Steps p.tables e below (s₁.setTop (mkF m 66 #[.val (.int p1), .val (.int p2), .val (.int p3), .val (.int p4), .val (.int p5), .val (.int (1 : Int32)), .unset, .unset] [])) _
      refine XS.iload X0.here hx rfl (hb hby d2_66) rfl ?_
      show Steps p.tables e below (s₁.setTop (mkF m 68 #[.val (.int p1), .val (.int p2), .val (.int p3), .val (.int p4), .val (.int p5), .val (.int (1 : Int32)), .unset, .unset] [(.int (1 : Int32))])) _
      refine XS.iload X0.here hx rfl (hb hby d2_68) rfl ?_
      exact kt
    by_cases hc70_4 : p5 < (1 : Int32)
    · skip
      have pre5 : ∀ t, Steps p.tables e below (s₁.setTop (mkF m 74 #[.val (.int p1), .val (.int p2), .val (.int p3), .val (.int p4), .val (.int p5), .val (.int (1 : Int32)), .unset, .unset] [(.int (0 : Int32))])) t → Steps p.tables e below (s₁.setTop (entryFrame m #[(.int p1), (.int p2), (.int p3), (.int p4), (.int p5)] 8)) t := by
        intro t kt
        refine pre3 _ ?_
        show Steps p.tables e below (s₁.setTop (mkF m 70 #[.val (.int p1), .val (.int p2), .val (.int p3), .val (.int p4), .val (.int p5), .val (.int (1 : Int32)), .unset, .unset] [(.int p5), (.int (1 : Int32))])) _
        refine XS.icmpNo X0.here hx rfl (hb hby d2_70) rfl (XT.ii_le_f hc70_4) ?_
        show Steps p.tables e below (s₁.setTop (mkF m 73 #[.val (.int p1), .val (.int p2), .val (.int p3), .val (.int p4), .val (.int p5), .val (.int (1 : Int32)), .unset, .unset] [])) _
        refine XS.iconst X0.here hx rfl (hb hby d2_73) ?_
        exact kt
      obtain ⟨fs, hr, hrun, hended, hW, hsame⟩ := X0.leave (v := some (.int (0 : Int32))) (fun h => by rw [Bd.returns] at h; cases h)
      refine ⟨_, _, pre5 _ ?_, hrun, hended, _, _, rfl, ?_, ⟨_, rfl⟩, hW, hsame.mono (by decide) (by decide)⟩
      · show Steps p.tables e below (s₁.setTop (mkF m 74 #[.val (.int p1), .val (.int p2), .val (.int p3), .val (.int p4), .val (.int p5), .val (.int (1 : Int32)), .unset, .unset] [(.int (0 : Int32))])) _
        exact owRetI X0 hx Bd.returns (hb hby d2_74) hr
      · show Q2 Z p1 p2 p3 p4 p5 h0 n0 _ s₁.heap _
        rw [e0]
        exact ⟨by unfold fn2; rw [if_pos hc4_2, if_pos hc70_4], N0, rfl⟩
    · skip
      have pre6 : ∀ t, Steps p.tables e below (s₁.setTop (mkF m 82 #[.val (.int p1), .val (.int p2), .val (.int p3), .val (.int p4), .val (.int p5), .val (.int (1 : Int32)), .unset, .unset] [(.int (1 : Int32))])) t → Steps p.tables e below (s₁.setTop (entryFrame m #[(.int p1), (.int p2), (.int p3), (.int p4), (.int p5)] 8)) t := by
        intro t kt
        refine pre3 _ ?_
        show Steps p.tables e below (s₁.setTop (mkF m 70 #[.val (.int p1), .val (.int p2), .val (.int p3), .val (.int p4), .val (.int p5), .val (.int (1 : Int32)), .unset, .unset] [(.int p5), (.int (1 : Int32))])) _
        refine XS.icmpYes X0.here hx rfl (pc0 := 70) (pc' := 75) rfl (hb hby d2_70) rfl (XT.ii_le_t hc70_4) (by decide) (by decide) ?_
        show Steps p.tables e below (s₁.setTop (mkF m 75 #[.val (.int p1), .val (.int p2), .val (.int p3), .val (.int p4), .val (.int p5), .val (.int (1 : Int32)), .unset, .unset] [])) _
        refine XS.iload X0.here hx rfl (hb hby d2_75) rfl ?_
        show Steps p.tables e below (s₁.setTop (mkF m 77 #[.val (.int p1), .val (.int p2), .val (.int p3), .val (.int p4), .val (.int p5), .val (.int (1 : Int32)), .unset, .unset] [(.int (1 : Int32))])) _
        refine XS.iconst X0.here hx rfl (hb hby d2_77) ?_
        show Steps p.tables e below (s₁.setTop (mkF m 78 #[.val (.int p1), .val (.int p2), .val (.int p3), .val (.int p4), .val (.int p5), .val (.int (1 : Int32)), .unset, .unset] [(.int (1 : Int32)), (.int (1 : Int32))])) _
        refine XS.icmpNo X0.here hx rfl (hb hby d2_78) rfl (XT.ii_ne_f (by decide)) ?_
        show Steps p.tables e below (s₁.setTop (mkF m 81 #[.val (.int p1), .val (.int p2), .val (.int p3), .val (.int p4), .val (.int p5), .val (.int (1 : Int32)), .unset, .unset] [])) _
        refine XS.iconst X0.here hx rfl (hb hby d2_81) ?_
        exact kt
      obtain ⟨fs, hr, hrun, hended, hW, hsame⟩ := X0.leave (v := some (.int (1 : Int32))) (fun h => by rw [Bd.returns] at h; cases h)
      refine ⟨_, _, pre6 _ ?_, hrun, hended, _, _, rfl, ?_, ⟨_, rfl⟩, hW, hsame.mono (by decide) (by decide)⟩
      · show Steps p.tables e below (s₁.setTop (mkF m 82 #[.val (.int p1), .val (.int p2), .val (.int p3), .val (.int p4), .val (.int p5), .val (.int (1 : Int32)), .unset, .unset] [(.int (1 : Int32))])) _
        exact owRetI X0 hx Bd.returns (hb hby d2_82) hr
      · show Q2 Z p1 p2 p3 p4 p5 h0 n0 _ s₁.heap _
        rw [e0]
        exact ⟨by unfold fn2; rw [if_pos hc4_2, if_neg hc70_4], N0, rfl⟩
  · skip
    have pre7 : ∀ t, Steps p.tables e below (s₁.setTop (mkF m 21 #[.val (.int p1), .val (.int p2), .val (.int p3), .val (.int p4), .val (.int p5), .unset, .unset, .unset] [(.int (192 : Int32)), (.int (p1 &&& (224 : Int32)))])) t → Steps p.tables e below (s₁.setTop (entryFrame m #[(.int p1), (.int p2), (.int p3), (.int p4), (.int p5)] 8)) t := by
      intro t kt
      refine pre1 _ ?_
      show Steps p.tables e below (s₁.setTop (mkF m 4 #[.val (.int p1), .val (.int p2), .val (.int p3), .val (.int p4), .val (.int p5), .unset, .unset, .unset] [(.int (128 : Int32)), (.int p1)])) _
      refine XS.icmpYes X0.here hx rfl (pc0 := 4) (pc' := 13) rfl (hb hby d2_4) rfl (XT.ii_ge_t hc4_2) (by decide) (by decide) ?_
      show Steps p.tables e below (s₁.setTop (mkF m 13 #[.val (.int p1), .val (.int p2), .val (.int p3), .val (.int p4), .val (.int p5), .unset, .unset, .unset] [])) _
      refine XS.iloadN X0.here hx rfl (hb hby d2_13) rfl ?_
      show Steps p.tables e below (s₁.setTop (mkF m 14 #[.val (.int p1), .val (.int p2), .val (.int p3), .val (.int p4), .val (.int p5), .unset, .unset, .unset] [(.int p1)])) _
      refine XS.sipush X0.here hx rfl (hb hby d2_14) ?_
      show Steps p.tables e below (s₁.setTop (mkF m 17 #[.val (.int p1), .val (.int p2), .val (.int p3), .val (.int p4), .val (.int p5), .unset, .unset, .unset] [(.int (224 : Int32)), (.int p1)])) _
      refine XS.iand X0.here hx rfl (hb hby d2_17) rfl ?_
      show Steps p.tables e below (s₁.setTop (mkF m 18 #[.val (.int p1), .val (.int p2), .val (.int p3), .val (.int p4), .val (.int p5), .unset, .unset, .unset] [(.int (p1 &&& (224 : Int32)))])) _
      refine XS.sipush X0.here hx rfl (hb hby d2_18) ?_
      exact kt
    by_cases hc21_8 : (p1 &&& (224 : Int32)) = (192 : Int32)
    · skip
      have pre9 : ∀ t, Steps p.tables e below (s₁.setTop (mkF m 70 #[.val (.int p1), .val (.int p2), .val (.int p3), .val (.int p4), .val (.int p5), .val (.int (2 : Int32)), .unset, .unset] [(.int p5), (.int (2 : Int32))])) t → Steps p.tables e below (s₁.setTop (entryFrame m #[(.int p1), (.int p2), (.int p3), (.int p4), (.int p5)] 8)) t := by
        intro t kt
        refine pre7 _ ?_
        show Steps p.tables e below (s₁.setTop (mkF m 21 #[.val (.int p1), .val (.int p2), .val (.int p3), .val (.int p4), .val (.int p5), .unset, .unset, .unset] [(.int (192 : Int32)), (.int (p1 &&& (224 : Int32)))])) _
        refine XS.icmpNo X0.here hx rfl (hb hby d2_21) rfl (XT.ii_ne_f hc21_8) ?_
        show Steps p.tables e below (s₁.setTop (mkF m 24 #[.val (.int p1), .val (.int p2), .val (.int p3), .val (.int p4), .val (.int p5), .unset, .unset, .unset] [])) _
        refine XS.iconst X0.here hx rfl (hb hby d2_24) ?_
        show Steps p.tables e below (s₁.setTop (mkF m 25 #[.val (.int p1), .val (.int p2), .val (.int p3), .val (.int p4), .val (.int p5), .unset, .unset, .unset] [(.int (2 : Int32))])) _
        refine XS.istore X0.here hx rfl (hb hby d2_25) rfl (l' := #[.val (.int p1), .val (.int p2), .val (.int p3), .val (.int p4), .val (.int p5), .val (.int (2 : Int32)), .unset, .unset]) rfl ?_
        show Steps p.tables e below (s₁.setTop (mkF m 27 #[.val (.int p1), .val (.int p2), .val (.int p3), .val (.int p4), .val (.int p5), .val (.int (2 : Int32)), .unset, .unset] [])) _
        refine XS.goto X0.here hx rfl (pc0 := 27) (pc' := 66) rfl (hb hby d2_27) (by decide) (by decide) ?_
        show Steps p.tables e below (s₁.setTop (mkF m 66 #[.val (.int p1), .val (.int p2), .val (.int p3), .val (.int p4), .val (.int p5), .val (.int (2 : Int32)), .unset, .unset] [])) _
        refine XS.iload X0.here hx rfl (hb hby d2_66) rfl ?_
        show Steps p.tables e below (s₁.setTop (mkF m 68 #[.val (.int p1), .val (.int p2), .val (.int p3), .val (.int p4), .val (.int p5), .val (.int (2 : Int32)), .unset, .unset] [(.int (2 : Int32))])) _
        refine XS.iload X0.here hx rfl (hb hby d2_68) rfl ?_
        exact kt
      by_cases hc70_10 : p5 < (2 : Int32)
      · skip
        have pre11 : ∀ t, Steps p.tables e below (s₁.setTop (mkF m 74 #[.val (.int p1), .val (.int p2), .val (.int p3), .val (.int p4), .val (.int p5), .val (.int (2 : Int32)), .unset, .unset] [(.int (0 : Int32))])) t → Steps p.tables e below (s₁.setTop (entryFrame m #[(.int p1), (.int p2), (.int p3), (.int p4), (.int p5)] 8)) t := by
          intro t kt
          refine pre9 _ ?_
          show Steps p.tables e below (s₁.setTop (mkF m 70 #[.val (.int p1), .val (.int p2), .val (.int p3), .val (.int p4), .val (.int p5), .val (.int (2 : Int32)), .unset, .unset] [(.int p5), (.int (2 : Int32))])) _
          refine XS.icmpNo X0.here hx rfl (hb hby d2_70) rfl (XT.ii_le_f hc70_10) ?_
          show Steps p.tables e below (s₁.setTop (mkF m 73 #[.val (.int p1), .val (.int p2), .val (.int p3), .val (.int p4), .val (.int p5), .val (.int (2 : Int32)), .unset, .unset] [])) _
          refine XS.iconst X0.here hx rfl (hb hby d2_73) ?_
          exact kt
        obtain ⟨fs, hr, hrun, hended, hW, hsame⟩ := X0.leave (v := some (.int (0 : Int32))) (fun h => by rw [Bd.returns] at h; cases h)
        refine ⟨_, _, pre11 _ ?_, hrun, hended, _, _, rfl, ?_, ⟨_, rfl⟩, hW, hsame.mono (by decide) (by decide)⟩
        · show Steps p.tables e below (s₁.setTop (mkF m 74 #[.val (.int p1), .val (.int p2), .val (.int p3), .val (.int p4), .val (.int p5), .val (.int (2 : Int32)), .unset, .unset] [(.int (0 : Int32))])) _
          exact owRetI X0 hx Bd.returns (hb hby d2_74) hr
        · show Q2 Z p1 p2 p3 p4 p5 h0 n0 _ s₁.heap _
          rw [e0]
          exact ⟨by unfold fn2; rw [if_neg hc4_2, if_pos hc21_8, if_pos hc70_10], N0, rfl⟩
      · skip
        obtain ⟨_, _, ⟨T12, L12, k12, n12⟩, -, X12, ⟨Lc12, hQ12, l12, y12, z12⟩, st12⟩ := Jvm.LawKit.callS X0 hx (y := (⟨"com/example/fama/fama/table/TableLinesSequenceLengthPinLaw", "cont", "(I)Z"⟩ : MethodName)) hown (mvT hZ (hw _ (List.mem_of_getElem? (i := 10) rfl))) (mvT hZ (hw _ (List.mem_of_getElem? (i := 11) rfl))) (mvT hZ (hw _ (List.mem_of_getElem? (i := 8) rfl))) (mvT hZ (hw _ (List.mem_of_getElem? (i := 12) rfl))) (by decide) (backOf (W := 0) (rm3 l Z a0 hw [] p2 h0 n0 Z0) hZ (hw _ (List.mem_of_getElem? (i := 12) rfl)) (hw _ (List.mem_of_getElem? (i := 8) rfl)) (by decide) (by decide)) (g := (mkF m 84 #[.val (.int p1), .val (.int p2), .val (.int p3), .val (.int p4), .val (.int p5), .val (.int (2 : Int32)), .unset, .unset] [(.int p2)])) rfl (by rw [hml]; rfl) (argsL := [(.int p2)]) (rest := []) (lenOf pd_0 rfl) rfl (by show 2 * 0 + _ ≤ _; exact Nat.le_of_eq rfl) (hb hby d2_84) (fun _ _ => ⟨rfl, e0, (by decide : 0 + 0 ≤ _), (by decide : 0 + 0 ≤ _)⟩)
        dsimp only [Pt.U, Pt.locs, Pt.cells, Pt.slots] at X12 l12 y12 z12 st12 hQ12
        subst l12 y12 z12
        obtain ⟨rfl, N12q, hE12⟩ := hQ12
        have N12 := Fr.app N0 N12q
        have pre13 : ∀ t, Steps p.tables e below (T12.setTop (mkF m 87 #[.val (.int p1), .val (.int p2), .val (.int p3), .val (.int p4), .val (.int p5), .val (.int (2 : Int32)), .unset, .unset] [(.int (fn3 p2))])) t → Steps p.tables e below (s₁.setTop (entryFrame m #[(.int p1), (.int p2), (.int p3), (.int p4), (.int p5)] 8)) t := by
          intro t kt
          refine pre9 _ ?_
          show Steps p.tables e below (s₁.setTop (mkF m 70 #[.val (.int p1), .val (.int p2), .val (.int p3), .val (.int p4), .val (.int p5), .val (.int (2 : Int32)), .unset, .unset] [(.int p5), (.int (2 : Int32))])) _
          refine XS.icmpYes X0.here hx rfl (pc0 := 70) (pc' := 75) rfl (hb hby d2_70) rfl (XT.ii_le_t hc70_10) (by decide) (by decide) ?_
          show Steps p.tables e below (s₁.setTop (mkF m 75 #[.val (.int p1), .val (.int p2), .val (.int p3), .val (.int p4), .val (.int p5), .val (.int (2 : Int32)), .unset, .unset] [])) _
          refine XS.iload X0.here hx rfl (hb hby d2_75) rfl ?_
          show Steps p.tables e below (s₁.setTop (mkF m 77 #[.val (.int p1), .val (.int p2), .val (.int p3), .val (.int p4), .val (.int p5), .val (.int (2 : Int32)), .unset, .unset] [(.int (2 : Int32))])) _
          refine XS.iconst X0.here hx rfl (hb hby d2_77) ?_
          show Steps p.tables e below (s₁.setTop (mkF m 78 #[.val (.int p1), .val (.int p2), .val (.int p3), .val (.int p4), .val (.int p5), .val (.int (2 : Int32)), .unset, .unset] [(.int (1 : Int32)), (.int (2 : Int32))])) _
          refine XS.icmpYes X0.here hx rfl (pc0 := 78) (pc' := 83) rfl (hb hby d2_78) rfl (XT.ii_ne_t (by decide)) (by decide) (by decide) ?_
          show Steps p.tables e below (s₁.setTop (mkF m 83 #[.val (.int p1), .val (.int p2), .val (.int p3), .val (.int p4), .val (.int p5), .val (.int (2 : Int32)), .unset, .unset] [])) _
          refine XS.iloadN X0.here hx rfl (hb hby d2_83) rfl ?_
          show Steps p.tables e below (s₁.setTop (mkF m 84 #[.val (.int p1), .val (.int p2), .val (.int p3), .val (.int p4), .val (.int p5), .val (.int (2 : Int32)), .unset, .unset] [(.int p2)])) _
          refine st12 _ ?_
          exact kt
        by_cases hc87_14 : (fn3 p2) = (0 : Int32)
        · skip
          have pre15 : ∀ t, Steps p.tables e below (T12.setTop (mkF m 91 #[.val (.int p1), .val (.int p2), .val (.int p3), .val (.int p4), .val (.int p5), .val (.int (2 : Int32)), .unset, .unset] [(.int (0 : Int32))])) t → Steps p.tables e below (s₁.setTop (entryFrame m #[(.int p1), (.int p2), (.int p3), (.int p4), (.int p5)] 8)) t := by
            intro t kt
            refine pre13 _ ?_
            show Steps p.tables e below (T12.setTop (mkF m 87 #[.val (.int p1), .val (.int p2), .val (.int p3), .val (.int p4), .val (.int p5), .val (.int (2 : Int32)), .unset, .unset] [(.int (fn3 p2))])) _
            refine XS.ifNo X12.here hx rfl (hb hby d2_87) rfl (XT.i0_ne_f hc87_14) ?_
            show Steps p.tables e below (T12.setTop (mkF m 90 #[.val (.int p1), .val (.int p2), .val (.int p3), .val (.int p4), .val (.int p5), .val (.int (2 : Int32)), .unset, .unset] [])) _
            refine XS.iconst X12.here hx rfl (hb hby d2_90) ?_
            exact kt
          obtain ⟨fs, hr, hrun, hended, hW, hsame⟩ := X12.leave (v := some (.int (0 : Int32))) (fun h => by rw [Bd.returns] at h; cases h)
          refine ⟨_, _, pre15 _ ?_, hrun, hended, _, _, rfl, ?_, ⟨_, rfl⟩, hW, hsame.mono (by decide) (by decide)⟩
          · show Steps p.tables e below (T12.setTop (mkF m 91 #[.val (.int p1), .val (.int p2), .val (.int p3), .val (.int p4), .val (.int p5), .val (.int (2 : Int32)), .unset, .unset] [(.int (0 : Int32))])) _
            exact owRetI X12 hx Bd.returns (hb hby d2_91) hr
          · show Q2 Z p1 p2 p3 p4 p5 h0 n0 _ T12.heap _
            rw [hE12]
            exact ⟨by unfold fn2; rw [if_neg hc4_2, if_pos hc21_8, if_neg hc70_10, if_pos hc87_14], N12, rfl⟩
        · skip
          have pre16 : ∀ t, Steps p.tables e below (T12.setTop (mkF m 224 #[.val (.int p1), .val (.int p2), .val (.int p3), .val (.int p4), .val (.int p5), .val (.int (2 : Int32)), .val (.int (((p1 &&& (31 : Int32)) <<< ((6 : Int32) &&& 31)) ||| (p2 &&& (63 : Int32)))), .val (.int (128 : Int32))] [(.int (128 : Int32)), (.int (((p1 &&& (31 : Int32)) <<< ((6 : Int32) &&& 31)) ||| (p2 &&& (63 : Int32))))])) t → Steps p.tables e below (s₁.setTop (entryFrame m #[(.int p1), (.int p2), (.int p3), (.int p4), (.int p5)] 8)) t := by
            intro t kt
            refine pre13 _ ?_
            show Steps p.tables e below (T12.setTop (mkF m 87 #[.val (.int p1), .val (.int p2), .val (.int p3), .val (.int p4), .val (.int p5), .val (.int (2 : Int32)), .unset, .unset] [(.int (fn3 p2))])) _
            refine XS.ifYes X12.here hx rfl (pc0 := 87) (pc' := 92) rfl (hb hby d2_87) rfl (XT.i0_ne_t hc87_14) (by decide) (by decide) ?_
            show Steps p.tables e below (T12.setTop (mkF m 92 #[.val (.int p1), .val (.int p2), .val (.int p3), .val (.int p4), .val (.int p5), .val (.int (2 : Int32)), .unset, .unset] [])) _
            refine XS.iload X12.here hx rfl (hb hby d2_92) rfl ?_
            show Steps p.tables e below (T12.setTop (mkF m 94 #[.val (.int p1), .val (.int p2), .val (.int p3), .val (.int p4), .val (.int p5), .val (.int (2 : Int32)), .unset, .unset] [(.int (2 : Int32))])) _
            refine XS.iconst X12.here hx rfl (hb hby d2_94) ?_
            show Steps p.tables e below (T12.setTop (mkF m 95 #[.val (.int p1), .val (.int p2), .val (.int p3), .val (.int p4), .val (.int p5), .val (.int (2 : Int32)), .unset, .unset] [(.int (3 : Int32)), (.int (2 : Int32))])) _
            refine XS.icmpYes X12.here hx rfl (pc0 := 95) (pc' := 107) rfl (hb hby d2_95) rfl (XT.ii_lt_t (by decide)) (by decide) (by decide) ?_
            show Steps p.tables e below (T12.setTop (mkF m 107 #[.val (.int p1), .val (.int p2), .val (.int p3), .val (.int p4), .val (.int p5), .val (.int (2 : Int32)), .unset, .unset] [])) _
            refine XS.iload X12.here hx rfl (hb hby d2_107) rfl ?_
            show Steps p.tables e below (T12.setTop (mkF m 109 #[.val (.int p1), .val (.int p2), .val (.int p3), .val (.int p4), .val (.int p5), .val (.int (2 : Int32)), .unset, .unset] [(.int (2 : Int32))])) _
            refine XS.iconst X12.here hx rfl (hb hby d2_109) ?_
            show Steps p.tables e below (T12.setTop (mkF m 110 #[.val (.int p1), .val (.int p2), .val (.int p3), .val (.int p4), .val (.int p5), .val (.int (2 : Int32)), .unset, .unset] [(.int (4 : Int32)), (.int (2 : Int32))])) _
            refine XS.icmpYes X12.here hx rfl (pc0 := 110) (pc' := 122) rfl (hb hby d2_110) rfl (XT.ii_ne_t (by decide)) (by decide) (by decide) ?_
            show Steps p.tables e below (T12.setTop (mkF m 122 #[.val (.int p1), .val (.int p2), .val (.int p3), .val (.int p4), .val (.int p5), .val (.int (2 : Int32)), .unset, .unset] [])) _
            refine XS.iload X12.here hx rfl (hb hby d2_122) rfl ?_
            show Steps p.tables e below (T12.setTop (mkF m 124 #[.val (.int p1), .val (.int p2), .val (.int p3), .val (.int p4), .val (.int p5), .val (.int (2 : Int32)), .unset, .unset] [(.int (2 : Int32))])) _
            refine XS.iconst X12.here hx rfl (hb hby d2_124) ?_
            show Steps p.tables e below (T12.setTop (mkF m 125 #[.val (.int p1), .val (.int p2), .val (.int p3), .val (.int p4), .val (.int p5), .val (.int (2 : Int32)), .unset, .unset] [(.int (2 : Int32)), (.int (2 : Int32))])) _
            refine XS.icmpNo X12.here hx rfl (hb hby d2_125) rfl (XT.ii_ne_f (by decide)) ?_
            show Steps p.tables e below (T12.setTop (mkF m 128 #[.val (.int p1), .val (.int p2), .val (.int p3), .val (.int p4), .val (.int p5), .val (.int (2 : Int32)), .unset, .unset] [])) _
            refine XS.iloadN X12.here hx rfl (hb hby d2_128) rfl ?_
            show Steps p.tables e below (T12.setTop (mkF m 129 #[.val (.int p1), .val (.int p2), .val (.int p3), .val (.int p4), .val (.int p5), .val (.int (2 : Int32)), .unset, .unset] [(.int p1)])) _
            refine XS.bipush X12.here hx rfl (hb hby d2_129) ?_
            show Steps p.tables e below (T12.setTop (mkF m 131 #[.val (.int p1), .val (.int p2), .val (.int p3), .val (.int p4), .val (.int p5), .val (.int (2 : Int32)), .unset, .unset] [(.int (31 : Int32)), (.int p1)])) _
            refine XS.iand X12.here hx rfl (hb hby d2_131) rfl ?_
            show Steps p.tables e below (T12.setTop (mkF m 132 #[.val (.int p1), .val (.int p2), .val (.int p3), .val (.int p4), .val (.int p5), .val (.int (2 : Int32)), .unset, .unset] [(.int (p1 &&& (31 : Int32)))])) _
            refine XS.bipush X12.here hx rfl (hb hby d2_132) ?_
            show Steps p.tables e below (T12.setTop (mkF m 134 #[.val (.int p1), .val (.int p2), .val (.int p3), .val (.int p4), .val (.int p5), .val (.int (2 : Int32)), .unset, .unset] [(.int (6 : Int32)), (.int (p1 &&& (31 : Int32)))])) _
            refine XS.ishl X12.here hx rfl (hb hby d2_134) rfl ?_
            show Steps p.tables e below (T12.setTop (mkF m 135 #[.val (.int p1), .val (.int p2), .val (.int p3), .val (.int p4), .val (.int p5), .val (.int (2 : Int32)), .unset, .unset] [(.int ((p1 &&& (31 : Int32)) <<< ((6 : Int32) &&& 31)))])) _
            refine XS.iloadN X12.here hx rfl (hb hby d2_135) rfl ?_
            show Steps p.tables e below (T12.setTop (mkF m 136 #[.val (.int p1), .val (.int p2), .val (.int p3), .val (.int p4), .val (.int p5), .val (.int (2 : Int32)), .unset, .unset] [(.int p2), (.int ((p1 &&& (31 : Int32)) <<< ((6 : Int32) &&& 31)))])) _
            refine XS.bipush X12.here hx rfl (hb hby d2_136) ?_
            show Steps p.tables e below (T12.setTop (mkF m 138 #[.val (.int p1), .val (.int p2), .val (.int p3), .val (.int p4), .val (.int p5), .val (.int (2 : Int32)), .unset, .unset] [(.int (63 : Int32)), (.int p2), (.int ((p1 &&& (31 : Int32)) <<< ((6 : Int32) &&& 31)))])) _
            refine XS.iand X12.here hx rfl (hb hby d2_138) rfl ?_
            show Steps p.tables e below (T12.setTop (mkF m 139 #[.val (.int p1), .val (.int p2), .val (.int p3), .val (.int p4), .val (.int p5), .val (.int (2 : Int32)), .unset, .unset] [(.int (p2 &&& (63 : Int32))), (.int ((p1 &&& (31 : Int32)) <<< ((6 : Int32) &&& 31)))])) _
            refine XS.ior X12.here hx rfl (hb hby d2_139) rfl ?_
            show Steps p.tables e below (T12.setTop (mkF m 140 #[.val (.int p1), .val (.int p2), .val (.int p3), .val (.int p4), .val (.int p5), .val (.int (2 : Int32)), .unset, .unset] [(.int (((p1 &&& (31 : Int32)) <<< ((6 : Int32) &&& 31)) ||| (p2 &&& (63 : Int32))))])) _
            refine XS.istore X12.here hx rfl (hb hby d2_140) rfl (l' := #[.val (.int p1), .val (.int p2), .val (.int p3), .val (.int p4), .val (.int p5), .val (.int (2 : Int32)), .val (.int (((p1 &&& (31 : Int32)) <<< ((6 : Int32) &&& 31)) ||| (p2 &&& (63 : Int32)))), .unset]) rfl ?_
            show Steps p.tables e below (T12.setTop (mkF m 142 #[.val (.int p1), .val (.int p2), .val (.int p3), .val (.int p4), .val (.int p5), .val (.int (2 : Int32)), .val (.int (((p1 &&& (31 : Int32)) <<< ((6 : Int32) &&& 31)) ||| (p2 &&& (63 : Int32)))), .unset] [])) _
            refine XS.sipush X12.here hx rfl (hb hby d2_142) ?_
            show Steps p.tables e below (T12.setTop (mkF m 145 #[.val (.int p1), .val (.int p2), .val (.int p3), .val (.int p4), .val (.int p5), .val (.int (2 : Int32)), .val (.int (((p1 &&& (31 : Int32)) <<< ((6 : Int32) &&& 31)) ||| (p2 &&& (63 : Int32)))), .unset] [(.int (128 : Int32))])) _
            refine XS.istore X12.here hx rfl (hb hby d2_145) rfl (l' := #[.val (.int p1), .val (.int p2), .val (.int p3), .val (.int p4), .val (.int p5), .val (.int (2 : Int32)), .val (.int (((p1 &&& (31 : Int32)) <<< ((6 : Int32) &&& 31)) ||| (p2 &&& (63 : Int32)))), .val (.int (128 : Int32))]) rfl ?_
            show Steps p.tables e below (T12.setTop (mkF m 147 #[.val (.int p1), .val (.int p2), .val (.int p3), .val (.int p4), .val (.int p5), .val (.int (2 : Int32)), .val (.int (((p1 &&& (31 : Int32)) <<< ((6 : Int32) &&& 31)) ||| (p2 &&& (63 : Int32)))), .val (.int (128 : Int32))] [])) _
            refine XS.goto X12.here hx rfl (pc0 := 147) (pc' := 220) rfl (hb hby d2_147) (by decide) (by decide) ?_
            show Steps p.tables e below (T12.setTop (mkF m 220 #[.val (.int p1), .val (.int p2), .val (.int p3), .val (.int p4), .val (.int p5), .val (.int (2 : Int32)), .val (.int (((p1 &&& (31 : Int32)) <<< ((6 : Int32) &&& 31)) ||| (p2 &&& (63 : Int32)))), .val (.int (128 : Int32))] [])) _
            refine XS.iload X12.here hx rfl (hb hby d2_220) rfl ?_
            show Steps p.tables e below (T12.setTop (mkF m 222 #[.val (.int p1), .val (.int p2), .val (.int p3), .val (.int p4), .val (.int p5), .val (.int (2 : Int32)), .val (.int (((p1 &&& (31 : Int32)) <<< ((6 : Int32) &&& 31)) ||| (p2 &&& (63 : Int32)))), .val (.int (128 : Int32))] [(.int (((p1 &&& (31 : Int32)) <<< ((6 : Int32) &&& 31)) ||| (p2 &&& (63 : Int32))))])) _
            refine XS.iload X12.here hx rfl (hb hby d2_222) rfl ?_
            exact kt
          by_cases hc224_17 : (((p1 &&& (31 : Int32)) <<< ((6 : Int32) &&& 31)) ||| (p2 &&& (63 : Int32))) < (128 : Int32)
          · skip
            have pre18 : ∀ t, Steps p.tables e below (T12.setTop (mkF m 228 #[.val (.int p1), .val (.int p2), .val (.int p3), .val (.int p4), .val (.int p5), .val (.int (2 : Int32)), .val (.int (((p1 &&& (31 : Int32)) <<< ((6 : Int32) &&& 31)) ||| (p2 &&& (63 : Int32)))), .val (.int (128 : Int32))] [(.int (0 : Int32))])) t → Steps p.tables e below (s₁.setTop (entryFrame m #[(.int p1), (.int p2), (.int p3), (.int p4), (.int p5)] 8)) t := by
              intro t kt
              refine pre16 _ ?_
              show Steps p.tables e below (T12.setTop (mkF m 224 #[.val (.int p1), .val (.int p2), .val (.int p3), .val (.int p4), .val (.int p5), .val (.int (2 : Int32)), .val (.int (((p1 &&& (31 : Int32)) <<< ((6 : Int32) &&& 31)) ||| (p2 &&& (63 : Int32)))), .val (.int (128 : Int32))] [(.int (128 : Int32)), (.int (((p1 &&& (31 : Int32)) <<< ((6 : Int32) &&& 31)) ||| (p2 &&& (63 : Int32))))])) _
              refine XS.icmpNo X12.here hx rfl (hb hby d2_224) rfl (XT.ii_ge_f hc224_17) ?_
              show Steps p.tables e below (T12.setTop (mkF m 227 #[.val (.int p1), .val (.int p2), .val (.int p3), .val (.int p4), .val (.int p5), .val (.int (2 : Int32)), .val (.int (((p1 &&& (31 : Int32)) <<< ((6 : Int32) &&& 31)) ||| (p2 &&& (63 : Int32)))), .val (.int (128 : Int32))] [])) _
              refine XS.iconst X12.here hx rfl (hb hby d2_227) ?_
              exact kt
            obtain ⟨fs, hr, hrun, hended, hW, hsame⟩ := X12.leave (v := some (.int (0 : Int32))) (fun h => by rw [Bd.returns] at h; cases h)
            refine ⟨_, _, pre18 _ ?_, hrun, hended, _, _, rfl, ?_, ⟨_, rfl⟩, hW, hsame.mono (by decide) (by decide)⟩
            · show Steps p.tables e below (T12.setTop (mkF m 228 #[.val (.int p1), .val (.int p2), .val (.int p3), .val (.int p4), .val (.int p5), .val (.int (2 : Int32)), .val (.int (((p1 &&& (31 : Int32)) <<< ((6 : Int32) &&& 31)) ||| (p2 &&& (63 : Int32)))), .val (.int (128 : Int32))] [(.int (0 : Int32))])) _
              exact owRetI X12 hx Bd.returns (hb hby d2_228) hr
            · show Q2 Z p1 p2 p3 p4 p5 h0 n0 _ T12.heap _
              rw [hE12]
              exact ⟨by unfold fn2; rw [if_neg hc4_2, if_pos hc21_8, if_neg hc70_10, if_neg hc87_14, if_pos hc224_17], N12, rfl⟩
          · skip
            have pre19 : ∀ t, Steps p.tables e below (T12.setTop (mkF m 233 #[.val (.int p1), .val (.int p2), .val (.int p3), .val (.int p4), .val (.int p5), .val (.int (2 : Int32)), .val (.int (((p1 &&& (31 : Int32)) <<< ((6 : Int32) &&& 31)) ||| (p2 &&& (63 : Int32)))), .val (.int (128 : Int32))] [(.int (1114111 : Int32)), (.int (((p1 &&& (31 : Int32)) <<< ((6 : Int32) &&& 31)) ||| (p2 &&& (63 : Int32))))])) t → Steps p.tables e below (s₁.setTop (entryFrame m #[(.int p1), (.int p2), (.int p3), (.int p4), (.int p5)] 8)) t := by
              intro t kt
              refine pre16 _ ?_
              show Steps p.tables e below (T12.setTop (mkF m 224 #[.val (.int p1), .val (.int p2), .val (.int p3), .val (.int p4), .val (.int p5), .val (.int (2 : Int32)), .val (.int (((p1 &&& (31 : Int32)) <<< ((6 : Int32) &&& 31)) ||| (p2 &&& (63 : Int32)))), .val (.int (128 : Int32))] [(.int (128 : Int32)), (.int (((p1 &&& (31 : Int32)) <<< ((6 : Int32) &&& 31)) ||| (p2 &&& (63 : Int32))))])) _
              refine XS.icmpYes X12.here hx rfl (pc0 := 224) (pc' := 229) rfl (hb hby d2_224) rfl (XT.ii_ge_t hc224_17) (by decide) (by decide) ?_
              show Steps p.tables e below (T12.setTop (mkF m 229 #[.val (.int p1), .val (.int p2), .val (.int p3), .val (.int p4), .val (.int p5), .val (.int (2 : Int32)), .val (.int (((p1 &&& (31 : Int32)) <<< ((6 : Int32) &&& 31)) ||| (p2 &&& (63 : Int32)))), .val (.int (128 : Int32))] [])) _
              refine XS.iload X12.here hx rfl (hb hby d2_229) rfl ?_
              show Steps p.tables e below (T12.setTop (mkF m 231 #[.val (.int p1), .val (.int p2), .val (.int p3), .val (.int p4), .val (.int p5), .val (.int (2 : Int32)), .val (.int (((p1 &&& (31 : Int32)) <<< ((6 : Int32) &&& 31)) ||| (p2 &&& (63 : Int32)))), .val (.int (128 : Int32))] [(.int (((p1 &&& (31 : Int32)) <<< ((6 : Int32) &&& 31)) ||| (p2 &&& (63 : Int32))))])) _
              refine Stand.ldcI (g := (mkF m 231 #[.val (.int p1), .val (.int p2), .val (.int p3), .val (.int p4), .val (.int p5), .val (.int (2 : Int32)), .val (.int (((p1 &&& (31 : Int32)) <<< ((6 : Int32) &&& 31)) ||| (p2 &&& (63 : Int32)))), .val (.int (128 : Int32))] [(.int (((p1 &&& (31 : Int32)) <<< ((6 : Int32) &&& 31)) ||| (p2 &&& (63 : Int32))))])) X12 hx hown (mvT hZ (hw _ (List.mem_of_getElem? (i := 13) rfl))) rfl (hb hby d2_231) ?_
              exact kt
            by_cases hc233_20 : (1114111 : Int32) < (((p1 &&& (31 : Int32)) <<< ((6 : Int32) &&& 31)) ||| (p2 &&& (63 : Int32)))
            · skip
              have pre21 : ∀ t, Steps p.tables e below (T12.setTop (mkF m 237 #[.val (.int p1), .val (.int p2), .val (.int p3), .val (.int p4), .val (.int p5), .val (.int (2 : Int32)), .val (.int (((p1 &&& (31 : Int32)) <<< ((6 : Int32) &&& 31)) ||| (p2 &&& (63 : Int32)))), .val (.int (128 : Int32))] [(.int (0 : Int32))])) t → Steps p.tables e below (s₁.setTop (entryFrame m #[(.int p1), (.int p2), (.int p3), (.int p4), (.int p5)] 8)) t := by
                intro t kt
                refine pre19 _ ?_
                show Steps p.tables e below (T12.setTop (mkF m 233 #[.val (.int p1), .val (.int p2), .val (.int p3), .val (.int p4), .val (.int p5), .val (.int (2 : Int32)), .val (.int (((p1 &&& (31 : Int32)) <<< ((6 : Int32) &&& 31)) ||| (p2 &&& (63 : Int32)))), .val (.int (128 : Int32))] [(.int (1114111 : Int32)), (.int (((p1 &&& (31 : Int32)) <<< ((6 : Int32) &&& 31)) ||| (p2 &&& (63 : Int32))))])) _
                refine XS.icmpNo X12.here hx rfl (hb hby d2_233) rfl (XT.ii_le_f hc233_20) ?_
                show Steps p.tables e below (T12.setTop (mkF m 236 #[.val (.int p1), .val (.int p2), .val (.int p3), .val (.int p4), .val (.int p5), .val (.int (2 : Int32)), .val (.int (((p1 &&& (31 : Int32)) <<< ((6 : Int32) &&& 31)) ||| (p2 &&& (63 : Int32)))), .val (.int (128 : Int32))] [])) _
                refine XS.iconst X12.here hx rfl (hb hby d2_236) ?_
                exact kt
              obtain ⟨fs, hr, hrun, hended, hW, hsame⟩ := X12.leave (v := some (.int (0 : Int32))) (fun h => by rw [Bd.returns] at h; cases h)
              refine ⟨_, _, pre21 _ ?_, hrun, hended, _, _, rfl, ?_, ⟨_, rfl⟩, hW, hsame.mono (by decide) (by decide)⟩
              · show Steps p.tables e below (T12.setTop (mkF m 237 #[.val (.int p1), .val (.int p2), .val (.int p3), .val (.int p4), .val (.int p5), .val (.int (2 : Int32)), .val (.int (((p1 &&& (31 : Int32)) <<< ((6 : Int32) &&& 31)) ||| (p2 &&& (63 : Int32)))), .val (.int (128 : Int32))] [(.int (0 : Int32))])) _
                exact owRetI X12 hx Bd.returns (hb hby d2_237) hr
              · show Q2 Z p1 p2 p3 p4 p5 h0 n0 _ T12.heap _
                rw [hE12]
                exact ⟨by unfold fn2; rw [if_neg hc4_2, if_pos hc21_8, if_neg hc70_10, if_neg hc87_14, if_neg hc224_17, if_pos hc233_20], N12, rfl⟩
            · skip
              have pre22 : ∀ t, Steps p.tables e below (T12.setTop (mkF m 242 #[.val (.int p1), .val (.int p2), .val (.int p3), .val (.int p4), .val (.int p5), .val (.int (2 : Int32)), .val (.int (((p1 &&& (31 : Int32)) <<< ((6 : Int32) &&& 31)) ||| (p2 &&& (63 : Int32)))), .val (.int (128 : Int32))] [(.int (55296 : Int32)), (.int (((p1 &&& (31 : Int32)) <<< ((6 : Int32) &&& 31)) ||| (p2 &&& (63 : Int32))))])) t → Steps p.tables e below (s₁.setTop (entryFrame m #[(.int p1), (.int p2), (.int p3), (.int p4), (.int p5)] 8)) t := by
                intro t kt
                refine pre19 _ ?_
                show Steps p.tables e below (T12.setTop (mkF m 233 #[.val (.int p1), .val (.int p2), .val (.int p3), .val (.int p4), .val (.int p5), .val (.int (2 : Int32)), .val (.int (((p1 &&& (31 : Int32)) <<< ((6 : Int32) &&& 31)) ||| (p2 &&& (63 : Int32)))), .val (.int (128 : Int32))] [(.int (1114111 : Int32)), (.int (((p1 &&& (31 : Int32)) <<< ((6 : Int32) &&& 31)) ||| (p2 &&& (63 : Int32))))])) _
                refine XS.icmpYes X12.here hx rfl (pc0 := 233) (pc' := 238) rfl (hb hby d2_233) rfl (XT.ii_le_t hc233_20) (by decide) (by decide) ?_
                show Steps p.tables e below (T12.setTop (mkF m 238 #[.val (.int p1), .val (.int p2), .val (.int p3), .val (.int p4), .val (.int p5), .val (.int (2 : Int32)), .val (.int (((p1 &&& (31 : Int32)) <<< ((6 : Int32) &&& 31)) ||| (p2 &&& (63 : Int32)))), .val (.int (128 : Int32))] [])) _
                refine XS.iload X12.here hx rfl (hb hby d2_238) rfl ?_
                show Steps p.tables e below (T12.setTop (mkF m 240 #[.val (.int p1), .val (.int p2), .val (.int p3), .val (.int p4), .val (.int p5), .val (.int (2 : Int32)), .val (.int (((p1 &&& (31 : Int32)) <<< ((6 : Int32) &&& 31)) ||| (p2 &&& (63 : Int32)))), .val (.int (128 : Int32))] [(.int (((p1 &&& (31 : Int32)) <<< ((6 : Int32) &&& 31)) ||| (p2 &&& (63 : Int32))))])) _
                refine Stand.ldcI (g := (mkF m 240 #[.val (.int p1), .val (.int p2), .val (.int p3), .val (.int p4), .val (.int p5), .val (.int (2 : Int32)), .val (.int (((p1 &&& (31 : Int32)) <<< ((6 : Int32) &&& 31)) ||| (p2 &&& (63 : Int32)))), .val (.int (128 : Int32))] [(.int (((p1 &&& (31 : Int32)) <<< ((6 : Int32) &&& 31)) ||| (p2 &&& (63 : Int32))))])) X12 hx hown (mvT hZ (hw _ (List.mem_of_getElem? (i := 14) rfl))) rfl (hb hby d2_240) ?_
                exact kt
              by_cases hc242_23 : (((p1 &&& (31 : Int32)) <<< ((6 : Int32) &&& 31)) ||| (p2 &&& (63 : Int32))) < (55296 : Int32)
              · skip
                have pre24 : ∀ t, Steps p.tables e below (T12.setTop (mkF m 256 #[.val (.int p1), .val (.int p2), .val (.int p3), .val (.int p4), .val (.int p5), .val (.int (2 : Int32)), .val (.int (((p1 &&& (31 : Int32)) <<< ((6 : Int32) &&& 31)) ||| (p2 &&& (63 : Int32)))), .val (.int (128 : Int32))] [(.int (2 : Int32))])) t → Steps p.tables e below (s₁.setTop (entryFrame m #[(.int p1), (.int p2), (.int p3), (.int p4), (.int p5)] 8)) t := by
                  intro t kt
                  refine pre22 _ ?_
                  show Steps p.tables e below (T12.setTop (mkF m 242 #[.val (.int p1), .val (.int p2), .val (.int p3), .val (.int p4), .val (.int p5), .val (.int (2 : Int32)), .val (.int (((p1 &&& (31 : Int32)) <<< ((6 : Int32) &&& 31)) ||| (p2 &&& (63 : Int32)))), .val (.int (128 : Int32))] [(.int (55296 : Int32)), (.int (((p1 &&& (31 : Int32)) <<< ((6 : Int32) &&& 31)) ||| (p2 &&& (63 : Int32))))])) _
                  refine XS.icmpYes X12.here hx rfl (pc0 := 242) (pc' := 254) rfl (hb hby d2_242) rfl (XT.ii_lt_t hc242_23) (by decide) (by decide) ?_
                  show Steps p.tables e below (T12.setTop (mkF m 254 #[.val (.int p1), .val (.int p2), .val (.int p3), .val (.int p4), .val (.int p5), .val (.int (2 : Int32)), .val (.int (((p1 &&& (31 : Int32)) <<< ((6 : Int32) &&& 31)) ||| (p2 &&& (63 : Int32)))), .val (.int (128 : Int32))] [])) _
                  refine XS.iload X12.here hx rfl (hb hby d2_254) rfl ?_
                  exact kt
                obtain ⟨fs, hr, hrun, hended, hW, hsame⟩ := X12.leave (v := some (.int (2 : Int32))) (fun h => by rw [Bd.returns] at h; cases h)
                refine ⟨_, _, pre24 _ ?_, hrun, hended, _, _, rfl, ?_, ⟨_, rfl⟩, hW, hsame.mono (by decide) (by decide)⟩
                · show Steps p.tables e below (T12.setTop (mkF m 256 #[.val (.int p1), .val (.int p2), .val (.int p3), .val (.int p4), .val (.int p5), .val (.int (2 : Int32)), .val (.int (((p1 &&& (31 : Int32)) <<< ((6 : Int32) &&& 31)) ||| (p2 &&& (63 : Int32)))), .val (.int (128 : Int32))] [(.int (2 : Int32))])) _
                  exact owRetI X12 hx Bd.returns (hb hby d2_256) hr
                · show Q2 Z p1 p2 p3 p4 p5 h0 n0 _ T12.heap _
                  rw [hE12]
                  exact ⟨by unfold fn2; rw [if_neg hc4_2, if_pos hc21_8, if_neg hc70_10, if_neg hc87_14, if_neg hc224_17, if_neg hc233_20, if_pos hc242_23], N12, rfl⟩
              · skip
                have pre25 : ∀ t, Steps p.tables e below (T12.setTop (mkF m 249 #[.val (.int p1), .val (.int p2), .val (.int p3), .val (.int p4), .val (.int p5), .val (.int (2 : Int32)), .val (.int (((p1 &&& (31 : Int32)) <<< ((6 : Int32) &&& 31)) ||| (p2 &&& (63 : Int32)))), .val (.int (128 : Int32))] [(.int (57343 : Int32)), (.int (((p1 &&& (31 : Int32)) <<< ((6 : Int32) &&& 31)) ||| (p2 &&& (63 : Int32))))])) t → Steps p.tables e below (s₁.setTop (entryFrame m #[(.int p1), (.int p2), (.int p3), (.int p4), (.int p5)] 8)) t := by
                  intro t kt
                  refine pre22 _ ?_
                  show Steps p.tables e below (T12.setTop (mkF m 242 #[.val (.int p1), .val (.int p2), .val (.int p3), .val (.int p4), .val (.int p5), .val (.int (2 : Int32)), .val (.int (((p1 &&& (31 : Int32)) <<< ((6 : Int32) &&& 31)) ||| (p2 &&& (63 : Int32)))), .val (.int (128 : Int32))] [(.int (55296 : Int32)), (.int (((p1 &&& (31 : Int32)) <<< ((6 : Int32) &&& 31)) ||| (p2 &&& (63 : Int32))))])) _
                  refine XS.icmpNo X12.here hx rfl (hb hby d2_242) rfl (XT.ii_lt_f hc242_23) ?_
                  show Steps p.tables e below (T12.setTop (mkF m 245 #[.val (.int p1), .val (.int p2), .val (.int p3), .val (.int p4), .val (.int p5), .val (.int (2 : Int32)), .val (.int (((p1 &&& (31 : Int32)) <<< ((6 : Int32) &&& 31)) ||| (p2 &&& (63 : Int32)))), .val (.int (128 : Int32))] [])) _
                  refine XS.iload X12.here hx rfl (hb hby d2_245) rfl ?_
                  show Steps p.tables e below (T12.setTop (mkF m 247 #[.val (.int p1), .val (.int p2), .val (.int p3), .val (.int p4), .val (.int p5), .val (.int (2 : Int32)), .val (.int (((p1 &&& (31 : Int32)) <<< ((6 : Int32) &&& 31)) ||| (p2 &&& (63 : Int32)))), .val (.int (128 : Int32))] [(.int (((p1 &&& (31 : Int32)) <<< ((6 : Int32) &&& 31)) ||| (p2 &&& (63 : Int32))))])) _
                  refine Stand.ldcI (g := (mkF m 247 #[.val (.int p1), .val (.int p2), .val (.int p3), .val (.int p4), .val (.int p5), .val (.int (2 : Int32)), .val (.int (((p1 &&& (31 : Int32)) <<< ((6 : Int32) &&& 31)) ||| (p2 &&& (63 : Int32)))), .val (.int (128 : Int32))] [(.int (((p1 &&& (31 : Int32)) <<< ((6 : Int32) &&& 31)) ||| (p2 &&& (63 : Int32))))])) X12 hx hown (mvT hZ (hw _ (List.mem_of_getElem? (i := 16) rfl))) rfl (hb hby d2_247) ?_
                  exact kt
                by_cases hc249_26 : (57343 : Int32) < (((p1 &&& (31 : Int32)) <<< ((6 : Int32) &&& 31)) ||| (p2 &&& (63 : Int32)))
                · skip
                  have pre27 : ∀ t, Steps p.tables e below (T12.setTop (mkF m 256 #[.val (.int p1), .val (.int p2), .val (.int p3), .val (.int p4), .val (.int p5), .val (.int (2 : Int32)), .val (.int (((p1 &&& (31 : Int32)) <<< ((6 : Int32) &&& 31)) ||| (p2 &&& (63 : Int32)))), .val (.int (128 : Int32))] [(.int (2 : Int32))])) t → Steps p.tables e below (s₁.setTop (entryFrame m #[(.int p1), (.int p2), (.int p3), (.int p4), (.int p5)] 8)) t := by
                    intro t kt
                    refine pre25 _ ?_
                    show Steps p.tables e below (T12.setTop (mkF m 249 #[.val (.int p1), .val (.int p2), .val (.int p3), .val (.int p4), .val (.int p5), .val (.int (2 : Int32)), .val (.int (((p1 &&& (31 : Int32)) <<< ((6 : Int32) &&& 31)) ||| (p2 &&& (63 : Int32)))), .val (.int (128 : Int32))] [(.int (57343 : Int32)), (.int (((p1 &&& (31 : Int32)) <<< ((6 : Int32) &&& 31)) ||| (p2 &&& (63 : Int32))))])) _
                    refine XS.icmpYes X12.here hx rfl (pc0 := 249) (pc' := 254) rfl (hb hby d2_249) rfl (XT.ii_gt_t hc249_26) (by decide) (by decide) ?_
                    show Steps p.tables e below (T12.setTop (mkF m 254 #[.val (.int p1), .val (.int p2), .val (.int p3), .val (.int p4), .val (.int p5), .val (.int (2 : Int32)), .val (.int (((p1 &&& (31 : Int32)) <<< ((6 : Int32) &&& 31)) ||| (p2 &&& (63 : Int32)))), .val (.int (128 : Int32))] [])) _
                    refine XS.iload X12.here hx rfl (hb hby d2_254) rfl ?_
                    exact kt
                  obtain ⟨fs, hr, hrun, hended, hW, hsame⟩ := X12.leave (v := some (.int (2 : Int32))) (fun h => by rw [Bd.returns] at h; cases h)
                  refine ⟨_, _, pre27 _ ?_, hrun, hended, _, _, rfl, ?_, ⟨_, rfl⟩, hW, hsame.mono (by decide) (by decide)⟩
                  · show Steps p.tables e below (T12.setTop (mkF m 256 #[.val (.int p1), .val (.int p2), .val (.int p3), .val (.int p4), .val (.int p5), .val (.int (2 : Int32)), .val (.int (((p1 &&& (31 : Int32)) <<< ((6 : Int32) &&& 31)) ||| (p2 &&& (63 : Int32)))), .val (.int (128 : Int32))] [(.int (2 : Int32))])) _
                    exact owRetI X12 hx Bd.returns (hb hby d2_256) hr
                  · show Q2 Z p1 p2 p3 p4 p5 h0 n0 _ T12.heap _
                    rw [hE12]
                    exact ⟨by unfold fn2; rw [if_neg hc4_2, if_pos hc21_8, if_neg hc70_10, if_neg hc87_14, if_neg hc224_17, if_neg hc233_20, if_neg hc242_23, if_pos hc249_26], N12, rfl⟩
                · skip
                  have pre28 : ∀ t, Steps p.tables e below (T12.setTop (mkF m 253 #[.val (.int p1), .val (.int p2), .val (.int p3), .val (.int p4), .val (.int p5), .val (.int (2 : Int32)), .val (.int (((p1 &&& (31 : Int32)) <<< ((6 : Int32) &&& 31)) ||| (p2 &&& (63 : Int32)))), .val (.int (128 : Int32))] [(.int (0 : Int32))])) t → Steps p.tables e below (s₁.setTop (entryFrame m #[(.int p1), (.int p2), (.int p3), (.int p4), (.int p5)] 8)) t := by
                    intro t kt
                    refine pre25 _ ?_
                    show Steps p.tables e below (T12.setTop (mkF m 249 #[.val (.int p1), .val (.int p2), .val (.int p3), .val (.int p4), .val (.int p5), .val (.int (2 : Int32)), .val (.int (((p1 &&& (31 : Int32)) <<< ((6 : Int32) &&& 31)) ||| (p2 &&& (63 : Int32)))), .val (.int (128 : Int32))] [(.int (57343 : Int32)), (.int (((p1 &&& (31 : Int32)) <<< ((6 : Int32) &&& 31)) ||| (p2 &&& (63 : Int32))))])) _
                    refine XS.icmpNo X12.here hx rfl (hb hby d2_249) rfl (XT.ii_gt_f hc249_26) ?_
                    show Steps p.tables e below (T12.setTop (mkF m 252 #[.val (.int p1), .val (.int p2), .val (.int p3), .val (.int p4), .val (.int p5), .val (.int (2 : Int32)), .val (.int (((p1 &&& (31 : Int32)) <<< ((6 : Int32) &&& 31)) ||| (p2 &&& (63 : Int32)))), .val (.int (128 : Int32))] [])) _
                    refine XS.iconst X12.here hx rfl (hb hby d2_252) ?_
                    exact kt
                  obtain ⟨fs, hr, hrun, hended, hW, hsame⟩ := X12.leave (v := some (.int (0 : Int32))) (fun h => by rw [Bd.returns] at h; cases h)
                  refine ⟨_, _, pre28 _ ?_, hrun, hended, _, _, rfl, ?_, ⟨_, rfl⟩, hW, hsame.mono (by decide) (by decide)⟩
                  · show Steps p.tables e below (T12.setTop (mkF m 253 #[.val (.int p1), .val (.int p2), .val (.int p3), .val (.int p4), .val (.int p5), .val (.int (2 : Int32)), .val (.int (((p1 &&& (31 : Int32)) <<< ((6 : Int32) &&& 31)) ||| (p2 &&& (63 : Int32)))), .val (.int (128 : Int32))] [(.int (0 : Int32))])) _
                    exact owRetI X12 hx Bd.returns (hb hby d2_253) hr
                  · show Q2 Z p1 p2 p3 p4 p5 h0 n0 _ T12.heap _
                    rw [hE12]
                    exact ⟨by unfold fn2; rw [if_neg hc4_2, if_pos hc21_8, if_neg hc70_10, if_neg hc87_14, if_neg hc224_17, if_neg hc233_20, if_neg hc242_23, if_neg hc249_26], N12, rfl⟩
    · skip
      have pre29 : ∀ t, Steps p.tables e below (s₁.setTop (mkF m 38 #[.val (.int p1), .val (.int p2), .val (.int p3), .val (.int p4), .val (.int p5), .unset, .unset, .unset] [(.int (224 : Int32)), (.int (p1 &&& (240 : Int32)))])) t → Steps p.tables e below (s₁.setTop (entryFrame m #[(.int p1), (.int p2), (.int p3), (.int p4), (.int p5)] 8)) t := by
        intro t kt
        refine pre7 _ ?_
        show Steps p.tables e below (s₁.setTop (mkF m 21 #[.val (.int p1), .val (.int p2), .val (.int p3), .val (.int p4), .val (.int p5), .unset, .unset, .unset] [(.int (192 : Int32)), (.int (p1 &&& (224 : Int32)))])) _
        refine XS.icmpYes X0.here hx rfl (pc0 := 21) (pc' := 30) rfl (hb hby d2_21) rfl (XT.ii_ne_t hc21_8) (by decide) (by decide) ?_
        show Steps p.tables e below (s₁.setTop (mkF m 30 #[.val (.int p1), .val (.int p2), .val (.int p3), .val (.int p4), .val (.int p5), .unset, .unset, .unset] [])) _
        refine XS.iloadN X0.here hx rfl (hb hby d2_30) rfl ?_
        show Steps p.tables e below (s₁.setTop (mkF m 31 #[.val (.int p1), .val (.int p2), .val (.int p3), .val (.int p4), .val (.int p5), .unset, .unset, .unset] [(.int p1)])) _
        refine XS.sipush X0.here hx rfl (hb hby d2_31) ?_
        show Steps p.tables e below (s₁.setTop (mkF m 34 #[.val (.int p1), .val (.int p2), .val (.int p3), .val (.int p4), .val (.int p5), .unset, .unset, .unset] [(.int (240 : Int32)), (.int p1)])) _
        refine XS.iand X0.here hx rfl (hb hby d2_34) rfl ?_
        show Steps p.tables e below (s₁.setTop (mkF m 35 #[.val (.int p1), .val (.int p2), .val (.int p3), .val (.int p4), .val (.int p5), .unset, .unset, .unset] [(.int (p1 &&& (240 : Int32)))])) _
        refine XS.sipush X0.here hx rfl (hb hby d2_35) ?_
        exact kt
      by_cases hc38_30 : (p1 &&& (240 : Int32)) = (224 : Int32)
      · skip
        have pre31 : ∀ t, Steps p.tables e below (s₁.setTop (mkF m 70 #[.val (.int p1), .val (.int p2), .val (.int p3), .val (.int p4), .val (.int p5), .val (.int (3 : Int32)), .unset, .unset] [(.int p5), (.int (3 : Int32))])) t → Steps p.tables e below (s₁.setTop (entryFrame m #[(.int p1), (.int p2), (.int p3), (.int p4), (.int p5)] 8)) t := by
          intro t kt
          refine pre29 _ ?_
          show Steps p.tables e below (s₁.setTop (mkF m 38 #[.val (.int p1), .val (.int p2), .val (.int p3), .val (.int p4), .val (.int p5), .unset, .unset, .unset] [(.int (224 : Int32)), (.int (p1 &&& (240 : Int32)))])) _
          refine XS.icmpNo X0.here hx rfl (hb hby d2_38) rfl (XT.ii_ne_f hc38_30) ?_
          show Steps p.tables e below (s₁.setTop (mkF m 41 #[.val (.int p1), .val (.int p2), .val (.int p3), .val (.int p4), .val (.int p5), .unset, .unset, .unset] [])) _
          refine XS.iconst X0.here hx rfl (hb hby d2_41) ?_
          show Steps p.tables e below (s₁.setTop (mkF m 42 #[.val (.int p1), .val (.int p2), .val (.int p3), .val (.int p4), .val (.int p5), .unset, .unset, .unset] [(.int (3 : Int32))])) _
          refine XS.istore X0.here hx rfl (hb hby d2_42) rfl (l' := #[.val (.int p1), .val (.int p2), .val (.int p3), .val (.int p4), .val (.int p5), .val (.int (3 : Int32)), .unset, .unset]) rfl ?_
          show Steps p.tables e below (s₁.setTop (mkF m 44 #[.val (.int p1), .val (.int p2), .val (.int p3), .val (.int p4), .val (.int p5), .val (.int (3 : Int32)), .unset, .unset] [])) _
          refine XS.goto X0.here hx rfl (pc0 := 44) (pc' := 66) rfl (hb hby d2_44) (by decide) (by decide) ?_
          show Steps p.tables e below (s₁.setTop (mkF m 66 #[.val (.int p1), .val (.int p2), .val (.int p3), .val (.int p4), .val (.int p5), .val (.int (3 : Int32)), .unset, .unset] [])) _
          refine XS.iload X0.here hx rfl (hb hby d2_66) rfl ?_
          show Steps p.tables e below (s₁.setTop (mkF m 68 #[.val (.int p1), .val (.int p2), .val (.int p3), .val (.int p4), .val (.int p5), .val (.int (3 : Int32)), .unset, .unset] [(.int (3 : Int32))])) _
          refine XS.iload X0.here hx rfl (hb hby d2_68) rfl ?_
          exact kt
        by_cases hc70_32 : p5 < (3 : Int32)
        · skip
          have pre33 : ∀ t, Steps p.tables e below (s₁.setTop (mkF m 74 #[.val (.int p1), .val (.int p2), .val (.int p3), .val (.int p4), .val (.int p5), .val (.int (3 : Int32)), .unset, .unset] [(.int (0 : Int32))])) t → Steps p.tables e below (s₁.setTop (entryFrame m #[(.int p1), (.int p2), (.int p3), (.int p4), (.int p5)] 8)) t := by
            intro t kt
            refine pre31 _ ?_
            show Steps p.tables e below (s₁.setTop (mkF m 70 #[.val (.int p1), .val (.int p2), .val (.int p3), .val (.int p4), .val (.int p5), .val (.int (3 : Int32)), .unset, .unset] [(.int p5), (.int (3 : Int32))])) _
            refine XS.icmpNo X0.here hx rfl (hb hby d2_70) rfl (XT.ii_le_f hc70_32) ?_
            show Steps p.tables e below (s₁.setTop (mkF m 73 #[.val (.int p1), .val (.int p2), .val (.int p3), .val (.int p4), .val (.int p5), .val (.int (3 : Int32)), .unset, .unset] [])) _
            refine XS.iconst X0.here hx rfl (hb hby d2_73) ?_
            exact kt
          obtain ⟨fs, hr, hrun, hended, hW, hsame⟩ := X0.leave (v := some (.int (0 : Int32))) (fun h => by rw [Bd.returns] at h; cases h)
          refine ⟨_, _, pre33 _ ?_, hrun, hended, _, _, rfl, ?_, ⟨_, rfl⟩, hW, hsame.mono (by decide) (by decide)⟩
          · show Steps p.tables e below (s₁.setTop (mkF m 74 #[.val (.int p1), .val (.int p2), .val (.int p3), .val (.int p4), .val (.int p5), .val (.int (3 : Int32)), .unset, .unset] [(.int (0 : Int32))])) _
            exact owRetI X0 hx Bd.returns (hb hby d2_74) hr
          · show Q2 Z p1 p2 p3 p4 p5 h0 n0 _ s₁.heap _
            rw [e0]
            exact ⟨by unfold fn2; rw [if_neg hc4_2, if_neg hc21_8, if_pos hc38_30, if_pos hc70_32], N0, rfl⟩
        · skip
          obtain ⟨_, _, ⟨T34, L34, k34, n34⟩, -, X34, ⟨Lc34, hQ34, l34, y34, z34⟩, st34⟩ := Jvm.LawKit.callS X0 hx (y := (⟨"com/example/fama/fama/table/TableLinesSequenceLengthPinLaw", "cont", "(I)Z"⟩ : MethodName)) hown (mvT hZ (hw _ (List.mem_of_getElem? (i := 10) rfl))) (mvT hZ (hw _ (List.mem_of_getElem? (i := 11) rfl))) (mvT hZ (hw _ (List.mem_of_getElem? (i := 8) rfl))) (mvT hZ (hw _ (List.mem_of_getElem? (i := 12) rfl))) (by decide) (backOf (W := 0) (rm3 l Z a0 hw [] p2 h0 n0 Z0) hZ (hw _ (List.mem_of_getElem? (i := 12) rfl)) (hw _ (List.mem_of_getElem? (i := 8) rfl)) (by decide) (by decide)) (g := (mkF m 84 #[.val (.int p1), .val (.int p2), .val (.int p3), .val (.int p4), .val (.int p5), .val (.int (3 : Int32)), .unset, .unset] [(.int p2)])) rfl (by rw [hml]; rfl) (argsL := [(.int p2)]) (rest := []) (lenOf pd_0 rfl) rfl (by show 2 * 0 + _ ≤ _; exact Nat.le_of_eq rfl) (hb hby d2_84) (fun _ _ => ⟨rfl, e0, (by decide : 0 + 0 ≤ _), (by decide : 0 + 0 ≤ _)⟩)
          dsimp only [Pt.U, Pt.locs, Pt.cells, Pt.slots] at X34 l34 y34 z34 st34 hQ34
          subst l34 y34 z34
          obtain ⟨rfl, N34q, hE34⟩ := hQ34
          have N34 := Fr.app N0 N34q
          have pre35 : ∀ t, Steps p.tables e below (T34.setTop (mkF m 87 #[.val (.int p1), .val (.int p2), .val (.int p3), .val (.int p4), .val (.int p5), .val (.int (3 : Int32)), .unset, .unset] [(.int (fn3 p2))])) t → Steps p.tables e below (s₁.setTop (entryFrame m #[(.int p1), (.int p2), (.int p3), (.int p4), (.int p5)] 8)) t := by
            intro t kt
            refine pre31 _ ?_
            show Steps p.tables e below (s₁.setTop (mkF m 70 #[.val (.int p1), .val (.int p2), .val (.int p3), .val (.int p4), .val (.int p5), .val (.int (3 : Int32)), .unset, .unset] [(.int p5), (.int (3 : Int32))])) _
            refine XS.icmpYes X0.here hx rfl (pc0 := 70) (pc' := 75) rfl (hb hby d2_70) rfl (XT.ii_le_t hc70_32) (by decide) (by decide) ?_
            show Steps p.tables e below (s₁.setTop (mkF m 75 #[.val (.int p1), .val (.int p2), .val (.int p3), .val (.int p4), .val (.int p5), .val (.int (3 : Int32)), .unset, .unset] [])) _
            refine XS.iload X0.here hx rfl (hb hby d2_75) rfl ?_
            show Steps p.tables e below (s₁.setTop (mkF m 77 #[.val (.int p1), .val (.int p2), .val (.int p3), .val (.int p4), .val (.int p5), .val (.int (3 : Int32)), .unset, .unset] [(.int (3 : Int32))])) _
            refine XS.iconst X0.here hx rfl (hb hby d2_77) ?_
            show Steps p.tables e below (s₁.setTop (mkF m 78 #[.val (.int p1), .val (.int p2), .val (.int p3), .val (.int p4), .val (.int p5), .val (.int (3 : Int32)), .unset, .unset] [(.int (1 : Int32)), (.int (3 : Int32))])) _
            refine XS.icmpYes X0.here hx rfl (pc0 := 78) (pc' := 83) rfl (hb hby d2_78) rfl (XT.ii_ne_t (by decide)) (by decide) (by decide) ?_
            show Steps p.tables e below (s₁.setTop (mkF m 83 #[.val (.int p1), .val (.int p2), .val (.int p3), .val (.int p4), .val (.int p5), .val (.int (3 : Int32)), .unset, .unset] [])) _
            refine XS.iloadN X0.here hx rfl (hb hby d2_83) rfl ?_
            show Steps p.tables e below (s₁.setTop (mkF m 84 #[.val (.int p1), .val (.int p2), .val (.int p3), .val (.int p4), .val (.int p5), .val (.int (3 : Int32)), .unset, .unset] [(.int p2)])) _
            refine st34 _ ?_
            exact kt
          by_cases hc87_36 : (fn3 p2) = (0 : Int32)
          · skip
            have pre37 : ∀ t, Steps p.tables e below (T34.setTop (mkF m 91 #[.val (.int p1), .val (.int p2), .val (.int p3), .val (.int p4), .val (.int p5), .val (.int (3 : Int32)), .unset, .unset] [(.int (0 : Int32))])) t → Steps p.tables e below (s₁.setTop (entryFrame m #[(.int p1), (.int p2), (.int p3), (.int p4), (.int p5)] 8)) t := by
              intro t kt
              refine pre35 _ ?_
              show Steps p.tables e below (T34.setTop (mkF m 87 #[.val (.int p1), .val (.int p2), .val (.int p3), .val (.int p4), .val (.int p5), .val (.int (3 : Int32)), .unset, .unset] [(.int (fn3 p2))])) _
              refine XS.ifNo X34.here hx rfl (hb hby d2_87) rfl (XT.i0_ne_f hc87_36) ?_
              show Steps p.tables e below (T34.setTop (mkF m 90 #[.val (.int p1), .val (.int p2), .val (.int p3), .val (.int p4), .val (.int p5), .val (.int (3 : Int32)), .unset, .unset] [])) _
              refine XS.iconst X34.here hx rfl (hb hby d2_90) ?_
              exact kt
            obtain ⟨fs, hr, hrun, hended, hW, hsame⟩ := X34.leave (v := some (.int (0 : Int32))) (fun h => by rw [Bd.returns] at h; cases h)
            refine ⟨_, _, pre37 _ ?_, hrun, hended, _, _, rfl, ?_, ⟨_, rfl⟩, hW, hsame.mono (by decide) (by decide)⟩
            · show Steps p.tables e below (T34.setTop (mkF m 91 #[.val (.int p1), .val (.int p2), .val (.int p3), .val (.int p4), .val (.int p5), .val (.int (3 : Int32)), .unset, .unset] [(.int (0 : Int32))])) _
              exact owRetI X34 hx Bd.returns (hb hby d2_91) hr
            · show Q2 Z p1 p2 p3 p4 p5 h0 n0 _ T34.heap _
              rw [hE34]
              exact ⟨by unfold fn2; rw [if_neg hc4_2, if_neg hc21_8, if_pos hc38_30, if_neg hc70_32, if_pos hc87_36], N34, rfl⟩
          · skip
            obtain ⟨_, _, ⟨T38, L38, k38, n38⟩, -, X38, ⟨Lc38, hQ38, l38, y38, z38⟩, st38⟩ := Jvm.LawKit.callS X34 hx (y := (⟨"com/example/fama/fama/table/TableLinesSequenceLengthPinLaw", "cont", "(I)Z"⟩ : MethodName)) hown (mvT hZ (hw _ (List.mem_of_getElem? (i := 10) rfl))) (mvT hZ (hw _ (List.mem_of_getElem? (i := 11) rfl))) (mvT hZ (hw _ (List.mem_of_getElem? (i := 8) rfl))) (mvT hZ (hw _ (List.mem_of_getElem? (i := 12) rfl))) (by decide) (backOf (W := 0) (rm3 l Z a0 hw [] p3 h0 n0 Z0) hZ (hw _ (List.mem_of_getElem? (i := 12) rfl)) (hw _ (List.mem_of_getElem? (i := 8) rfl)) (by decide) (by decide)) (g := (mkF m 99 #[.val (.int p1), .val (.int p2), .val (.int p3), .val (.int p4), .val (.int p5), .val (.int (3 : Int32)), .unset, .unset] [(.int p3)])) rfl (by rw [hml]; rfl) (argsL := [(.int p3)]) (rest := []) (lenOf pd_0 rfl) rfl (by show 2 * 0 + _ ≤ _; exact Nat.le_of_eq rfl) (hb hby d2_99) (fun _ _ => ⟨rfl, hE34, (by decide : 0 + 0 ≤ _), (by decide : 0 + 0 ≤ _)⟩)
            dsimp only [Pt.U, Pt.locs, Pt.cells, Pt.slots] at X38 l38 y38 z38 st38 hQ38
            subst l38 y38 z38
            obtain ⟨rfl, N38q, hE38⟩ := hQ38
            have N38 := Fr.app N34 N38q
            have pre39 : ∀ t, Steps p.tables e below (T38.setTop (mkF m 102 #[.val (.int p1), .val (.int p2), .val (.int p3), .val (.int p4), .val (.int p5), .val (.int (3 : Int32)), .unset, .unset] [(.int (fn3 p3))])) t → Steps p.tables e below (s₁.setTop (entryFrame m #[(.int p1), (.int p2), (.int p3), (.int p4), (.int p5)] 8)) t := by
              intro t kt
              refine pre35 _ ?_
              show Steps p.tables e below (T34.setTop (mkF m 87 #[.val (.int p1), .val (.int p2), .val (.int p3), .val (.int p4), .val (.int p5), .val (.int (3 : Int32)), .unset, .unset] [(.int (fn3 p2))])) _
              refine XS.ifYes X34.here hx rfl (pc0 := 87) (pc' := 92) rfl (hb hby d2_87) rfl (XT.i0_ne_t hc87_36) (by decide) (by decide) ?_
              show Steps p.tables e below (T34.setTop (mkF m 92 #[.val (.int p1), .val (.int p2), .val (.int p3), .val (.int p4), .val (.int p5), .val (.int (3 : Int32)), .unset, .unset] [])) _
              refine XS.iload X34.here hx rfl (hb hby d2_92) rfl ?_
              show Steps p.tables e below (T34.setTop (mkF m 94 #[.val (.int p1), .val (.int p2), .val (.int p3), .val (.int p4), .val (.int p5), .val (.int (3 : Int32)), .unset, .unset] [(.int (3 : Int32))])) _
              refine XS.iconst X34.here hx rfl (hb hby d2_94) ?_
              show Steps p.tables e below (T34.setTop (mkF m 95 #[.val (.int p1), .val (.int p2), .val (.int p3), .val (.int p4), .val (.int p5), .val (.int (3 : Int32)), .unset, .unset] [(.int (3 : Int32)), (.int (3 : Int32))])) _
              refine XS.icmpNo X34.here hx rfl (hb hby d2_95) rfl (XT.ii_lt_f (by decide)) ?_
              show Steps p.tables e below (T34.setTop (mkF m 98 #[.val (.int p1), .val (.int p2), .val (.int p3), .val (.int p4), .val (.int p5), .val (.int (3 : Int32)), .unset, .unset] [])) _
              refine XS.iloadN X34.here hx rfl (hb hby d2_98) rfl ?_
              show Steps p.tables e below (T34.setTop (mkF m 99 #[.val (.int p1), .val (.int p2), .val (.int p3), .val (.int p4), .val (.int p5), .val (.int (3 : Int32)), .unset, .unset] [(.int p3)])) _
              refine st38 _ ?_
              exact kt
            by_cases hc102_40 : (fn3 p3) = (0 : Int32)
            · skip
              have pre41 : ∀ t, Steps p.tables e below (T38.setTop (mkF m 106 #[.val (.int p1), .val (.int p2), .val (.int p3), .val (.int p4), .val (.int p5), .val (.int (3 : Int32)), .unset, .unset] [(.int (0 : Int32))])) t → Steps p.tables e below (s₁.setTop (entryFrame m #[(.int p1), (.int p2), (.int p3), (.int p4), (.int p5)] 8)) t := by
                intro t kt
                refine pre39 _ ?_
                show Steps p.tables e below (T38.setTop (mkF m 102 #[.val (.int p1), .val (.int p2), .val (.int p3), .val (.int p4), .val (.int p5), .val (.int (3 : Int32)), .unset, .unset] [(.int (fn3 p3))])) _
                refine XS.ifNo X38.here hx rfl (hb hby d2_102) rfl (XT.i0_ne_f hc102_40) ?_
                show Steps p.tables e below (T38.setTop (mkF m 105 #[.val (.int p1), .val (.int p2), .val (.int p3), .val (.int p4), .val (.int p5), .val (.int (3 : Int32)), .unset, .unset] [])) _
                refine XS.iconst X38.here hx rfl (hb hby d2_105) ?_
                exact kt
              obtain ⟨fs, hr, hrun, hended, hW, hsame⟩ := X38.leave (v := some (.int (0 : Int32))) (fun h => by rw [Bd.returns] at h; cases h)
              refine ⟨_, _, pre41 _ ?_, hrun, hended, _, _, rfl, ?_, ⟨_, rfl⟩, hW, hsame.mono (by decide) (by decide)⟩
              · show Steps p.tables e below (T38.setTop (mkF m 106 #[.val (.int p1), .val (.int p2), .val (.int p3), .val (.int p4), .val (.int p5), .val (.int (3 : Int32)), .unset, .unset] [(.int (0 : Int32))])) _
                exact owRetI X38 hx Bd.returns (hb hby d2_106) hr
              · show Q2 Z p1 p2 p3 p4 p5 h0 n0 _ T38.heap _
                rw [hE38]
                exact ⟨by unfold fn2; rw [if_neg hc4_2, if_neg hc21_8, if_pos hc38_30, if_neg hc70_32, if_neg hc87_36, if_pos hc102_40], N38, rfl⟩
            · skip
              have pre42 : ∀ t, Steps p.tables e below (T38.setTop (mkF m 224 #[.val (.int p1), .val (.int p2), .val (.int p3), .val (.int p4), .val (.int p5), .val (.int (3 : Int32)), .val (.int ((((p1 &&& (15 : Int32)) <<< ((12 : Int32) &&& 31)) ||| ((p2 &&& (63 : Int32)) <<< ((6 : Int32) &&& 31))) ||| (p3 &&& (63 : Int32)))), .val (.int (2048 : Int32))] [(.int (2048 : Int32)), (.int ((((p1 &&& (15 : Int32)) <<< ((12 : Int32) &&& 31)) ||| ((p2 &&& (63 : Int32)) <<< ((6 : Int32) &&& 31))) ||| (p3 &&& (63 : Int32))))])) t → Steps p.tables e below (s₁.setTop (entryFrame m #[(.int p1), (.int p2), (.int p3), (.int p4), (.int p5)] 8)) t := by
                intro t kt
                refine pre39 _ ?_
                show Steps p.tables e below (T38.setTop (mkF m 102 #[.val (.int p1), .val (.int p2), .val (.int p3), .val (.int p4), .val (.int p5), .val (.int (3 : Int32)), .unset, .unset] [(.int (fn3 p3))])) _
                refine XS.ifYes X38.here hx rfl (pc0 := 102) (pc' := 107) rfl (hb hby d2_102) rfl (XT.i0_ne_t hc102_40) (by decide) (by decide) ?_
                show Steps p.tables e below (T38.setTop (mkF m 107 #[.val (.int p1), .val (.int p2), .val (.int p3), .val (.int p4), .val (.int p5), .val (.int (3 : Int32)), .unset, .unset] [])) _
                refine XS.iload X38.here hx rfl (hb hby d2_107) rfl ?_
                show Steps p.tables e below (T38.setTop (mkF m 109 #[.val (.int p1), .val (.int p2), .val (.int p3), .val (.int p4), .val (.int p5), .val (.int (3 : Int32)), .unset, .unset] [(.int (3 : Int32))])) _
                refine XS.iconst X38.here hx rfl (hb hby d2_109) ?_
                show Steps p.tables e below (T38.setTop (mkF m 110 #[.val (.int p1), .val (.int p2), .val (.int p3), .val (.int p4), .val (.int p5), .val (.int (3 : Int32)), .unset, .unset] [(.int (4 : Int32)), (.int (3 : Int32))])) _
                refine XS.icmpYes X38.here hx rfl (pc0 := 110) (pc' := 122) rfl (hb hby d2_110) rfl (XT.ii_ne_t (by decide)) (by decide) (by decide) ?_
                show Steps p.tables e below (T38.setTop (mkF m 122 #[.val (.int p1), .val (.int p2), .val (.int p3), .val (.int p4), .val (.int p5), .val (.int (3 : Int32)), .unset, .unset] [])) _
                refine XS.iload X38.here hx rfl (hb hby d2_122) rfl ?_
                show Steps p.tables e below (T38.setTop (mkF m 124 #[.val (.int p1), .val (.int p2), .val (.int p3), .val (.int p4), .val (.int p5), .val (.int (3 : Int32)), .unset, .unset] [(.int (3 : Int32))])) _
                refine XS.iconst X38.here hx rfl (hb hby d2_124) ?_
                show Steps p.tables e below (T38.setTop (mkF m 125 #[.val (.int p1), .val (.int p2), .val (.int p3), .val (.int p4), .val (.int p5), .val (.int (3 : Int32)), .unset, .unset] [(.int (2 : Int32)), (.int (3 : Int32))])) _
                refine XS.icmpYes X38.here hx rfl (pc0 := 125) (pc' := 150) rfl (hb hby d2_125) rfl (XT.ii_ne_t (by decide)) (by decide) (by decide) ?_
                show Steps p.tables e below (T38.setTop (mkF m 150 #[.val (.int p1), .val (.int p2), .val (.int p3), .val (.int p4), .val (.int p5), .val (.int (3 : Int32)), .unset, .unset] [])) _
                refine XS.iload X38.here hx rfl (hb hby d2_150) rfl ?_
                show Steps p.tables e below (T38.setTop (mkF m 152 #[.val (.int p1), .val (.int p2), .val (.int p3), .val (.int p4), .val (.int p5), .val (.int (3 : Int32)), .unset, .unset] [(.int (3 : Int32))])) _
                refine XS.iconst X38.here hx rfl (hb hby d2_152) ?_
                show Steps p.tables e below (T38.setTop (mkF m 153 #[.val (.int p1), .val (.int p2), .val (.int p3), .val (.int p4), .val (.int p5), .val (.int (3 : Int32)), .unset, .unset] [(.int (3 : Int32)), (.int (3 : Int32))])) _
                refine XS.icmpNo X38.here hx rfl (hb hby d2_153) rfl (XT.ii_ne_f (by decide)) ?_
                show Steps p.tables e below (T38.setTop (mkF m 156 #[.val (.int p1), .val (.int p2), .val (.int p3), .val (.int p4), .val (.int p5), .val (.int (3 : Int32)), .unset, .unset] [])) _
                refine XS.iloadN X38.here hx rfl (hb hby d2_156) rfl ?_
                show Steps p.tables e below (T38.setTop (mkF m 157 #[.val (.int p1), .val (.int p2), .val (.int p3), .val (.int p4), .val (.int p5), .val (.int (3 : Int32)), .unset, .unset] [(.int p1)])) _
                refine XS.bipush X38.here hx rfl (hb hby d2_157) ?_
                show Steps p.tables e below (T38.setTop (mkF m 159 #[.val (.int p1), .val (.int p2), .val (.int p3), .val (.int p4), .val (.int p5), .val (.int (3 : Int32)), .unset, .unset] [(.int (15 : Int32)), (.int p1)])) _
                refine XS.iand X38.here hx rfl (hb hby d2_159) rfl ?_
                show Steps p.tables e below (T38.setTop (mkF m 160 #[.val (.int p1), .val (.int p2), .val (.int p3), .val (.int p4), .val (.int p5), .val (.int (3 : Int32)), .unset, .unset] [(.int (p1 &&& (15 : Int32)))])) _
                refine XS.bipush X38.here hx rfl (hb hby d2_160) ?_
                show Steps p.tables e below (T38.setTop (mkF m 162 #[.val (.int p1), .val (.int p2), .val (.int p3), .val (.int p4), .val (.int p5), .val (.int (3 : Int32)), .unset, .unset] [(.int (12 : Int32)), (.int (p1 &&& (15 : Int32)))])) _
                refine XS.ishl X38.here hx rfl (hb hby d2_162) rfl ?_
                show Steps p.tables e below (T38.setTop (mkF m 163 #[.val (.int p1), .val (.int p2), .val (.int p3), .val (.int p4), .val (.int p5), .val (.int (3 : Int32)), .unset, .unset] [(.int ((p1 &&& (15 : Int32)) <<< ((12 : Int32) &&& 31)))])) _
                refine XS.iloadN X38.here hx rfl (hb hby d2_163) rfl ?_
                show Steps p.tables e below (T38.setTop (mkF m 164 #[.val (.int p1), .val (.int p2), .val (.int p3), .val (.int p4), .val (.int p5), .val (.int (3 : Int32)), .unset, .unset] [(.int p2), (.int ((p1 &&& (15 : Int32)) <<< ((12 : Int32) &&& 31)))])) _
                refine XS.bipush X38.here hx rfl (hb hby d2_164) ?_
                show Steps p.tables e below (T38.setTop (mkF m 166 #[.val (.int p1), .val (.int p2), .val (.int p3), .val (.int p4), .val (.int p5), .val (.int (3 : Int32)), .unset, .unset] [(.int (63 : Int32)), (.int p2), (.int ((p1 &&& (15 : Int32)) <<< ((12 : Int32) &&& 31)))])) _
                refine XS.iand X38.here hx rfl (hb hby d2_166) rfl ?_
                show Steps p.tables e below (T38.setTop (mkF m 167 #[.val (.int p1), .val (.int p2), .val (.int p3), .val (.int p4), .val (.int p5), .val (.int (3 : Int32)), .unset, .unset] [(.int (p2 &&& (63 : Int32))), (.int ((p1 &&& (15 : Int32)) <<< ((12 : Int32) &&& 31)))])) _
                refine XS.bipush X38.here hx rfl (hb hby d2_167) ?_
                show Steps p.tables e below (T38.setTop (mkF m 169 #[.val (.int p1), .val (.int p2), .val (.int p3), .val (.int p4), .val (.int p5), .val (.int (3 : Int32)), .unset, .unset] [(.int (6 : Int32)), (.int (p2 &&& (63 : Int32))), (.int ((p1 &&& (15 : Int32)) <<< ((12 : Int32) &&& 31)))])) _
                refine XS.ishl X38.here hx rfl (hb hby d2_169) rfl ?_
                show Steps p.tables e below (T38.setTop (mkF m 170 #[.val (.int p1), .val (.int p2), .val (.int p3), .val (.int p4), .val (.int p5), .val (.int (3 : Int32)), .unset, .unset] [(.int ((p2 &&& (63 : Int32)) <<< ((6 : Int32) &&& 31))), (.int ((p1 &&& (15 : Int32)) <<< ((12 : Int32) &&& 31)))])) _
                refine XS.ior X38.here hx rfl (hb hby d2_170) rfl ?_
                show Steps p.tables e below (T38.setTop (mkF m 171 #[.val (.int p1), .val (.int p2), .val (.int p3), .val (.int p4), .val (.int p5), .val (.int (3 : Int32)), .unset, .unset] [(.int (((p1 &&& (15 : Int32)) <<< ((12 : Int32) &&& 31)) ||| ((p2 &&& (63 : Int32)) <<< ((6 : Int32) &&& 31))))])) _
                refine XS.iloadN X38.here hx rfl (hb hby d2_171) rfl ?_
                show Steps p.tables e below (T38.setTop (mkF m 172 #[.val (.int p1), .val (.int p2), .val (.int p3), .val (.int p4), .val (.int p5), .val (.int (3 : Int32)), .unset, .unset] [(.int p3), (.int (((p1 &&& (15 : Int32)) <<< ((12 : Int32) &&& 31)) ||| ((p2 &&& (63 : Int32)) <<< ((6 : Int32) &&& 31))))])) _
                refine XS.bipush X38.here hx rfl (hb hby d2_172) ?_
                show Steps p.tables e below (T38.setTop (mkF m 174 #[.val (.int p1), .val (.int p2), .val (.int p3), .val (.int p4), .val (.int p5), .val (.int (3 : Int32)), .unset, .unset] [(.int (63 : Int32)), (.int p3), (.int (((p1 &&& (15 : Int32)) <<< ((12 : Int32) &&& 31)) ||| ((p2 &&& (63 : Int32)) <<< ((6 : Int32) &&& 31))))])) _
                refine XS.iand X38.here hx rfl (hb hby d2_174) rfl ?_
                show Steps p.tables e below (T38.setTop (mkF m 175 #[.val (.int p1), .val (.int p2), .val (.int p3), .val (.int p4), .val (.int p5), .val (.int (3 : Int32)), .unset, .unset] [(.int (p3 &&& (63 : Int32))), (.int (((p1 &&& (15 : Int32)) <<< ((12 : Int32) &&& 31)) ||| ((p2 &&& (63 : Int32)) <<< ((6 : Int32) &&& 31))))])) _
                refine XS.ior X38.here hx rfl (hb hby d2_175) rfl ?_
                show Steps p.tables e below (T38.setTop (mkF m 176 #[.val (.int p1), .val (.int p2), .val (.int p3), .val (.int p4), .val (.int p5), .val (.int (3 : Int32)), .unset, .unset] [(.int ((((p1 &&& (15 : Int32)) <<< ((12 : Int32) &&& 31)) ||| ((p2 &&& (63 : Int32)) <<< ((6 : Int32) &&& 31))) ||| (p3 &&& (63 : Int32))))])) _
                refine XS.istore X38.here hx rfl (hb hby d2_176) rfl (l' := #[.val (.int p1), .val (.int p2), .val (.int p3), .val (.int p4), .val (.int p5), .val (.int (3 : Int32)), .val (.int ((((p1 &&& (15 : Int32)) <<< ((12 : Int32) &&& 31)) ||| ((p2 &&& (63 : Int32)) <<< ((6 : Int32) &&& 31))) ||| (p3 &&& (63 : Int32)))), .unset]) rfl ?_
                show Steps p.tables e below (T38.setTop (mkF m 178 #[.val (.int p1), .val (.int p2), .val (.int p3), .val (.int p4), .val (.int p5), .val (.int (3 : Int32)), .val (.int ((((p1 &&& (15 : Int32)) <<< ((12 : Int32) &&& 31)) ||| ((p2 &&& (63 : Int32)) <<< ((6 : Int32) &&& 31))) ||| (p3 &&& (63 : Int32)))), .unset] [])) _
                refine XS.sipush X38.here hx rfl (hb hby d2_178) ?_
                show Steps p.tables e below (T38.setTop (mkF m 181 #[.val (.int p1), .val (.int p2), .val (.int p3), .val (.int p4), .val (.int p5), .val (.int (3 : Int32)), .val (.int ((((p1 &&& (15 : Int32)) <<< ((12 : Int32) &&& 31)) ||| ((p2 &&& (63 : Int32)) <<< ((6 : Int32) &&& 31))) ||| (p3 &&& (63 : Int32)))), .unset] [(.int (2048 : Int32))])) _
                refine XS.istore X38.here hx rfl (hb hby d2_181) rfl (l' := #[.val (.int p1), .val (.int p2), .val (.int p3), .val (.int p4), .val (.int p5), .val (.int (3 : Int32)), .val (.int ((((p1 &&& (15 : Int32)) <<< ((12 : Int32) &&& 31)) ||| ((p2 &&& (63 : Int32)) <<< ((6 : Int32) &&& 31))) ||| (p3 &&& (63 : Int32)))), .val (.int (2048 : Int32))]) rfl ?_
                show Steps p.tables e below (T38.setTop (mkF m 183 #[.val (.int p1), .val (.int p2), .val (.int p3), .val (.int p4), .val (.int p5), .val (.int (3 : Int32)), .val (.int ((((p1 &&& (15 : Int32)) <<< ((12 : Int32) &&& 31)) ||| ((p2 &&& (63 : Int32)) <<< ((6 : Int32) &&& 31))) ||| (p3 &&& (63 : Int32)))), .val (.int (2048 : Int32))] [])) _
                refine XS.goto X38.here hx rfl (pc0 := 183) (pc' := 220) rfl (hb hby d2_183) (by decide) (by decide) ?_
                show Steps p.tables e below (T38.setTop (mkF m 220 #[.val (.int p1), .val (.int p2), .val (.int p3), .val (.int p4), .val (.int p5), .val (.int (3 : Int32)), .val (.int ((((p1 &&& (15 : Int32)) <<< ((12 : Int32) &&& 31)) ||| ((p2 &&& (63 : Int32)) <<< ((6 : Int32) &&& 31))) ||| (p3 &&& (63 : Int32)))), .val (.int (2048 : Int32))] [])) _
                refine XS.iload X38.here hx rfl (hb hby d2_220) rfl ?_
                show Steps p.tables e below (T38.setTop (mkF m 222 #[.val (.int p1), .val (.int p2), .val (.int p3), .val (.int p4), .val (.int p5), .val (.int (3 : Int32)), .val (.int ((((p1 &&& (15 : Int32)) <<< ((12 : Int32) &&& 31)) ||| ((p2 &&& (63 : Int32)) <<< ((6 : Int32) &&& 31))) ||| (p3 &&& (63 : Int32)))), .val (.int (2048 : Int32))] [(.int ((((p1 &&& (15 : Int32)) <<< ((12 : Int32) &&& 31)) ||| ((p2 &&& (63 : Int32)) <<< ((6 : Int32) &&& 31))) ||| (p3 &&& (63 : Int32))))])) _
                refine XS.iload X38.here hx rfl (hb hby d2_222) rfl ?_
                exact kt
              by_cases hc224_43 : ((((p1 &&& (15 : Int32)) <<< ((12 : Int32) &&& 31)) ||| ((p2 &&& (63 : Int32)) <<< ((6 : Int32) &&& 31))) ||| (p3 &&& (63 : Int32))) < (2048 : Int32)
              · skip
                have pre44 : ∀ t, Steps p.tables e below (T38.setTop (mkF m 228 #[.val (.int p1), .val (.int p2), .val (.int p3), .val (.int p4), .val (.int p5), .val (.int (3 : Int32)), .val (.int ((((p1 &&& (15 : Int32)) <<< ((12 : Int32) &&& 31)) ||| ((p2 &&& (63 : Int32)) <<< ((6 : Int32) &&& 31))) ||| (p3 &&& (63 : Int32)))), .val (.int (2048 : Int32))] [(.int (0 : Int32))])) t → Steps p.tables e below (s₁.setTop (entryFrame m #[(.int p1), (.int p2), (.int p3), (.int p4), (.int p5)] 8)) t := by
                  intro t kt
                  refine pre42 _ ?_
                  show Steps p.tables e below (T38.setTop (mkF m 224 #[.val (.int p1), .val (.int p2), .val (.int p3), .val (.int p4), .val (.int p5), .val (.int (3 : Int32)), .val (.int ((((p1 &&& (15 : Int32)) <<< ((12 : Int32) &&& 31)) ||| ((p2 &&& (63 : Int32)) <<< ((6 : Int32) &&& 31))) ||| (p3 &&& (63 : Int32)))), .val (.int (2048 : Int32))] [(.int (2048 : Int32)), (.int ((((p1 &&& (15 : Int32)) <<< ((12 : Int32) &&& 31)) ||| ((p2 &&& (63 : Int32)) <<< ((6 : Int32) &&& 31))) ||| (p3 &&& (63 : Int32))))])) _
                  refine XS.icmpNo X38.here hx rfl (hb hby d2_224) rfl (XT.ii_ge_f hc224_43) ?_
                  show Steps p.tables e below (T38.setTop (mkF m 227 #[.val (.int p1), .val (.int p2), .val (.int p3), .val (.int p4), .val (.int p5), .val (.int (3 : Int32)), .val (.int ((((p1 &&& (15 : Int32)) <<< ((12 : Int32) &&& 31)) ||| ((p2 &&& (63 : Int32)) <<< ((6 : Int32) &&& 31))) ||| (p3 &&& (63 : Int32)))), .val (.int (2048 : Int32))] [])) _
                  refine XS.iconst X38.here hx rfl (hb hby d2_227) ?_
                  exact kt
                obtain ⟨fs, hr, hrun, hended, hW, hsame⟩ := X38.leave (v := some (.int (0 : Int32))) (fun h => by rw [Bd.returns] at h; cases h)
                refine ⟨_, _, pre44 _ ?_, hrun, hended, _, _, rfl, ?_, ⟨_, rfl⟩, hW, hsame.mono (by decide) (by decide)⟩
                · show Steps p.tables e below (T38.setTop (mkF m 228 #[.val (.int p1), .val (.int p2), .val (.int p3), .val (.int p4), .val (.int p5), .val (.int (3 : Int32)), .val (.int ((((p1 &&& (15 : Int32)) <<< ((12 : Int32) &&& 31)) ||| ((p2 &&& (63 : Int32)) <<< ((6 : Int32) &&& 31))) ||| (p3 &&& (63 : Int32)))), .val (.int (2048 : Int32))] [(.int (0 : Int32))])) _
                  exact owRetI X38 hx Bd.returns (hb hby d2_228) hr
                · show Q2 Z p1 p2 p3 p4 p5 h0 n0 _ T38.heap _
                  rw [hE38]
                  exact ⟨by unfold fn2; rw [if_neg hc4_2, if_neg hc21_8, if_pos hc38_30, if_neg hc70_32, if_neg hc87_36, if_neg hc102_40, if_pos hc224_43], N38, rfl⟩
              · skip
                have pre45 : ∀ t, Steps p.tables e below (T38.setTop (mkF m 233 #[.val (.int p1), .val (.int p2), .val (.int p3), .val (.int p4), .val (.int p5), .val (.int (3 : Int32)), .val (.int ((((p1 &&& (15 : Int32)) <<< ((12 : Int32) &&& 31)) ||| ((p2 &&& (63 : Int32)) <<< ((6 : Int32) &&& 31))) ||| (p3 &&& (63 : Int32)))), .val (.int (2048 : Int32))] [(.int (1114111 : Int32)), (.int ((((p1 &&& (15 : Int32)) <<< ((12 : Int32) &&& 31)) ||| ((p2 &&& (63 : Int32)) <<< ((6 : Int32) &&& 31))) ||| (p3 &&& (63 : Int32))))])) t → Steps p.tables e below (s₁.setTop (entryFrame m #[(.int p1), (.int p2), (.int p3), (.int p4), (.int p5)] 8)) t := by
                  intro t kt
                  refine pre42 _ ?_
                  show Steps p.tables e below (T38.setTop (mkF m 224 #[.val (.int p1), .val (.int p2), .val (.int p3), .val (.int p4), .val (.int p5), .val (.int (3 : Int32)), .val (.int ((((p1 &&& (15 : Int32)) <<< ((12 : Int32) &&& 31)) ||| ((p2 &&& (63 : Int32)) <<< ((6 : Int32) &&& 31))) ||| (p3 &&& (63 : Int32)))), .val (.int (2048 : Int32))] [(.int (2048 : Int32)), (.int ((((p1 &&& (15 : Int32)) <<< ((12 : Int32) &&& 31)) ||| ((p2 &&& (63 : Int32)) <<< ((6 : Int32) &&& 31))) ||| (p3 &&& (63 : Int32))))])) _
                  refine XS.icmpYes X38.here hx rfl (pc0 := 224) (pc' := 229) rfl (hb hby d2_224) rfl (XT.ii_ge_t hc224_43) (by decide) (by decide) ?_
                  show Steps p.tables e below (T38.setTop (mkF m 229 #[.val (.int p1), .val (.int p2), .val (.int p3), .val (.int p4), .val (.int p5), .val (.int (3 : Int32)), .val (.int ((((p1 &&& (15 : Int32)) <<< ((12 : Int32) &&& 31)) ||| ((p2 &&& (63 : Int32)) <<< ((6 : Int32) &&& 31))) ||| (p3 &&& (63 : Int32)))), .val (.int (2048 : Int32))] [])) _
                  refine XS.iload X38.here hx rfl (hb hby d2_229) rfl ?_
                  show Steps p.tables e below (T38.setTop (mkF m 231 #[.val (.int p1), .val (.int p2), .val (.int p3), .val (.int p4), .val (.int p5), .val (.int (3 : Int32)), .val (.int ((((p1 &&& (15 : Int32)) <<< ((12 : Int32) &&& 31)) ||| ((p2 &&& (63 : Int32)) <<< ((6 : Int32) &&& 31))) ||| (p3 &&& (63 : Int32)))), .val (.int (2048 : Int32))] [(.int ((((p1 &&& (15 : Int32)) <<< ((12 : Int32) &&& 31)) ||| ((p2 &&& (63 : Int32)) <<< ((6 : Int32) &&& 31))) ||| (p3 &&& (63 : Int32))))])) _
                  refine Stand.ldcI (g := (mkF m 231 #[.val (.int p1), .val (.int p2), .val (.int p3), .val (.int p4), .val (.int p5), .val (.int (3 : Int32)), .val (.int ((((p1 &&& (15 : Int32)) <<< ((12 : Int32) &&& 31)) ||| ((p2 &&& (63 : Int32)) <<< ((6 : Int32) &&& 31))) ||| (p3 &&& (63 : Int32)))), .val (.int (2048 : Int32))] [(.int ((((p1 &&& (15 : Int32)) <<< ((12 : Int32) &&& 31)) ||| ((p2 &&& (63 : Int32)) <<< ((6 : Int32) &&& 31))) ||| (p3 &&& (63 : Int32))))])) X38 hx hown (mvT hZ (hw _ (List.mem_of_getElem? (i := 13) rfl))) rfl (hb hby d2_231) ?_
                  exact kt
                by_cases hc233_46 : (1114111 : Int32) < ((((p1 &&& (15 : Int32)) <<< ((12 : Int32) &&& 31)) ||| ((p2 &&& (63 : Int32)) <<< ((6 : Int32) &&& 31))) ||| (p3 &&& (63 : Int32)))
                · skip
                  have pre47 : ∀ t, Steps p.tables e below (T38.setTop (mkF m 237 #[.val (.int p1), .val (.int p2), .val (.int p3), .val (.int p4), .val (.int p5), .val (.int (3 : Int32)), .val (.int ((((p1 &&& (15 : Int32)) <<< ((12 : Int32) &&& 31)) ||| ((p2 &&& (63 : Int32)) <<< ((6 : Int32) &&& 31))) ||| (p3 &&& (63 : Int32)))), .val (.int (2048 : Int32))] [(.int (0 : Int32))])) t → Steps p.tables e below (s₁.setTop (entryFrame m #[(.int p1), (.int p2), (.int p3), (.int p4), (.int p5)] 8)) t := by
                    intro t kt
                    refine pre45 _ ?_
                    show Steps p.tables e below (T38.setTop (mkF m 233 #[.val (.int p1), .val (.int p2), .val (.int p3), .val (.int p4), .val (.int p5), .val (.int (3 : Int32)), .val (.int ((((p1 &&& (15 : Int32)) <<< ((12 : Int32) &&& 31)) ||| ((p2 &&& (63 : Int32)) <<< ((6 : Int32) &&& 31))) ||| (p3 &&& (63 : Int32)))), .val (.int (2048 : Int32))] [(.int (1114111 : Int32)), (.int ((((p1 &&& (15 : Int32)) <<< ((12 : Int32) &&& 31)) ||| ((p2 &&& (63 : Int32)) <<< ((6 : Int32) &&& 31))) ||| (p3 &&& (63 : Int32))))])) _
                    refine XS.icmpNo X38.here hx rfl (hb hby d2_233) rfl (XT.ii_le_f hc233_46) ?_
                    show Steps p.tables e below (T38.setTop (mkF m 236 #[.val (.int p1), .val (.int p2), .val (.int p3), .val (.int p4), .val (.int p5), .val (.int (3 : Int32)), .val (.int ((((p1 &&& (15 : Int32)) <<< ((12 : Int32) &&& 31)) ||| ((p2 &&& (63 : Int32)) <<< ((6 : Int32) &&& 31))) ||| (p3 &&& (63 : Int32)))), .val (.int (2048 : Int32))] [])) _
                    refine XS.iconst X38.here hx rfl (hb hby d2_236) ?_
                    exact kt
                  obtain ⟨fs, hr, hrun, hended, hW, hsame⟩ := X38.leave (v := some (.int (0 : Int32))) (fun h => by rw [Bd.returns] at h; cases h)
                  refine ⟨_, _, pre47 _ ?_, hrun, hended, _, _, rfl, ?_, ⟨_, rfl⟩, hW, hsame.mono (by decide) (by decide)⟩
                  · show Steps p.tables e below (T38.setTop (mkF m 237 #[.val (.int p1), .val (.int p2), .val (.int p3), .val (.int p4), .val (.int p5), .val (.int (3 : Int32)), .val (.int ((((p1 &&& (15 : Int32)) <<< ((12 : Int32) &&& 31)) ||| ((p2 &&& (63 : Int32)) <<< ((6 : Int32) &&& 31))) ||| (p3 &&& (63 : Int32)))), .val (.int (2048 : Int32))] [(.int (0 : Int32))])) _
                    exact owRetI X38 hx Bd.returns (hb hby d2_237) hr
                  · show Q2 Z p1 p2 p3 p4 p5 h0 n0 _ T38.heap _
                    rw [hE38]
                    exact ⟨by unfold fn2; rw [if_neg hc4_2, if_neg hc21_8, if_pos hc38_30, if_neg hc70_32, if_neg hc87_36, if_neg hc102_40, if_neg hc224_43, if_pos hc233_46], N38, rfl⟩
                · skip
                  have pre48 : ∀ t, Steps p.tables e below (T38.setTop (mkF m 242 #[.val (.int p1), .val (.int p2), .val (.int p3), .val (.int p4), .val (.int p5), .val (.int (3 : Int32)), .val (.int ((((p1 &&& (15 : Int32)) <<< ((12 : Int32) &&& 31)) ||| ((p2 &&& (63 : Int32)) <<< ((6 : Int32) &&& 31))) ||| (p3 &&& (63 : Int32)))), .val (.int (2048 : Int32))] [(.int (55296 : Int32)), (.int ((((p1 &&& (15 : Int32)) <<< ((12 : Int32) &&& 31)) ||| ((p2 &&& (63 : Int32)) <<< ((6 : Int32) &&& 31))) ||| (p3 &&& (63 : Int32))))])) t → Steps p.tables e below (s₁.setTop (entryFrame m #[(.int p1), (.int p2), (.int p3), (.int p4), (.int p5)] 8)) t := by
                    intro t kt
                    refine pre45 _ ?_
                    show Steps p.tables e below (T38.setTop (mkF m 233 #[.val (.int p1), .val (.int p2), .val (.int p3), .val (.int p4), .val (.int p5), .val (.int (3 : Int32)), .val (.int ((((p1 &&& (15 : Int32)) <<< ((12 : Int32) &&& 31)) ||| ((p2 &&& (63 : Int32)) <<< ((6 : Int32) &&& 31))) ||| (p3 &&& (63 : Int32)))), .val (.int (2048 : Int32))] [(.int (1114111 : Int32)), (.int ((((p1 &&& (15 : Int32)) <<< ((12 : Int32) &&& 31)) ||| ((p2 &&& (63 : Int32)) <<< ((6 : Int32) &&& 31))) ||| (p3 &&& (63 : Int32))))])) _
                    refine XS.icmpYes X38.here hx rfl (pc0 := 233) (pc' := 238) rfl (hb hby d2_233) rfl (XT.ii_le_t hc233_46) (by decide) (by decide) ?_
                    show Steps p.tables e below (T38.setTop (mkF m 238 #[.val (.int p1), .val (.int p2), .val (.int p3), .val (.int p4), .val (.int p5), .val (.int (3 : Int32)), .val (.int ((((p1 &&& (15 : Int32)) <<< ((12 : Int32) &&& 31)) ||| ((p2 &&& (63 : Int32)) <<< ((6 : Int32) &&& 31))) ||| (p3 &&& (63 : Int32)))), .val (.int (2048 : Int32))] [])) _
                    refine XS.iload X38.here hx rfl (hb hby d2_238) rfl ?_
                    show Steps p.tables e below (T38.setTop (mkF m 240 #[.val (.int p1), .val (.int p2), .val (.int p3), .val (.int p4), .val (.int p5), .val (.int (3 : Int32)), .val (.int ((((p1 &&& (15 : Int32)) <<< ((12 : Int32) &&& 31)) ||| ((p2 &&& (63 : Int32)) <<< ((6 : Int32) &&& 31))) ||| (p3 &&& (63 : Int32)))), .val (.int (2048 : Int32))] [(.int ((((p1 &&& (15 : Int32)) <<< ((12 : Int32) &&& 31)) ||| ((p2 &&& (63 : Int32)) <<< ((6 : Int32) &&& 31))) ||| (p3 &&& (63 : Int32))))])) _
                    refine Stand.ldcI (g := (mkF m 240 #[.val (.int p1), .val (.int p2), .val (.int p3), .val (.int p4), .val (.int p5), .val (.int (3 : Int32)), .val (.int ((((p1 &&& (15 : Int32)) <<< ((12 : Int32) &&& 31)) ||| ((p2 &&& (63 : Int32)) <<< ((6 : Int32) &&& 31))) ||| (p3 &&& (63 : Int32)))), .val (.int (2048 : Int32))] [(.int ((((p1 &&& (15 : Int32)) <<< ((12 : Int32) &&& 31)) ||| ((p2 &&& (63 : Int32)) <<< ((6 : Int32) &&& 31))) ||| (p3 &&& (63 : Int32))))])) X38 hx hown (mvT hZ (hw _ (List.mem_of_getElem? (i := 14) rfl))) rfl (hb hby d2_240) ?_
                    exact kt
                  by_cases hc242_49 : ((((p1 &&& (15 : Int32)) <<< ((12 : Int32) &&& 31)) ||| ((p2 &&& (63 : Int32)) <<< ((6 : Int32) &&& 31))) ||| (p3 &&& (63 : Int32))) < (55296 : Int32)
                  · skip
                    have pre50 : ∀ t, Steps p.tables e below (T38.setTop (mkF m 256 #[.val (.int p1), .val (.int p2), .val (.int p3), .val (.int p4), .val (.int p5), .val (.int (3 : Int32)), .val (.int ((((p1 &&& (15 : Int32)) <<< ((12 : Int32) &&& 31)) ||| ((p2 &&& (63 : Int32)) <<< ((6 : Int32) &&& 31))) ||| (p3 &&& (63 : Int32)))), .val (.int (2048 : Int32))] [(.int (3 : Int32))])) t → Steps p.tables e below (s₁.setTop (entryFrame m #[(.int p1), (.int p2), (.int p3), (.int p4), (.int p5)] 8)) t := by
                      intro t kt
                      refine pre48 _ ?_
                      show Steps p.tables e below (T38.setTop (mkF m 242 #[.val (.int p1), .val (.int p2), .val (.int p3), .val (.int p4), .val (.int p5), .val (.int (3 : Int32)), .val (.int ((((p1 &&& (15 : Int32)) <<< ((12 : Int32) &&& 31)) ||| ((p2 &&& (63 : Int32)) <<< ((6 : Int32) &&& 31))) ||| (p3 &&& (63 : Int32)))), .val (.int (2048 : Int32))] [(.int (55296 : Int32)), (.int ((((p1 &&& (15 : Int32)) <<< ((12 : Int32) &&& 31)) ||| ((p2 &&& (63 : Int32)) <<< ((6 : Int32) &&& 31))) ||| (p3 &&& (63 : Int32))))])) _
                      refine XS.icmpYes X38.here hx rfl (pc0 := 242) (pc' := 254) rfl (hb hby d2_242) rfl (XT.ii_lt_t hc242_49) (by decide) (by decide) ?_
                      show Steps p.tables e below (T38.setTop (mkF m 254 #[.val (.int p1), .val (.int p2), .val (.int p3), .val (.int p4), .val (.int p5), .val (.int (3 : Int32)), .val (.int ((((p1 &&& (15 : Int32)) <<< ((12 : Int32) &&& 31)) ||| ((p2 &&& (63 : Int32)) <<< ((6 : Int32) &&& 31))) ||| (p3 &&& (63 : Int32)))), .val (.int (2048 : Int32))] [])) _
                      refine XS.iload X38.here hx rfl (hb hby d2_254) rfl ?_
                      exact kt
                    obtain ⟨fs, hr, hrun, hended, hW, hsame⟩ := X38.leave (v := some (.int (3 : Int32))) (fun h => by rw [Bd.returns] at h; cases h)
                    refine ⟨_, _, pre50 _ ?_, hrun, hended, _, _, rfl, ?_, ⟨_, rfl⟩, hW, hsame.mono (by decide) (by decide)⟩
                    · show Steps p.tables e below (T38.setTop (mkF m 256 #[.val (.int p1), .val (.int p2), .val (.int p3), .val (.int p4), .val (.int p5), .val (.int (3 : Int32)), .val (.int ((((p1 &&& (15 : Int32)) <<< ((12 : Int32) &&& 31)) ||| ((p2 &&& (63 : Int32)) <<< ((6 : Int32) &&& 31))) ||| (p3 &&& (63 : Int32)))), .val (.int (2048 : Int32))] [(.int (3 : Int32))])) _
                      exact owRetI X38 hx Bd.returns (hb hby d2_256) hr
                    · show Q2 Z p1 p2 p3 p4 p5 h0 n0 _ T38.heap _
                      rw [hE38]
                      exact ⟨by unfold fn2; rw [if_neg hc4_2, if_neg hc21_8, if_pos hc38_30, if_neg hc70_32, if_neg hc87_36, if_neg hc102_40, if_neg hc224_43, if_neg hc233_46, if_pos hc242_49], N38, rfl⟩
                  · skip
                    have pre51 : ∀ t, Steps p.tables e below (T38.setTop (mkF m 249 #[.val (.int p1), .val (.int p2), .val (.int p3), .val (.int p4), .val (.int p5), .val (.int (3 : Int32)), .val (.int ((((p1 &&& (15 : Int32)) <<< ((12 : Int32) &&& 31)) ||| ((p2 &&& (63 : Int32)) <<< ((6 : Int32) &&& 31))) ||| (p3 &&& (63 : Int32)))), .val (.int (2048 : Int32))] [(.int (57343 : Int32)), (.int ((((p1 &&& (15 : Int32)) <<< ((12 : Int32) &&& 31)) ||| ((p2 &&& (63 : Int32)) <<< ((6 : Int32) &&& 31))) ||| (p3 &&& (63 : Int32))))])) t → Steps p.tables e below (s₁.setTop (entryFrame m #[(.int p1), (.int p2), (.int p3), (.int p4), (.int p5)] 8)) t := by
                      intro t kt
                      refine pre48 _ ?_
                      show Steps p.tables e below (T38.setTop (mkF m 242 #[.val (.int p1), .val (.int p2), .val (.int p3), .val (.int p4), .val (.int p5), .val (.int (3 : Int32)), .val (.int ((((p1 &&& (15 : Int32)) <<< ((12 : Int32) &&& 31)) ||| ((p2 &&& (63 : Int32)) <<< ((6 : Int32) &&& 31))) ||| (p3 &&& (63 : Int32)))), .val (.int (2048 : Int32))] [(.int (55296 : Int32)), (.int ((((p1 &&& (15 : Int32)) <<< ((12 : Int32) &&& 31)) ||| ((p2 &&& (63 : Int32)) <<< ((6 : Int32) &&& 31))) ||| (p3 &&& (63 : Int32))))])) _
                      refine XS.icmpNo X38.here hx rfl (hb hby d2_242) rfl (XT.ii_lt_f hc242_49) ?_
                      show Steps p.tables e below (T38.setTop (mkF m 245 #[.val (.int p1), .val (.int p2), .val (.int p3), .val (.int p4), .val (.int p5), .val (.int (3 : Int32)), .val (.int ((((p1 &&& (15 : Int32)) <<< ((12 : Int32) &&& 31)) ||| ((p2 &&& (63 : Int32)) <<< ((6 : Int32) &&& 31))) ||| (p3 &&& (63 : Int32)))), .val (.int (2048 : Int32))] [])) _
                      refine XS.iload X38.here hx rfl (hb hby d2_245) rfl ?_
                      show Steps p.tables e below (T38.setTop (mkF m 247 #[.val (.int p1), .val (.int p2), .val (.int p3), .val (.int p4), .val (.int p5), .val (.int (3 : Int32)), .val (.int ((((p1 &&& (15 : Int32)) <<< ((12 : Int32) &&& 31)) ||| ((p2 &&& (63 : Int32)) <<< ((6 : Int32) &&& 31))) ||| (p3 &&& (63 : Int32)))), .val (.int (2048 : Int32))] [(.int ((((p1 &&& (15 : Int32)) <<< ((12 : Int32) &&& 31)) ||| ((p2 &&& (63 : Int32)) <<< ((6 : Int32) &&& 31))) ||| (p3 &&& (63 : Int32))))])) _
                      refine Stand.ldcI (g := (mkF m 247 #[.val (.int p1), .val (.int p2), .val (.int p3), .val (.int p4), .val (.int p5), .val (.int (3 : Int32)), .val (.int ((((p1 &&& (15 : Int32)) <<< ((12 : Int32) &&& 31)) ||| ((p2 &&& (63 : Int32)) <<< ((6 : Int32) &&& 31))) ||| (p3 &&& (63 : Int32)))), .val (.int (2048 : Int32))] [(.int ((((p1 &&& (15 : Int32)) <<< ((12 : Int32) &&& 31)) ||| ((p2 &&& (63 : Int32)) <<< ((6 : Int32) &&& 31))) ||| (p3 &&& (63 : Int32))))])) X38 hx hown (mvT hZ (hw _ (List.mem_of_getElem? (i := 16) rfl))) rfl (hb hby d2_247) ?_
                      exact kt
                    by_cases hc249_52 : (57343 : Int32) < ((((p1 &&& (15 : Int32)) <<< ((12 : Int32) &&& 31)) ||| ((p2 &&& (63 : Int32)) <<< ((6 : Int32) &&& 31))) ||| (p3 &&& (63 : Int32)))
                    · skip
                      have pre53 : ∀ t, Steps p.tables e below (T38.setTop (mkF m 256 #[.val (.int p1), .val (.int p2), .val (.int p3), .val (.int p4), .val (.int p5), .val (.int (3 : Int32)), .val (.int ((((p1 &&& (15 : Int32)) <<< ((12 : Int32) &&& 31)) ||| ((p2 &&& (63 : Int32)) <<< ((6 : Int32) &&& 31))) ||| (p3 &&& (63 : Int32)))), .val (.int (2048 : Int32))] [(.int (3 : Int32))])) t → Steps p.tables e below (s₁.setTop (entryFrame m #[(.int p1), (.int p2), (.int p3), (.int p4), (.int p5)] 8)) t := by
                        intro t kt
                        refine pre51 _ ?_
                        show Steps p.tables e below (T38.setTop (mkF m 249 #[.val (.int p1), .val (.int p2), .val (.int p3), .val (.int p4), .val (.int p5), .val (.int (3 : Int32)), .val (.int ((((p1 &&& (15 : Int32)) <<< ((12 : Int32) &&& 31)) ||| ((p2 &&& (63 : Int32)) <<< ((6 : Int32) &&& 31))) ||| (p3 &&& (63 : Int32)))), .val (.int (2048 : Int32))] [(.int (57343 : Int32)), (.int ((((p1 &&& (15 : Int32)) <<< ((12 : Int32) &&& 31)) ||| ((p2 &&& (63 : Int32)) <<< ((6 : Int32) &&& 31))) ||| (p3 &&& (63 : Int32))))])) _
                        refine XS.icmpYes X38.here hx rfl (pc0 := 249) (pc' := 254) rfl (hb hby d2_249) rfl (XT.ii_gt_t hc249_52) (by decide) (by decide) ?_
                        show Steps p.tables e below (T38.setTop (mkF m 254 #[.val (.int p1), .val (.int p2), .val (.int p3), .val (.int p4), .val (.int p5), .val (.int (3 : Int32)), .val (.int ((((p1 &&& (15 : Int32)) <<< ((12 : Int32) &&& 31)) ||| ((p2 &&& (63 : Int32)) <<< ((6 : Int32) &&& 31))) ||| (p3 &&& (63 : Int32)))), .val (.int (2048 : Int32))] [])) _
                        refine XS.iload X38.here hx rfl (hb hby d2_254) rfl ?_
                        exact kt
                      obtain ⟨fs, hr, hrun, hended, hW, hsame⟩ := X38.leave (v := some (.int (3 : Int32))) (fun h => by rw [Bd.returns] at h; cases h)
                      refine ⟨_, _, pre53 _ ?_, hrun, hended, _, _, rfl, ?_, ⟨_, rfl⟩, hW, hsame.mono (by decide) (by decide)⟩
                      · show Steps p.tables e below (T38.setTop (mkF m 256 #[.val (.int p1), .val (.int p2), .val (.int p3), .val (.int p4), .val (.int p5), .val (.int (3 : Int32)), .val (.int ((((p1 &&& (15 : Int32)) <<< ((12 : Int32) &&& 31)) ||| ((p2 &&& (63 : Int32)) <<< ((6 : Int32) &&& 31))) ||| (p3 &&& (63 : Int32)))), .val (.int (2048 : Int32))] [(.int (3 : Int32))])) _
                        exact owRetI X38 hx Bd.returns (hb hby d2_256) hr
                      · show Q2 Z p1 p2 p3 p4 p5 h0 n0 _ T38.heap _
                        rw [hE38]
                        exact ⟨by unfold fn2; rw [if_neg hc4_2, if_neg hc21_8, if_pos hc38_30, if_neg hc70_32, if_neg hc87_36, if_neg hc102_40, if_neg hc224_43, if_neg hc233_46, if_neg hc242_49, if_pos hc249_52], N38, rfl⟩
                    · skip
                      have pre54 : ∀ t, Steps p.tables e below (T38.setTop (mkF m 253 #[.val (.int p1), .val (.int p2), .val (.int p3), .val (.int p4), .val (.int p5), .val (.int (3 : Int32)), .val (.int ((((p1 &&& (15 : Int32)) <<< ((12 : Int32) &&& 31)) ||| ((p2 &&& (63 : Int32)) <<< ((6 : Int32) &&& 31))) ||| (p3 &&& (63 : Int32)))), .val (.int (2048 : Int32))] [(.int (0 : Int32))])) t → Steps p.tables e below (s₁.setTop (entryFrame m #[(.int p1), (.int p2), (.int p3), (.int p4), (.int p5)] 8)) t := by
                        intro t kt
                        refine pre51 _ ?_
                        show Steps p.tables e below (T38.setTop (mkF m 249 #[.val (.int p1), .val (.int p2), .val (.int p3), .val (.int p4), .val (.int p5), .val (.int (3 : Int32)), .val (.int ((((p1 &&& (15 : Int32)) <<< ((12 : Int32) &&& 31)) ||| ((p2 &&& (63 : Int32)) <<< ((6 : Int32) &&& 31))) ||| (p3 &&& (63 : Int32)))), .val (.int (2048 : Int32))] [(.int (57343 : Int32)), (.int ((((p1 &&& (15 : Int32)) <<< ((12 : Int32) &&& 31)) ||| ((p2 &&& (63 : Int32)) <<< ((6 : Int32) &&& 31))) ||| (p3 &&& (63 : Int32))))])) _
                        refine XS.icmpNo X38.here hx rfl (hb hby d2_249) rfl (XT.ii_gt_f hc249_52) ?_
                        show Steps p.tables e below (T38.setTop (mkF m 252 #[.val (.int p1), .val (.int p2), .val (.int p3), .val (.int p4), .val (.int p5), .val (.int (3 : Int32)), .val (.int ((((p1 &&& (15 : Int32)) <<< ((12 : Int32) &&& 31)) ||| ((p2 &&& (63 : Int32)) <<< ((6 : Int32) &&& 31))) ||| (p3 &&& (63 : Int32)))), .val (.int (2048 : Int32))] [])) _
                        refine XS.iconst X38.here hx rfl (hb hby d2_252) ?_
                        exact kt
                      obtain ⟨fs, hr, hrun, hended, hW, hsame⟩ := X38.leave (v := some (.int (0 : Int32))) (fun h => by rw [Bd.returns] at h; cases h)
                      refine ⟨_, _, pre54 _ ?_, hrun, hended, _, _, rfl, ?_, ⟨_, rfl⟩, hW, hsame.mono (by decide) (by decide)⟩
                      · show Steps p.tables e below (T38.setTop (mkF m 253 #[.val (.int p1), .val (.int p2), .val (.int p3), .val (.int p4), .val (.int p5), .val (.int (3 : Int32)), .val (.int ((((p1 &&& (15 : Int32)) <<< ((12 : Int32) &&& 31)) ||| ((p2 &&& (63 : Int32)) <<< ((6 : Int32) &&& 31))) ||| (p3 &&& (63 : Int32)))), .val (.int (2048 : Int32))] [(.int (0 : Int32))])) _
                        exact owRetI X38 hx Bd.returns (hb hby d2_253) hr
                      · show Q2 Z p1 p2 p3 p4 p5 h0 n0 _ T38.heap _
                        rw [hE38]
                        exact ⟨by unfold fn2; rw [if_neg hc4_2, if_neg hc21_8, if_pos hc38_30, if_neg hc70_32, if_neg hc87_36, if_neg hc102_40, if_neg hc224_43, if_neg hc233_46, if_neg hc242_49, if_neg hc249_52], N38, rfl⟩
      · skip
        have pre55 : ∀ t, Steps p.tables e below (s₁.setTop (mkF m 55 #[.val (.int p1), .val (.int p2), .val (.int p3), .val (.int p4), .val (.int p5), .unset, .unset, .unset] [(.int (240 : Int32)), (.int (p1 &&& (248 : Int32)))])) t → Steps p.tables e below (s₁.setTop (entryFrame m #[(.int p1), (.int p2), (.int p3), (.int p4), (.int p5)] 8)) t := by
          intro t kt
          refine pre29 _ ?_
          show Steps p.tables e below (s₁.setTop (mkF m 38 #[.val (.int p1), .val (.int p2), .val (.int p3), .val (.int p4), .val (.int p5), .unset, .unset, .unset] [(.int (224 : Int32)), (.int (p1 &&& (240 : Int32)))])) _
          refine XS.icmpYes X0.here hx rfl (pc0 := 38) (pc' := 47) rfl (hb hby d2_38) rfl (XT.ii_ne_t hc38_30) (by decide) (by decide) ?_
          show Steps p.tables e below (s₁.setTop (mkF m 47 #[.val (.int p1), .val (.int p2), .val (.int p3), .val (.int p4), .val (.int p5), .unset, .unset, .unset] [])) _
          refine XS.iloadN X0.here hx rfl (hb hby d2_47) rfl ?_
          show Steps p.tables e below (s₁.setTop (mkF m 48 #[.val (.int p1), .val (.int p2), .val (.int p3), .val (.int p4), .val (.int p5), .unset, .unset, .unset] [(.int p1)])) _
          refine XS.sipush X0.here hx rfl (hb hby d2_48) ?_
          show Steps p.tables e below (s₁.setTop (mkF m 51 #[.val (.int p1), .val (.int p2), .val (.int p3), .val (.int p4), .val (.int p5), .unset, .unset, .unset] [(.int (248 : Int32)), (.int p1)])) _
          refine XS.iand X0.here hx rfl (hb hby d2_51) rfl ?_
          show Steps p.tables e below (s₁.setTop (mkF m 52 #[.val (.int p1), .val (.int p2), .val (.int p3), .val (.int p4), .val (.int p5), .unset, .unset, .unset] [(.int (p1 &&& (248 : Int32)))])) _
          refine XS.sipush X0.here hx rfl (hb hby d2_52) ?_
          exact kt
        by_cases hc55_56 : (p1 &&& (248 : Int32)) = (240 : Int32)
        · skip
          have pre57 : ∀ t, Steps p.tables e below (s₁.setTop (mkF m 70 #[.val (.int p1), .val (.int p2), .val (.int p3), .val (.int p4), .val (.int p5), .val (.int (4 : Int32)), .unset, .unset] [(.int p5), (.int (4 : Int32))])) t → Steps p.tables e below (s₁.setTop (entryFrame m #[(.int p1), (.int p2), (.int p3), (.int p4), (.int p5)] 8)) t := by
            intro t kt
            refine pre55 _ ?_
            show Steps p.tables e below (s₁.setTop (mkF m 55 #[.val (.int p1), .val (.int p2), .val (.int p3), .val (.int p4), .val (.int p5), .unset, .unset, .unset] [(.int (240 : Int32)), (.int (p1 &&& (248 : Int32)))])) _
            refine XS.icmpNo X0.here hx rfl (hb hby d2_55) rfl (XT.ii_ne_f hc55_56) ?_
            show Steps p.tables e below (s₁.setTop (mkF m 58 #[.val (.int p1), .val (.int p2), .val (.int p3), .val (.int p4), .val (.int p5), .unset, .unset, .unset] [])) _
            refine XS.iconst X0.here hx rfl (hb hby d2_58) ?_
            show Steps p.tables e below (s₁.setTop (mkF m 59 #[.val (.int p1), .val (.int p2), .val (.int p3), .val (.int p4), .val (.int p5), .unset, .unset, .unset] [(.int (4 : Int32))])) _
            refine XS.istore X0.here hx rfl (hb hby d2_59) rfl (l' := #[.val (.int p1), .val (.int p2), .val (.int p3), .val (.int p4), .val (.int p5), .val (.int (4 : Int32)), .unset, .unset]) rfl ?_
            show Steps p.tables e below (s₁.setTop (mkF m 61 #[.val (.int p1), .val (.int p2), .val (.int p3), .val (.int p4), .val (.int p5), .val (.int (4 : Int32)), .unset, .unset] [])) _
            refine XS.goto X0.here hx rfl (pc0 := 61) (pc' := 66) rfl (hb hby d2_61) (by decide) (by decide) ?_
            show Steps p.tables e below (s₁.setTop (mkF m 66 #[.val (.int p1), .val (.int p2), .val (.int p3), .val (.int p4), .val (.int p5), .val (.int (4 : Int32)), .unset, .unset] [])) _
            refine XS.iload X0.here hx rfl (hb hby d2_66) rfl ?_
            show Steps p.tables e below (s₁.setTop (mkF m 68 #[.val (.int p1), .val (.int p2), .val (.int p3), .val (.int p4), .val (.int p5), .val (.int (4 : Int32)), .unset, .unset] [(.int (4 : Int32))])) _
            refine XS.iload X0.here hx rfl (hb hby d2_68) rfl ?_
            exact kt
          by_cases hc70_58 : p5 < (4 : Int32)
          · skip
            have pre59 : ∀ t, Steps p.tables e below (s₁.setTop (mkF m 74 #[.val (.int p1), .val (.int p2), .val (.int p3), .val (.int p4), .val (.int p5), .val (.int (4 : Int32)), .unset, .unset] [(.int (0 : Int32))])) t → Steps p.tables e below (s₁.setTop (entryFrame m #[(.int p1), (.int p2), (.int p3), (.int p4), (.int p5)] 8)) t := by
              intro t kt
              refine pre57 _ ?_
              show Steps p.tables e below (s₁.setTop (mkF m 70 #[.val (.int p1), .val (.int p2), .val (.int p3), .val (.int p4), .val (.int p5), .val (.int (4 : Int32)), .unset, .unset] [(.int p5), (.int (4 : Int32))])) _
              refine XS.icmpNo X0.here hx rfl (hb hby d2_70) rfl (XT.ii_le_f hc70_58) ?_
              show Steps p.tables e below (s₁.setTop (mkF m 73 #[.val (.int p1), .val (.int p2), .val (.int p3), .val (.int p4), .val (.int p5), .val (.int (4 : Int32)), .unset, .unset] [])) _
              refine XS.iconst X0.here hx rfl (hb hby d2_73) ?_
              exact kt
            obtain ⟨fs, hr, hrun, hended, hW, hsame⟩ := X0.leave (v := some (.int (0 : Int32))) (fun h => by rw [Bd.returns] at h; cases h)
            refine ⟨_, _, pre59 _ ?_, hrun, hended, _, _, rfl, ?_, ⟨_, rfl⟩, hW, hsame.mono (by decide) (by decide)⟩
            · show Steps p.tables e below (s₁.setTop (mkF m 74 #[.val (.int p1), .val (.int p2), .val (.int p3), .val (.int p4), .val (.int p5), .val (.int (4 : Int32)), .unset, .unset] [(.int (0 : Int32))])) _
              exact owRetI X0 hx Bd.returns (hb hby d2_74) hr
            · show Q2 Z p1 p2 p3 p4 p5 h0 n0 _ s₁.heap _
              rw [e0]
              exact ⟨by unfold fn2; rw [if_neg hc4_2, if_neg hc21_8, if_neg hc38_30, if_pos hc55_56, if_pos hc70_58], N0, rfl⟩
          · skip
            obtain ⟨_, _, ⟨T60, L60, k60, n60⟩, -, X60, ⟨Lc60, hQ60, l60, y60, z60⟩, st60⟩ := Jvm.LawKit.callS X0 hx (y := (⟨"com/example/fama/fama/table/TableLinesSequenceLengthPinLaw", "cont", "(I)Z"⟩ : MethodName)) hown (mvT hZ (hw _ (List.mem_of_getElem? (i := 10) rfl))) (mvT hZ (hw _ (List.mem_of_getElem? (i := 11) rfl))) (mvT hZ (hw _ (List.mem_of_getElem? (i := 8) rfl))) (mvT hZ (hw _ (List.mem_of_getElem? (i := 12) rfl))) (by decide) (backOf (W := 0) (rm3 l Z a0 hw [] p2 h0 n0 Z0) hZ (hw _ (List.mem_of_getElem? (i := 12) rfl)) (hw _ (List.mem_of_getElem? (i := 8) rfl)) (by decide) (by decide)) (g := (mkF m 84 #[.val (.int p1), .val (.int p2), .val (.int p3), .val (.int p4), .val (.int p5), .val (.int (4 : Int32)), .unset, .unset] [(.int p2)])) rfl (by rw [hml]; rfl) (argsL := [(.int p2)]) (rest := []) (lenOf pd_0 rfl) rfl (by show 2 * 0 + _ ≤ _; exact Nat.le_of_eq rfl) (hb hby d2_84) (fun _ _ => ⟨rfl, e0, (by decide : 0 + 0 ≤ _), (by decide : 0 + 0 ≤ _)⟩)
            dsimp only [Pt.U, Pt.locs, Pt.cells, Pt.slots] at X60 l60 y60 z60 st60 hQ60
            subst l60 y60 z60
            obtain ⟨rfl, N60q, hE60⟩ := hQ60
            have N60 := Fr.app N0 N60q
            have pre61 : ∀ t, Steps p.tables e below (T60.setTop (mkF m 87 #[.val (.int p1), .val (.int p2), .val (.int p3), .val (.int p4), .val (.int p5), .val (.int (4 : Int32)), .unset, .unset] [(.int (fn3 p2))])) t → Steps p.tables e below (s₁.setTop (entryFrame m #[(.int p1), (.int p2), (.int p3), (.int p4), (.int p5)] 8)) t := by
              intro t kt
              refine pre57 _ ?_
              show Steps p.tables e below (s₁.setTop (mkF m 70 #[.val (.int p1), .val (.int p2), .val (.int p3), .val (.int p4), .val (.int p5), .val (.int (4 : Int32)), .unset, .unset] [(.int p5), (.int (4 : Int32))])) _
              refine XS.icmpYes X0.here hx rfl (pc0 := 70) (pc' := 75) rfl (hb hby d2_70) rfl (XT.ii_le_t hc70_58) (by decide) (by decide) ?_
              show Steps p.tables e below (s₁.setTop (mkF m 75 #[.val (.int p1), .val (.int p2), .val (.int p3), .val (.int p4), .val (.int p5), .val (.int (4 : Int32)), .unset, .unset] [])) _
              refine XS.iload X0.here hx rfl (hb hby d2_75) rfl ?_
              show Steps p.tables e below (s₁.setTop (mkF m 77 #[.val (.int p1), .val (.int p2), .val (.int p3), .val (.int p4), .val (.int p5), .val (.int (4 : Int32)), .unset, .unset] [(.int (4 : Int32))])) _
              refine XS.iconst X0.here hx rfl (hb hby d2_77) ?_
              show Steps p.tables e below (s₁.setTop (mkF m 78 #[.val (.int p1), .val (.int p2), .val (.int p3), .val (.int p4), .val (.int p5), .val (.int (4 : Int32)), .unset, .unset] [(.int (1 : Int32)), (.int (4 : Int32))])) _
              refine XS.icmpYes X0.here hx rfl (pc0 := 78) (pc' := 83) rfl (hb hby d2_78) rfl (XT.ii_ne_t (by decide)) (by decide) (by decide) ?_
              show Steps p.tables e below (s₁.setTop (mkF m 83 #[.val (.int p1), .val (.int p2), .val (.int p3), .val (.int p4), .val (.int p5), .val (.int (4 : Int32)), .unset, .unset] [])) _
              refine XS.iloadN X0.here hx rfl (hb hby d2_83) rfl ?_
              show Steps p.tables e below (s₁.setTop (mkF m 84 #[.val (.int p1), .val (.int p2), .val (.int p3), .val (.int p4), .val (.int p5), .val (.int (4 : Int32)), .unset, .unset] [(.int p2)])) _
              refine st60 _ ?_
              exact kt
            by_cases hc87_62 : (fn3 p2) = (0 : Int32)
            · skip
              have pre63 : ∀ t, Steps p.tables e below (T60.setTop (mkF m 91 #[.val (.int p1), .val (.int p2), .val (.int p3), .val (.int p4), .val (.int p5), .val (.int (4 : Int32)), .unset, .unset] [(.int (0 : Int32))])) t → Steps p.tables e below (s₁.setTop (entryFrame m #[(.int p1), (.int p2), (.int p3), (.int p4), (.int p5)] 8)) t := by
                intro t kt
                refine pre61 _ ?_
                show Steps p.tables e below (T60.setTop (mkF m 87 #[.val (.int p1), .val (.int p2), .val (.int p3), .val (.int p4), .val (.int p5), .val (.int (4 : Int32)), .unset, .unset] [(.int (fn3 p2))])) _
                refine XS.ifNo X60.here hx rfl (hb hby d2_87) rfl (XT.i0_ne_f hc87_62) ?_
                show Steps p.tables e below (T60.setTop (mkF m 90 #[.val (.int p1), .val (.int p2), .val (.int p3), .val (.int p4), .val (.int p5), .val (.int (4 : Int32)), .unset, .unset] [])) _
                refine XS.iconst X60.here hx rfl (hb hby d2_90) ?_
                exact kt
              obtain ⟨fs, hr, hrun, hended, hW, hsame⟩ := X60.leave (v := some (.int (0 : Int32))) (fun h => by rw [Bd.returns] at h; cases h)
              refine ⟨_, _, pre63 _ ?_, hrun, hended, _, _, rfl, ?_, ⟨_, rfl⟩, hW, hsame.mono (by decide) (by decide)⟩
              · show Steps p.tables e below (T60.setTop (mkF m 91 #[.val (.int p1), .val (.int p2), .val (.int p3), .val (.int p4), .val (.int p5), .val (.int (4 : Int32)), .unset, .unset] [(.int (0 : Int32))])) _
                exact owRetI X60 hx Bd.returns (hb hby d2_91) hr
              · show Q2 Z p1 p2 p3 p4 p5 h0 n0 _ T60.heap _
                rw [hE60]
                exact ⟨by unfold fn2; rw [if_neg hc4_2, if_neg hc21_8, if_neg hc38_30, if_pos hc55_56, if_neg hc70_58, if_pos hc87_62], N60, rfl⟩
            · skip
              obtain ⟨_, _, ⟨T64, L64, k64, n64⟩, -, X64, ⟨Lc64, hQ64, l64, y64, z64⟩, st64⟩ := Jvm.LawKit.callS X60 hx (y := (⟨"com/example/fama/fama/table/TableLinesSequenceLengthPinLaw", "cont", "(I)Z"⟩ : MethodName)) hown (mvT hZ (hw _ (List.mem_of_getElem? (i := 10) rfl))) (mvT hZ (hw _ (List.mem_of_getElem? (i := 11) rfl))) (mvT hZ (hw _ (List.mem_of_getElem? (i := 8) rfl))) (mvT hZ (hw _ (List.mem_of_getElem? (i := 12) rfl))) (by decide) (backOf (W := 0) (rm3 l Z a0 hw [] p3 h0 n0 Z0) hZ (hw _ (List.mem_of_getElem? (i := 12) rfl)) (hw _ (List.mem_of_getElem? (i := 8) rfl)) (by decide) (by decide)) (g := (mkF m 99 #[.val (.int p1), .val (.int p2), .val (.int p3), .val (.int p4), .val (.int p5), .val (.int (4 : Int32)), .unset, .unset] [(.int p3)])) rfl (by rw [hml]; rfl) (argsL := [(.int p3)]) (rest := []) (lenOf pd_0 rfl) rfl (by show 2 * 0 + _ ≤ _; exact Nat.le_of_eq rfl) (hb hby d2_99) (fun _ _ => ⟨rfl, hE60, (by decide : 0 + 0 ≤ _), (by decide : 0 + 0 ≤ _)⟩)
              dsimp only [Pt.U, Pt.locs, Pt.cells, Pt.slots] at X64 l64 y64 z64 st64 hQ64
              subst l64 y64 z64
              obtain ⟨rfl, N64q, hE64⟩ := hQ64
              have N64 := Fr.app N60 N64q
              have pre65 : ∀ t, Steps p.tables e below (T64.setTop (mkF m 102 #[.val (.int p1), .val (.int p2), .val (.int p3), .val (.int p4), .val (.int p5), .val (.int (4 : Int32)), .unset, .unset] [(.int (fn3 p3))])) t → Steps p.tables e below (s₁.setTop (entryFrame m #[(.int p1), (.int p2), (.int p3), (.int p4), (.int p5)] 8)) t := by
                intro t kt
                refine pre61 _ ?_
                show Steps p.tables e below (T60.setTop (mkF m 87 #[.val (.int p1), .val (.int p2), .val (.int p3), .val (.int p4), .val (.int p5), .val (.int (4 : Int32)), .unset, .unset] [(.int (fn3 p2))])) _
                refine XS.ifYes X60.here hx rfl (pc0 := 87) (pc' := 92) rfl (hb hby d2_87) rfl (XT.i0_ne_t hc87_62) (by decide) (by decide) ?_
                show Steps p.tables e below (T60.setTop (mkF m 92 #[.val (.int p1), .val (.int p2), .val (.int p3), .val (.int p4), .val (.int p5), .val (.int (4 : Int32)), .unset, .unset] [])) _
                refine XS.iload X60.here hx rfl (hb hby d2_92) rfl ?_
                show Steps p.tables e below (T60.setTop (mkF m 94 #[.val (.int p1), .val (.int p2), .val (.int p3), .val (.int p4), .val (.int p5), .val (.int (4 : Int32)), .unset, .unset] [(.int (4 : Int32))])) _
                refine XS.iconst X60.here hx rfl (hb hby d2_94) ?_
                show Steps p.tables e below (T60.setTop (mkF m 95 #[.val (.int p1), .val (.int p2), .val (.int p3), .val (.int p4), .val (.int p5), .val (.int (4 : Int32)), .unset, .unset] [(.int (3 : Int32)), (.int (4 : Int32))])) _
                refine XS.icmpNo X60.here hx rfl (hb hby d2_95) rfl (XT.ii_lt_f (by decide)) ?_
                show Steps p.tables e below (T60.setTop (mkF m 98 #[.val (.int p1), .val (.int p2), .val (.int p3), .val (.int p4), .val (.int p5), .val (.int (4 : Int32)), .unset, .unset] [])) _
                refine XS.iloadN X60.here hx rfl (hb hby d2_98) rfl ?_
                show Steps p.tables e below (T60.setTop (mkF m 99 #[.val (.int p1), .val (.int p2), .val (.int p3), .val (.int p4), .val (.int p5), .val (.int (4 : Int32)), .unset, .unset] [(.int p3)])) _
                refine st64 _ ?_
                exact kt
              by_cases hc102_66 : (fn3 p3) = (0 : Int32)
              · skip
                have pre67 : ∀ t, Steps p.tables e below (T64.setTop (mkF m 106 #[.val (.int p1), .val (.int p2), .val (.int p3), .val (.int p4), .val (.int p5), .val (.int (4 : Int32)), .unset, .unset] [(.int (0 : Int32))])) t → Steps p.tables e below (s₁.setTop (entryFrame m #[(.int p1), (.int p2), (.int p3), (.int p4), (.int p5)] 8)) t := by
                  intro t kt
                  refine pre65 _ ?_
                  show Steps p.tables e below (T64.setTop (mkF m 102 #[.val (.int p1), .val (.int p2), .val (.int p3), .val (.int p4), .val (.int p5), .val (.int (4 : Int32)), .unset, .unset] [(.int (fn3 p3))])) _
                  refine XS.ifNo X64.here hx rfl (hb hby d2_102) rfl (XT.i0_ne_f hc102_66) ?_
                  show Steps p.tables e below (T64.setTop (mkF m 105 #[.val (.int p1), .val (.int p2), .val (.int p3), .val (.int p4), .val (.int p5), .val (.int (4 : Int32)), .unset, .unset] [])) _
                  refine XS.iconst X64.here hx rfl (hb hby d2_105) ?_
                  exact kt
                obtain ⟨fs, hr, hrun, hended, hW, hsame⟩ := X64.leave (v := some (.int (0 : Int32))) (fun h => by rw [Bd.returns] at h; cases h)
                refine ⟨_, _, pre67 _ ?_, hrun, hended, _, _, rfl, ?_, ⟨_, rfl⟩, hW, hsame.mono (by decide) (by decide)⟩
                · show Steps p.tables e below (T64.setTop (mkF m 106 #[.val (.int p1), .val (.int p2), .val (.int p3), .val (.int p4), .val (.int p5), .val (.int (4 : Int32)), .unset, .unset] [(.int (0 : Int32))])) _
                  exact owRetI X64 hx Bd.returns (hb hby d2_106) hr
                · show Q2 Z p1 p2 p3 p4 p5 h0 n0 _ T64.heap _
                  rw [hE64]
                  exact ⟨by unfold fn2; rw [if_neg hc4_2, if_neg hc21_8, if_neg hc38_30, if_pos hc55_56, if_neg hc70_58, if_neg hc87_62, if_pos hc102_66], N64, rfl⟩
              · skip
                obtain ⟨_, _, ⟨T68, L68, k68, n68⟩, -, X68, ⟨Lc68, hQ68, l68, y68, z68⟩, st68⟩ := Jvm.LawKit.callS X64 hx (y := (⟨"com/example/fama/fama/table/TableLinesSequenceLengthPinLaw", "cont", "(I)Z"⟩ : MethodName)) hown (mvT hZ (hw _ (List.mem_of_getElem? (i := 10) rfl))) (mvT hZ (hw _ (List.mem_of_getElem? (i := 11) rfl))) (mvT hZ (hw _ (List.mem_of_getElem? (i := 8) rfl))) (mvT hZ (hw _ (List.mem_of_getElem? (i := 12) rfl))) (by decide) (backOf (W := 0) (rm3 l Z a0 hw [] p4 h0 n0 Z0) hZ (hw _ (List.mem_of_getElem? (i := 12) rfl)) (hw _ (List.mem_of_getElem? (i := 8) rfl)) (by decide) (by decide)) (g := (mkF m 114 #[.val (.int p1), .val (.int p2), .val (.int p3), .val (.int p4), .val (.int p5), .val (.int (4 : Int32)), .unset, .unset] [(.int p4)])) rfl (by rw [hml]; rfl) (argsL := [(.int p4)]) (rest := []) (lenOf pd_0 rfl) rfl (by show 2 * 0 + _ ≤ _; exact Nat.le_of_eq rfl) (hb hby d2_114) (fun _ _ => ⟨rfl, hE64, (by decide : 0 + 0 ≤ _), (by decide : 0 + 0 ≤ _)⟩)
                dsimp only [Pt.U, Pt.locs, Pt.cells, Pt.slots] at X68 l68 y68 z68 st68 hQ68
                subst l68 y68 z68
                obtain ⟨rfl, N68q, hE68⟩ := hQ68
                have N68 := Fr.app N64 N68q
                have pre69 : ∀ t, Steps p.tables e below (T68.setTop (mkF m 117 #[.val (.int p1), .val (.int p2), .val (.int p3), .val (.int p4), .val (.int p5), .val (.int (4 : Int32)), .unset, .unset] [(.int (fn3 p4))])) t → Steps p.tables e below (s₁.setTop (entryFrame m #[(.int p1), (.int p2), (.int p3), (.int p4), (.int p5)] 8)) t := by
                  intro t kt
                  refine pre65 _ ?_
                  show Steps p.tables e below (T64.setTop (mkF m 102 #[.val (.int p1), .val (.int p2), .val (.int p3), .val (.int p4), .val (.int p5), .val (.int (4 : Int32)), .unset, .unset] [(.int (fn3 p3))])) _
                  refine XS.ifYes X64.here hx rfl (pc0 := 102) (pc' := 107) rfl (hb hby d2_102) rfl (XT.i0_ne_t hc102_66) (by decide) (by decide) ?_
                  show Steps p.tables e below (T64.setTop (mkF m 107 #[.val (.int p1), .val (.int p2), .val (.int p3), .val (.int p4), .val (.int p5), .val (.int (4 : Int32)), .unset, .unset] [])) _
                  refine XS.iload X64.here hx rfl (hb hby d2_107) rfl ?_
                  show Steps p.tables e below (T64.setTop (mkF m 109 #[.val (.int p1), .val (.int p2), .val (.int p3), .val (.int p4), .val (.int p5), .val (.int (4 : Int32)), .unset, .unset] [(.int (4 : Int32))])) _
                  refine XS.iconst X64.here hx rfl (hb hby d2_109) ?_
                  show Steps p.tables e below (T64.setTop (mkF m 110 #[.val (.int p1), .val (.int p2), .val (.int p3), .val (.int p4), .val (.int p5), .val (.int (4 : Int32)), .unset, .unset] [(.int (4 : Int32)), (.int (4 : Int32))])) _
                  refine XS.icmpNo X64.here hx rfl (hb hby d2_110) rfl (XT.ii_ne_f (by decide)) ?_
                  show Steps p.tables e below (T64.setTop (mkF m 113 #[.val (.int p1), .val (.int p2), .val (.int p3), .val (.int p4), .val (.int p5), .val (.int (4 : Int32)), .unset, .unset] [])) _
                  refine XS.iloadN X64.here hx rfl (hb hby d2_113) rfl ?_
                  show Steps p.tables e below (T64.setTop (mkF m 114 #[.val (.int p1), .val (.int p2), .val (.int p3), .val (.int p4), .val (.int p5), .val (.int (4 : Int32)), .unset, .unset] [(.int p4)])) _
                  refine st68 _ ?_
                  exact kt
                by_cases hc117_70 : (fn3 p4) = (0 : Int32)
                · skip
                  have pre71 : ∀ t, Steps p.tables e below (T68.setTop (mkF m 121 #[.val (.int p1), .val (.int p2), .val (.int p3), .val (.int p4), .val (.int p5), .val (.int (4 : Int32)), .unset, .unset] [(.int (0 : Int32))])) t → Steps p.tables e below (s₁.setTop (entryFrame m #[(.int p1), (.int p2), (.int p3), (.int p4), (.int p5)] 8)) t := by
                    intro t kt
                    refine pre69 _ ?_
                    show Steps p.tables e below (T68.setTop (mkF m 117 #[.val (.int p1), .val (.int p2), .val (.int p3), .val (.int p4), .val (.int p5), .val (.int (4 : Int32)), .unset, .unset] [(.int (fn3 p4))])) _
                    refine XS.ifNo X68.here hx rfl (hb hby d2_117) rfl (XT.i0_ne_f hc117_70) ?_
                    show Steps p.tables e below (T68.setTop (mkF m 120 #[.val (.int p1), .val (.int p2), .val (.int p3), .val (.int p4), .val (.int p5), .val (.int (4 : Int32)), .unset, .unset] [])) _
                    refine XS.iconst X68.here hx rfl (hb hby d2_120) ?_
                    exact kt
                  obtain ⟨fs, hr, hrun, hended, hW, hsame⟩ := X68.leave (v := some (.int (0 : Int32))) (fun h => by rw [Bd.returns] at h; cases h)
                  refine ⟨_, _, pre71 _ ?_, hrun, hended, _, _, rfl, ?_, ⟨_, rfl⟩, hW, hsame.mono (by decide) (by decide)⟩
                  · show Steps p.tables e below (T68.setTop (mkF m 121 #[.val (.int p1), .val (.int p2), .val (.int p3), .val (.int p4), .val (.int p5), .val (.int (4 : Int32)), .unset, .unset] [(.int (0 : Int32))])) _
                    exact owRetI X68 hx Bd.returns (hb hby d2_121) hr
                  · show Q2 Z p1 p2 p3 p4 p5 h0 n0 _ T68.heap _
                    rw [hE68]
                    exact ⟨by unfold fn2; rw [if_neg hc4_2, if_neg hc21_8, if_neg hc38_30, if_pos hc55_56, if_neg hc70_58, if_neg hc87_62, if_neg hc102_66, if_pos hc117_70], N68, rfl⟩
                · skip
                  have pre72 : ∀ t, Steps p.tables e below (T68.setTop (mkF m 224 #[.val (.int p1), .val (.int p2), .val (.int p3), .val (.int p4), .val (.int p5), .val (.int (4 : Int32)), .val (.int (((((p1 &&& (7 : Int32)) <<< ((18 : Int32) &&& 31)) ||| ((p2 &&& (63 : Int32)) <<< ((12 : Int32) &&& 31))) ||| ((p3 &&& (63 : Int32)) <<< ((6 : Int32) &&& 31))) ||| (p4 &&& (63 : Int32)))), .val (.int (65536 : Int32))] [(.int (65536 : Int32)), (.int (((((p1 &&& (7 : Int32)) <<< ((18 : Int32) &&& 31)) ||| ((p2 &&& (63 : Int32)) <<< ((12 : Int32) &&& 31))) ||| ((p3 &&& (63 : Int32)) <<< ((6 : Int32) &&& 31))) ||| (p4 &&& (63 : Int32))))])) t → Steps p.tables e below (s₁.setTop (entryFrame m #[(.int p1), (.int p2), (.int p3), (.int p4), (.int p5)] 8)) t := by
                    intro t kt
                    refine pre69 _ ?_
                    show Steps p.tables e below (T68.setTop (mkF m 117 #[.val (.int p1), .val (.int p2), .val (.int p3), .val (.int p4), .val (.int p5), .val (.int (4 : Int32)), .unset, .unset] [(.int (fn3 p4))])) _
                    refine XS.ifYes X68.here hx rfl (pc0 := 117) (pc' := 122) rfl (hb hby d2_117) rfl (XT.i0_ne_t hc117_70) (by decide) (by decide) ?_
                    show Steps p.tables e below (T68.setTop (mkF m 122 #[.val (.int p1), .val (.int p2), .val (.int p3), .val (.int p4), .val (.int p5), .val (.int (4 : Int32)), .unset, .unset] [])) _
                    refine XS.iload X68.here hx rfl (hb hby d2_122) rfl ?_
                    show Steps p.tables e below (T68.setTop (mkF m 124 #[.val (.int p1), .val (.int p2), .val (.int p3), .val (.int p4), .val (.int p5), .val (.int (4 : Int32)), .unset, .unset] [(.int (4 : Int32))])) _
                    refine XS.iconst X68.here hx rfl (hb hby d2_124) ?_
                    show Steps p.tables e below (T68.setTop (mkF m 125 #[.val (.int p1), .val (.int p2), .val (.int p3), .val (.int p4), .val (.int p5), .val (.int (4 : Int32)), .unset, .unset] [(.int (2 : Int32)), (.int (4 : Int32))])) _
                    refine XS.icmpYes X68.here hx rfl (pc0 := 125) (pc' := 150) rfl (hb hby d2_125) rfl (XT.ii_ne_t (by decide)) (by decide) (by decide) ?_
                    show Steps p.tables e below (T68.setTop (mkF m 150 #[.val (.int p1), .val (.int p2), .val (.int p3), .val (.int p4), .val (.int p5), .val (.int (4 : Int32)), .unset, .unset] [])) _
                    refine XS.iload X68.here hx rfl (hb hby d2_150) rfl ?_
                    show Steps p.tables e below (T68.setTop (mkF m 152 #[.val (.int p1), .val (.int p2), .val (.int p3), .val (.int p4), .val (.int p5), .val (.int (4 : Int32)), .unset, .unset] [(.int (4 : Int32))])) _
                    refine XS.iconst X68.here hx rfl (hb hby d2_152) ?_
                    show Steps p.tables e below (T68.setTop (mkF m 153 #[.val (.int p1), .val (.int p2), .val (.int p3), .val (.int p4), .val (.int p5), .val (.int (4 : Int32)), .unset, .unset] [(.int (3 : Int32)), (.int (4 : Int32))])) _
                    refine XS.icmpYes X68.here hx rfl (pc0 := 153) (pc' := 186) rfl (hb hby d2_153) rfl (XT.ii_ne_t (by decide)) (by decide) (by decide) ?_
                    show Steps p.tables e below (T68.setTop (mkF m 186 #[.val (.int p1), .val (.int p2), .val (.int p3), .val (.int p4), .val (.int p5), .val (.int (4 : Int32)), .unset, .unset] [])) _
                    refine XS.iloadN X68.here hx rfl (hb hby d2_186) rfl ?_
                    show Steps p.tables e below (T68.setTop (mkF m 187 #[.val (.int p1), .val (.int p2), .val (.int p3), .val (.int p4), .val (.int p5), .val (.int (4 : Int32)), .unset, .unset] [(.int p1)])) _
                    refine XS.bipush X68.here hx rfl (hb hby d2_187) ?_
                    show Steps p.tables e below (T68.setTop (mkF m 189 #[.val (.int p1), .val (.int p2), .val (.int p3), .val (.int p4), .val (.int p5), .val (.int (4 : Int32)), .unset, .unset] [(.int (7 : Int32)), (.int p1)])) _
                    refine XS.iand X68.here hx rfl (hb hby d2_189) rfl ?_
                    show Steps p.tables e below (T68.setTop (mkF m 190 #[.val (.int p1), .val (.int p2), .val (.int p3), .val (.int p4), .val (.int p5), .val (.int (4 : Int32)), .unset, .unset] [(.int (p1 &&& (7 : Int32)))])) _
                    refine XS.bipush X68.here hx rfl (hb hby d2_190) ?_
                    show Steps p.tables e below (T68.setTop (mkF m 192 #[.val (.int p1), .val (.int p2), .val (.int p3), .val (.int p4), .val (.int p5), .val (.int (4 : Int32)), .unset, .unset] [(.int (18 : Int32)), (.int (p1 &&& (7 : Int32)))])) _
                    refine XS.ishl X68.here hx rfl (hb hby d2_192) rfl ?_
                    show Steps p.tables e below (T68.setTop (mkF m 193 #[.val (.int p1), .val (.int p2), .val (.int p3), .val (.int p4), .val (.int p5), .val (.int (4 : Int32)), .unset, .unset] [(.int ((p1 &&& (7 : Int32)) <<< ((18 : Int32) &&& 31)))])) _
                    refine XS.iloadN X68.here hx rfl (hb hby d2_193) rfl ?_
                    show Steps p.tables e below (T68.setTop (mkF m 194 #[.val (.int p1), .val (.int p2), .val (.int p3), .val (.int p4), .val (.int p5), .val (.int (4 : Int32)), .unset, .unset] [(.int p2), (.int ((p1 &&& (7 : Int32)) <<< ((18 : Int32) &&& 31)))])) _
                    refine XS.bipush X68.here hx rfl (hb hby d2_194) ?_
                    show Steps p.tables e below (T68.setTop (mkF m 196 #[.val (.int p1), .val (.int p2), .val (.int p3), .val (.int p4), .val (.int p5), .val (.int (4 : Int32)), .unset, .unset] [(.int (63 : Int32)), (.int p2), (.int ((p1 &&& (7 : Int32)) <<< ((18 : Int32) &&& 31)))])) _
                    refine XS.iand X68.here hx rfl (hb hby d2_196) rfl ?_
                    show Steps p.tables e below (T68.setTop (mkF m 197 #[.val (.int p1), .val (.int p2), .val (.int p3), .val (.int p4), .val (.int p5), .val (.int (4 : Int32)), .unset, .unset] [(.int (p2 &&& (63 : Int32))), (.int ((p1 &&& (7 : Int32)) <<< ((18 : Int32) &&& 31)))])) _
                    refine XS.bipush X68.here hx rfl (hb hby d2_197) ?_
                    show Steps p.tables e below (T68.setTop (mkF m 199 #[.val (.int p1), .val (.int p2), .val (.int p3), .val (.int p4), .val (.int p5), .val (.int (4 : Int32)), .unset, .unset] [(.int (12 : Int32)), (.int (p2 &&& (63 : Int32))), (.int ((p1 &&& (7 : Int32)) <<< ((18 : Int32) &&& 31)))])) _
                    refine XS.ishl X68.here hx rfl (hb hby d2_199) rfl ?_
                    show Steps p.tables e below (T68.setTop (mkF m 200 #[.val (.int p1), .val (.int p2), .val (.int p3), .val (.int p4), .val (.int p5), .val (.int (4 : Int32)), .unset, .unset] [(.int ((p2 &&& (63 : Int32)) <<< ((12 : Int32) &&& 31))), (.int ((p1 &&& (7 : Int32)) <<< ((18 : Int32) &&& 31)))])) _
                    refine XS.ior X68.here hx rfl (hb hby d2_200) rfl ?_
                    show Steps p.tables e below (T68.setTop (mkF m 201 #[.val (.int p1), .val (.int p2), .val (.int p3), .val (.int p4), .val (.int p5), .val (.int (4 : Int32)), .unset, .unset] [(.int (((p1 &&& (7 : Int32)) <<< ((18 : Int32) &&& 31)) ||| ((p2 &&& (63 : Int32)) <<< ((12 : Int32) &&& 31))))])) _
                    refine XS.iloadN X68.here hx rfl (hb hby d2_201) rfl ?_
                    show Steps p.tables e below (T68.setTop (mkF m 202 #[.val (.int p1), .val (.int p2), .val (.int p3), .val (.int p4), .val (.int p5), .val (.int (4 : Int32)), .unset, .unset] [(.int p3), (.int (((p1 &&& (7 : Int32)) <<< ((18 : Int32) &&& 31)) ||| ((p2 &&& (63 : Int32)) <<< ((12 : Int32) &&& 31))))])) _
                    refine XS.bipush X68.here hx rfl (hb hby d2_202) ?_
                    show Steps p.tables e below (T68.setTop (mkF m 204 #[.val (.int p1), .val (.int p2), .val (.int p3), .val (.int p4), .val (.int p5), .val (.int (4 : Int32)), .unset, .unset] [(.int (63 : Int32)), (.int p3), (.int (((p1 &&& (7 : Int32)) <<< ((18 : Int32) &&& 31)) ||| ((p2 &&& (63 : Int32)) <<< ((12 : Int32) &&& 31))))])) _
                    refine XS.iand X68.here hx rfl (hb hby d2_204) rfl ?_
                    show Steps p.tables e below (T68.setTop (mkF m 205 #[.val (.int p1), .val (.int p2), .val (.int p3), .val (.int p4), .val (.int p5), .val (.int (4 : Int32)), .unset, .unset] [(.int (p3 &&& (63 : Int32))), (.int (((p1 &&& (7 : Int32)) <<< ((18 : Int32) &&& 31)) ||| ((p2 &&& (63 : Int32)) <<< ((12 : Int32) &&& 31))))])) _
                    refine XS.bipush X68.here hx rfl (hb hby d2_205) ?_
                    show Steps p.tables e below (T68.setTop (mkF m 207 #[.val (.int p1), .val (.int p2), .val (.int p3), .val (.int p4), .val (.int p5), .val (.int (4 : Int32)), .unset, .unset] [(.int (6 : Int32)), (.int (p3 &&& (63 : Int32))), (.int (((p1 &&& (7 : Int32)) <<< ((18 : Int32) &&& 31)) ||| ((p2 &&& (63 : Int32)) <<< ((12 : Int32) &&& 31))))])) _
                    refine XS.ishl X68.here hx rfl (hb hby d2_207) rfl ?_
                    show Steps p.tables e below (T68.setTop (mkF m 208 #[.val (.int p1), .val (.int p2), .val (.int p3), .val (.int p4), .val (.int p5), .val (.int (4 : Int32)), .unset, .unset] [(.int ((p3 &&& (63 : Int32)) <<< ((6 : Int32) &&& 31))), (.int (((p1 &&& (7 : Int32)) <<< ((18 : Int32) &&& 31)) ||| ((p2 &&& (63 : Int32)) <<< ((12 : Int32) &&& 31))))])) _
                    refine XS.ior X68.here hx rfl (hb hby d2_208) rfl ?_
                    show Steps p.tables e below (T68.setTop (mkF m 209 #[.val (.int p1), .val (.int p2), .val (.int p3), .val (.int p4), .val (.int p5), .val (.int (4 : Int32)), .unset, .unset] [(.int ((((p1 &&& (7 : Int32)) <<< ((18 : Int32) &&& 31)) ||| ((p2 &&& (63 : Int32)) <<< ((12 : Int32) &&& 31))) ||| ((p3 &&& (63 : Int32)) <<< ((6 : Int32) &&& 31))))])) _
                    refine XS.iloadN X68.here hx rfl (hb hby d2_209) rfl ?_
                    show Steps p.tables e below (T68.setTop (mkF m 210 #[.val (.int p1), .val (.int p2), .val (.int p3), .val (.int p4), .val (.int p5), .val (.int (4 : Int32)), .unset, .unset] [(.int p4), (.int ((((p1 &&& (7 : Int32)) <<< ((18 : Int32) &&& 31)) ||| ((p2 &&& (63 : Int32)) <<< ((12 : Int32) &&& 31))) ||| ((p3 &&& (63 : Int32)) <<< ((6 : Int32) &&& 31))))])) _
                    refine XS.bipush X68.here hx rfl (hb hby d2_210) ?_
                    show Steps p.tables e below (T68.setTop (mkF m 212 #[.val (.int p1), .val (.int p2), .val (.int p3), .val (.int p4), .val (.int p5), .val (.int (4 : Int32)), .unset, .unset] [(.int (63 : Int32)), (.int p4), (.int ((((p1 &&& (7 : Int32)) <<< ((18 : Int32) &&& 31)) ||| ((p2 &&& (63 : Int32)) <<< ((12 : Int32) &&& 31))) ||| ((p3 &&& (63 : Int32)) <<< ((6 : Int32) &&& 31))))])) _
                    refine XS.iand X68.here hx rfl (hb hby d2_212) rfl ?_
                    show Steps p.tables e below (T68.setTop (mkF m 213 #[.val (.int p1), .val (.int p2), .val (.int p3), .val (.int p4), .val (.int p5), .val (.int (4 : Int32)), .unset, .unset] [(.int (p4 &&& (63 : Int32))), (.int ((((p1 &&& (7 : Int32)) <<< ((18 : Int32) &&& 31)) ||| ((p2 &&& (63 : Int32)) <<< ((12 : Int32) &&& 31))) ||| ((p3 &&& (63 : Int32)) <<< ((6 : Int32) &&& 31))))])) _
                    refine XS.ior X68.here hx rfl (hb hby d2_213) rfl ?_
                    show Steps p.tables e below (T68.setTop (mkF m 214 #[.val (.int p1), .val (.int p2), .val (.int p3), .val (.int p4), .val (.int p5), .val (.int (4 : Int32)), .unset, .unset] [(.int (((((p1 &&& (7 : Int32)) <<< ((18 : Int32) &&& 31)) ||| ((p2 &&& (63 : Int32)) <<< ((12 : Int32) &&& 31))) ||| ((p3 &&& (63 : Int32)) <<< ((6 : Int32) &&& 31))) ||| (p4 &&& (63 : Int32))))])) _
                    refine XS.istore X68.here hx rfl (hb hby d2_214) rfl (l' := #[.val (.int p1), .val (.int p2), .val (.int p3), .val (.int p4), .val (.int p5), .val (.int (4 : Int32)), .val (.int (((((p1 &&& (7 : Int32)) <<< ((18 : Int32) &&& 31)) ||| ((p2 &&& (63 : Int32)) <<< ((12 : Int32) &&& 31))) ||| ((p3 &&& (63 : Int32)) <<< ((6 : Int32) &&& 31))) ||| (p4 &&& (63 : Int32)))), .unset]) rfl ?_
                    show Steps p.tables e below (T68.setTop (mkF m 216 #[.val (.int p1), .val (.int p2), .val (.int p3), .val (.int p4), .val (.int p5), .val (.int (4 : Int32)), .val (.int (((((p1 &&& (7 : Int32)) <<< ((18 : Int32) &&& 31)) ||| ((p2 &&& (63 : Int32)) <<< ((12 : Int32) &&& 31))) ||| ((p3 &&& (63 : Int32)) <<< ((6 : Int32) &&& 31))) ||| (p4 &&& (63 : Int32)))), .unset] [])) _
                    refine Stand.ldcI (g := (mkF m 216 #[.val (.int p1), .val (.int p2), .val (.int p3), .val (.int p4), .val (.int p5), .val (.int (4 : Int32)), .val (.int (((((p1 &&& (7 : Int32)) <<< ((18 : Int32) &&& 31)) ||| ((p2 &&& (63 : Int32)) <<< ((12 : Int32) &&& 31))) ||| ((p3 &&& (63 : Int32)) <<< ((6 : Int32) &&& 31))) ||| (p4 &&& (63 : Int32)))), .unset] [])) X68 hx hown (mvT hZ (hw _ (List.mem_of_getElem? (i := 15) rfl))) rfl (hb hby d2_216) ?_
                    show Steps p.tables e below (T68.setTop (mkF m 218 #[.val (.int p1), .val (.int p2), .val (.int p3), .val (.int p4), .val (.int p5), .val (.int (4 : Int32)), .val (.int (((((p1 &&& (7 : Int32)) <<< ((18 : Int32) &&& 31)) ||| ((p2 &&& (63 : Int32)) <<< ((12 : Int32) &&& 31))) ||| ((p3 &&& (63 : Int32)) <<< ((6 : Int32) &&& 31))) ||| (p4 &&& (63 : Int32)))), .unset] [(.int (65536 : Int32))])) _
                    refine XS.istore X68.here hx rfl (hb hby d2_218) rfl (l' := #[.val (.int p1), .val (.int p2), .val (.int p3), .val (.int p4), .val (.int p5), .val (.int (4 : Int32)), .val (.int (((((p1 &&& (7 : Int32)) <<< ((18 : Int32) &&& 31)) ||| ((p2 &&& (63 : Int32)) <<< ((12 : Int32) &&& 31))) ||| ((p3 &&& (63 : Int32)) <<< ((6 : Int32) &&& 31))) ||| (p4 &&& (63 : Int32)))), .val (.int (65536 : Int32))]) rfl ?_
                    show Steps p.tables e below (T68.setTop (mkF m 220 #[.val (.int p1), .val (.int p2), .val (.int p3), .val (.int p4), .val (.int p5), .val (.int (4 : Int32)), .val (.int (((((p1 &&& (7 : Int32)) <<< ((18 : Int32) &&& 31)) ||| ((p2 &&& (63 : Int32)) <<< ((12 : Int32) &&& 31))) ||| ((p3 &&& (63 : Int32)) <<< ((6 : Int32) &&& 31))) ||| (p4 &&& (63 : Int32)))), .val (.int (65536 : Int32))] [])) _
                    refine XS.iload X68.here hx rfl (hb hby d2_220) rfl ?_
                    show Steps p.tables e below (T68.setTop (mkF m 222 #[.val (.int p1), .val (.int p2), .val (.int p3), .val (.int p4), .val (.int p5), .val (.int (4 : Int32)), .val (.int (((((p1 &&& (7 : Int32)) <<< ((18 : Int32) &&& 31)) ||| ((p2 &&& (63 : Int32)) <<< ((12 : Int32) &&& 31))) ||| ((p3 &&& (63 : Int32)) <<< ((6 : Int32) &&& 31))) ||| (p4 &&& (63 : Int32)))), .val (.int (65536 : Int32))] [(.int (((((p1 &&& (7 : Int32)) <<< ((18 : Int32) &&& 31)) ||| ((p2 &&& (63 : Int32)) <<< ((12 : Int32) &&& 31))) ||| ((p3 &&& (63 : Int32)) <<< ((6 : Int32) &&& 31))) ||| (p4 &&& (63 : Int32))))])) _
                    refine XS.iload X68.here hx rfl (hb hby d2_222) rfl ?_
                    exact kt
                  by_cases hc224_73 : (((((p1 &&& (7 : Int32)) <<< ((18 : Int32) &&& 31)) ||| ((p2 &&& (63 : Int32)) <<< ((12 : Int32) &&& 31))) ||| ((p3 &&& (63 : Int32)) <<< ((6 : Int32) &&& 31))) ||| (p4 &&& (63 : Int32))) < (65536 : Int32)
                  · skip
                    have pre74 : ∀ t, Steps p.tables e below (T68.setTop (mkF m 228 #[.val (.int p1), .val (.int p2), .val (.int p3), .val (.int p4), .val (.int p5), .val (.int (4 : Int32)), .val (.int (((((p1 &&& (7 : Int32)) <<< ((18 : Int32) &&& 31)) ||| ((p2 &&& (63 : Int32)) <<< ((12 : Int32) &&& 31))) ||| ((p3 &&& (63 : Int32)) <<< ((6 : Int32) &&& 31))) ||| (p4 &&& (63 : Int32)))), .val (.int (65536 : Int32))] [(.int (0 : Int32))])) t → Steps p.tables e below (s₁.setTop (entryFrame m #[(.int p1), (.int p2), (.int p3), (.int p4), (.int p5)] 8)) t := by
                      intro t kt
                      refine pre72 _ ?_
                      show Steps p.tables e below (T68.setTop (mkF m 224 #[.val (.int p1), .val (.int p2), .val (.int p3), .val (.int p4), .val (.int p5), .val (.int (4 : Int32)), .val (.int (((((p1 &&& (7 : Int32)) <<< ((18 : Int32) &&& 31)) ||| ((p2 &&& (63 : Int32)) <<< ((12 : Int32) &&& 31))) ||| ((p3 &&& (63 : Int32)) <<< ((6 : Int32) &&& 31))) ||| (p4 &&& (63 : Int32)))), .val (.int (65536 : Int32))] [(.int (65536 : Int32)), (.int (((((p1 &&& (7 : Int32)) <<< ((18 : Int32) &&& 31)) ||| ((p2 &&& (63 : Int32)) <<< ((12 : Int32) &&& 31))) ||| ((p3 &&& (63 : Int32)) <<< ((6 : Int32) &&& 31))) ||| (p4 &&& (63 : Int32))))])) _
                      refine XS.icmpNo X68.here hx rfl (hb hby d2_224) rfl (XT.ii_ge_f hc224_73) ?_
                      show Steps p.tables e below (T68.setTop (mkF m 227 #[.val (.int p1), .val (.int p2), .val (.int p3), .val (.int p4), .val (.int p5), .val (.int (4 : Int32)), .val (.int (((((p1 &&& (7 : Int32)) <<< ((18 : Int32) &&& 31)) ||| ((p2 &&& (63 : Int32)) <<< ((12 : Int32) &&& 31))) ||| ((p3 &&& (63 : Int32)) <<< ((6 : Int32) &&& 31))) ||| (p4 &&& (63 : Int32)))), .val (.int (65536 : Int32))] [])) _
                      refine XS.iconst X68.here hx rfl (hb hby d2_227) ?_
                      exact kt
                    obtain ⟨fs, hr, hrun, hended, hW, hsame⟩ := X68.leave (v := some (.int (0 : Int32))) (fun h => by rw [Bd.returns] at h; cases h)
                    refine ⟨_, _, pre74 _ ?_, hrun, hended, _, _, rfl, ?_, ⟨_, rfl⟩, hW, hsame.mono (by decide) (by decide)⟩
                    · show Steps p.tables e below (T68.setTop (mkF m 228 #[.val (.int p1), .val (.int p2), .val (.int p3), .val (.int p4), .val (.int p5), .val (.int (4 : Int32)), .val (.int (((((p1 &&& (7 : Int32)) <<< ((18 : Int32) &&& 31)) ||| ((p2 &&& (63 : Int32)) <<< ((12 : Int32) &&& 31))) ||| ((p3 &&& (63 : Int32)) <<< ((6 : Int32) &&& 31))) ||| (p4 &&& (63 : Int32)))), .val (.int (65536 : Int32))] [(.int (0 : Int32))])) _
                      exact owRetI X68 hx Bd.returns (hb hby d2_228) hr
                    · show Q2 Z p1 p2 p3 p4 p5 h0 n0 _ T68.heap _
                      rw [hE68]
                      exact ⟨by unfold fn2; rw [if_neg hc4_2, if_neg hc21_8, if_neg hc38_30, if_pos hc55_56, if_neg hc70_58, if_neg hc87_62, if_neg hc102_66, if_neg hc117_70, if_pos hc224_73], N68, rfl⟩
                  · skip
                    have pre75 : ∀ t, Steps p.tables e below (T68.setTop (mkF m 233 #[.val (.int p1), .val (.int p2), .val (.int p3), .val (.int p4), .val (.int p5), .val (.int (4 : Int32)), .val (.int (((((p1 &&& (7 : Int32)) <<< ((18 : Int32) &&& 31)) ||| ((p2 &&& (63 : Int32)) <<< ((12 : Int32) &&& 31))) ||| ((p3 &&& (63 : Int32)) <<< ((6 : Int32) &&& 31))) ||| (p4 &&& (63 : Int32)))), .val (.int (65536 : Int32))] [(.int (1114111 : Int32)), (.int (((((p1 &&& (7 : Int32)) <<< ((18 : Int32) &&& 31)) ||| ((p2 &&& (63 : Int32)) <<< ((12 : Int32) &&& 31))) ||| ((p3 &&& (63 : Int32)) <<< ((6 : Int32) &&& 31))) ||| (p4 &&& (63 : Int32))))])) t → Steps p.tables e below (s₁.setTop (entryFrame m #[(.int p1), (.int p2), (.int p3), (.int p4), (.int p5)] 8)) t := by
                      intro t kt
                      refine pre72 _ ?_
                      show Steps p.tables e below (T68.setTop (mkF m 224 #[.val (.int p1), .val (.int p2), .val (.int p3), .val (.int p4), .val (.int p5), .val (.int (4 : Int32)), .val (.int (((((p1 &&& (7 : Int32)) <<< ((18 : Int32) &&& 31)) ||| ((p2 &&& (63 : Int32)) <<< ((12 : Int32) &&& 31))) ||| ((p3 &&& (63 : Int32)) <<< ((6 : Int32) &&& 31))) ||| (p4 &&& (63 : Int32)))), .val (.int (65536 : Int32))] [(.int (65536 : Int32)), (.int (((((p1 &&& (7 : Int32)) <<< ((18 : Int32) &&& 31)) ||| ((p2 &&& (63 : Int32)) <<< ((12 : Int32) &&& 31))) ||| ((p3 &&& (63 : Int32)) <<< ((6 : Int32) &&& 31))) ||| (p4 &&& (63 : Int32))))])) _
                      refine XS.icmpYes X68.here hx rfl (pc0 := 224) (pc' := 229) rfl (hb hby d2_224) rfl (XT.ii_ge_t hc224_73) (by decide) (by decide) ?_
                      show Steps p.tables e below (T68.setTop (mkF m 229 #[.val (.int p1), .val (.int p2), .val (.int p3), .val (.int p4), .val (.int p5), .val (.int (4 : Int32)), .val (.int (((((p1 &&& (7 : Int32)) <<< ((18 : Int32) &&& 31)) ||| ((p2 &&& (63 : Int32)) <<< ((12 : Int32) &&& 31))) ||| ((p3 &&& (63 : Int32)) <<< ((6 : Int32) &&& 31))) ||| (p4 &&& (63 : Int32)))), .val (.int (65536 : Int32))] [])) _
                      refine XS.iload X68.here hx rfl (hb hby d2_229) rfl ?_
                      show Steps p.tables e below (T68.setTop (mkF m 231 #[.val (.int p1), .val (.int p2), .val (.int p3), .val (.int p4), .val (.int p5), .val (.int (4 : Int32)), .val (.int (((((p1 &&& (7 : Int32)) <<< ((18 : Int32) &&& 31)) ||| ((p2 &&& (63 : Int32)) <<< ((12 : Int32) &&& 31))) ||| ((p3 &&& (63 : Int32)) <<< ((6 : Int32) &&& 31))) ||| (p4 &&& (63 : Int32)))), .val (.int (65536 : Int32))] [(.int (((((p1 &&& (7 : Int32)) <<< ((18 : Int32) &&& 31)) ||| ((p2 &&& (63 : Int32)) <<< ((12 : Int32) &&& 31))) ||| ((p3 &&& (63 : Int32)) <<< ((6 : Int32) &&& 31))) ||| (p4 &&& (63 : Int32))))])) _
                      refine Stand.ldcI (g := (mkF m 231 #[.val (.int p1), .val (.int p2), .val (.int p3), .val (.int p4), .val (.int p5), .val (.int (4 : Int32)), .val (.int (((((p1 &&& (7 : Int32)) <<< ((18 : Int32) &&& 31)) ||| ((p2 &&& (63 : Int32)) <<< ((12 : Int32) &&& 31))) ||| ((p3 &&& (63 : Int32)) <<< ((6 : Int32) &&& 31))) ||| (p4 &&& (63 : Int32)))), .val (.int (65536 : Int32))] [(.int (((((p1 &&& (7 : Int32)) <<< ((18 : Int32) &&& 31)) ||| ((p2 &&& (63 : Int32)) <<< ((12 : Int32) &&& 31))) ||| ((p3 &&& (63 : Int32)) <<< ((6 : Int32) &&& 31))) ||| (p4 &&& (63 : Int32))))])) X68 hx hown (mvT hZ (hw _ (List.mem_of_getElem? (i := 13) rfl))) rfl (hb hby d2_231) ?_
                      exact kt
                    by_cases hc233_76 : (1114111 : Int32) < (((((p1 &&& (7 : Int32)) <<< ((18 : Int32) &&& 31)) ||| ((p2 &&& (63 : Int32)) <<< ((12 : Int32) &&& 31))) ||| ((p3 &&& (63 : Int32)) <<< ((6 : Int32) &&& 31))) ||| (p4 &&& (63 : Int32)))
                    · skip
                      have pre77 : ∀ t, Steps p.tables e below (T68.setTop (mkF m 237 #[.val (.int p1), .val (.int p2), .val (.int p3), .val (.int p4), .val (.int p5), .val (.int (4 : Int32)), .val (.int (((((p1 &&& (7 : Int32)) <<< ((18 : Int32) &&& 31)) ||| ((p2 &&& (63 : Int32)) <<< ((12 : Int32) &&& 31))) ||| ((p3 &&& (63 : Int32)) <<< ((6 : Int32) &&& 31))) ||| (p4 &&& (63 : Int32)))), .val (.int (65536 : Int32))] [(.int (0 : Int32))])) t → Steps p.tables e below (s₁.setTop (entryFrame m #[(.int p1), (.int p2), (.int p3), (.int p4), (.int p5)] 8)) t := by
                        intro t kt
                        refine pre75 _ ?_
                        show Steps p.tables e below (T68.setTop (mkF m 233 #[.val (.int p1), .val (.int p2), .val (.int p3), .val (.int p4), .val (.int p5), .val (.int (4 : Int32)), .val (.int (((((p1 &&& (7 : Int32)) <<< ((18 : Int32) &&& 31)) ||| ((p2 &&& (63 : Int32)) <<< ((12 : Int32) &&& 31))) ||| ((p3 &&& (63 : Int32)) <<< ((6 : Int32) &&& 31))) ||| (p4 &&& (63 : Int32)))), .val (.int (65536 : Int32))] [(.int (1114111 : Int32)), (.int (((((p1 &&& (7 : Int32)) <<< ((18 : Int32) &&& 31)) ||| ((p2 &&& (63 : Int32)) <<< ((12 : Int32) &&& 31))) ||| ((p3 &&& (63 : Int32)) <<< ((6 : Int32) &&& 31))) ||| (p4 &&& (63 : Int32))))])) _
                        refine XS.icmpNo X68.here hx rfl (hb hby d2_233) rfl (XT.ii_le_f hc233_76) ?_
                        show Steps p.tables e below (T68.setTop (mkF m 236 #[.val (.int p1), .val (.int p2), .val (.int p3), .val (.int p4), .val (.int p5), .val (.int (4 : Int32)), .val (.int (((((p1 &&& (7 : Int32)) <<< ((18 : Int32) &&& 31)) ||| ((p2 &&& (63 : Int32)) <<< ((12 : Int32) &&& 31))) ||| ((p3 &&& (63 : Int32)) <<< ((6 : Int32) &&& 31))) ||| (p4 &&& (63 : Int32)))), .val (.int (65536 : Int32))] [])) _
                        refine XS.iconst X68.here hx rfl (hb hby d2_236) ?_
                        exact kt
                      obtain ⟨fs, hr, hrun, hended, hW, hsame⟩ := X68.leave (v := some (.int (0 : Int32))) (fun h => by rw [Bd.returns] at h; cases h)
                      refine ⟨_, _, pre77 _ ?_, hrun, hended, _, _, rfl, ?_, ⟨_, rfl⟩, hW, hsame.mono (by decide) (by decide)⟩
                      · show Steps p.tables e below (T68.setTop (mkF m 237 #[.val (.int p1), .val (.int p2), .val (.int p3), .val (.int p4), .val (.int p5), .val (.int (4 : Int32)), .val (.int (((((p1 &&& (7 : Int32)) <<< ((18 : Int32) &&& 31)) ||| ((p2 &&& (63 : Int32)) <<< ((12 : Int32) &&& 31))) ||| ((p3 &&& (63 : Int32)) <<< ((6 : Int32) &&& 31))) ||| (p4 &&& (63 : Int32)))), .val (.int (65536 : Int32))] [(.int (0 : Int32))])) _
                        exact owRetI X68 hx Bd.returns (hb hby d2_237) hr
                      · show Q2 Z p1 p2 p3 p4 p5 h0 n0 _ T68.heap _
                        rw [hE68]
                        exact ⟨by unfold fn2; rw [if_neg hc4_2, if_neg hc21_8, if_neg hc38_30, if_pos hc55_56, if_neg hc70_58, if_neg hc87_62, if_neg hc102_66, if_neg hc117_70, if_neg hc224_73, if_pos hc233_76], N68, rfl⟩
                    · skip
                      have pre78 : ∀ t, Steps p.tables e below (T68.setTop (mkF m 256 #[.val (.int p1), .val (.int p2), .val (.int p3), .val (.int p4), .val (.int p5), .val (.int (4 : Int32)), .val (.int (((((p1 &&& (7 : Int32)) <<< ((18 : Int32) &&& 31)) ||| ((p2 &&& (63 : Int32)) <<< ((12 : Int32) &&& 31))) ||| ((p3 &&& (63 : Int32)) <<< ((6 : Int32) &&& 31))) ||| (p4 &&& (63 : Int32)))), .val (.int (65536 : Int32))] [(.int (4 : Int32))])) t → Steps p.tables e below (s₁.setTop (entryFrame m #[(.int p1), (.int p2), (.int p3), (.int p4), (.int p5)] 8)) t := by
                        intro t kt
                        refine pre75 _ ?_
                        show Steps p.tables e below (T68.setTop (mkF m 233 #[.val (.int p1), .val (.int p2), .val (.int p3), .val (.int p4), .val (.int p5), .val (.int (4 : Int32)), .val (.int (((((p1 &&& (7 : Int32)) <<< ((18 : Int32) &&& 31)) ||| ((p2 &&& (63 : Int32)) <<< ((12 : Int32) &&& 31))) ||| ((p3 &&& (63 : Int32)) <<< ((6 : Int32) &&& 31))) ||| (p4 &&& (63 : Int32)))), .val (.int (65536 : Int32))] [(.int (1114111 : Int32)), (.int (((((p1 &&& (7 : Int32)) <<< ((18 : Int32) &&& 31)) ||| ((p2 &&& (63 : Int32)) <<< ((12 : Int32) &&& 31))) ||| ((p3 &&& (63 : Int32)) <<< ((6 : Int32) &&& 31))) ||| (p4 &&& (63 : Int32))))])) _
                        refine XS.icmpYes X68.here hx rfl (pc0 := 233) (pc' := 238) rfl (hb hby d2_233) rfl (XT.ii_le_t hc233_76) (by decide) (by decide) ?_
                        show Steps p.tables e below (T68.setTop (mkF m 238 #[.val (.int p1), .val (.int p2), .val (.int p3), .val (.int p4), .val (.int p5), .val (.int (4 : Int32)), .val (.int (((((p1 &&& (7 : Int32)) <<< ((18 : Int32) &&& 31)) ||| ((p2 &&& (63 : Int32)) <<< ((12 : Int32) &&& 31))) ||| ((p3 &&& (63 : Int32)) <<< ((6 : Int32) &&& 31))) ||| (p4 &&& (63 : Int32)))), .val (.int (65536 : Int32))] [])) _
                        refine XS.iload X68.here hx rfl (hb hby d2_238) rfl ?_
                        show Steps p.tables e below (T68.setTop (mkF m 240 #[.val (.int p1), .val (.int p2), .val (.int p3), .val (.int p4), .val (.int p5), .val (.int (4 : Int32)), .val (.int (((((p1 &&& (7 : Int32)) <<< ((18 : Int32) &&& 31)) ||| ((p2 &&& (63 : Int32)) <<< ((12 : Int32) &&& 31))) ||| ((p3 &&& (63 : Int32)) <<< ((6 : Int32) &&& 31))) ||| (p4 &&& (63 : Int32)))), .val (.int (65536 : Int32))] [(.int (((((p1 &&& (7 : Int32)) <<< ((18 : Int32) &&& 31)) ||| ((p2 &&& (63 : Int32)) <<< ((12 : Int32) &&& 31))) ||| ((p3 &&& (63 : Int32)) <<< ((6 : Int32) &&& 31))) ||| (p4 &&& (63 : Int32))))])) _
                        refine Stand.ldcI (g := (mkF m 240 #[.val (.int p1), .val (.int p2), .val (.int p3), .val (.int p4), .val (.int p5), .val (.int (4 : Int32)), .val (.int (((((p1 &&& (7 : Int32)) <<< ((18 : Int32) &&& 31)) ||| ((p2 &&& (63 : Int32)) <<< ((12 : Int32) &&& 31))) ||| ((p3 &&& (63 : Int32)) <<< ((6 : Int32) &&& 31))) ||| (p4 &&& (63 : Int32)))), .val (.int (65536 : Int32))] [(.int (((((p1 &&& (7 : Int32)) <<< ((18 : Int32) &&& 31)) ||| ((p2 &&& (63 : Int32)) <<< ((12 : Int32) &&& 31))) ||| ((p3 &&& (63 : Int32)) <<< ((6 : Int32) &&& 31))) ||| (p4 &&& (63 : Int32))))])) X68 hx hown (mvT hZ (hw _ (List.mem_of_getElem? (i := 14) rfl))) rfl (hb hby d2_240) ?_
                        show Steps p.tables e below (T68.setTop (mkF m 242 #[.val (.int p1), .val (.int p2), .val (.int p3), .val (.int p4), .val (.int p5), .val (.int (4 : Int32)), .val (.int (((((p1 &&& (7 : Int32)) <<< ((18 : Int32) &&& 31)) ||| ((p2 &&& (63 : Int32)) <<< ((12 : Int32) &&& 31))) ||| ((p3 &&& (63 : Int32)) <<< ((6 : Int32) &&& 31))) ||| (p4 &&& (63 : Int32)))), .val (.int (65536 : Int32))] [(.int (55296 : Int32)), (.int (((((p1 &&& (7 : Int32)) <<< ((18 : Int32) &&& 31)) ||| ((p2 &&& (63 : Int32)) <<< ((12 : Int32) &&& 31))) ||| ((p3 &&& (63 : Int32)) <<< ((6 : Int32) &&& 31))) ||| (p4 &&& (63 : Int32))))])) _
                        refine XS.icmpNo X68.here hx rfl (hb hby d2_242) rfl (XT.ii_lt_f (by have q0 := hc224_73; have q1 := hc233_76; have l0 : (55296 : Int32).toInt = 55296 := rfl; have l1 : (65536 : Int32).toInt = 65536 := rfl; have l2 : (1114111 : Int32).toInt = 1114111 := rfl; simp only [Int32.lt_iff_toInt_lt, ← Int32.toInt_inj] at q0 q1 ⊢; omega)) ?_
                        show Steps p.tables e below (T68.setTop (mkF m 245 #[.val (.int p1), .val (.int p2), .val (.int p3), .val (.int p4), .val (.int p5), .val (.int (4 : Int32)), .val (.int (((((p1 &&& (7 : Int32)) <<< ((18 : Int32) &&& 31)) ||| ((p2 &&& (63 : Int32)) <<< ((12 : Int32) &&& 31))) ||| ((p3 &&& (63 : Int32)) <<< ((6 : Int32) &&& 31))) ||| (p4 &&& (63 : Int32)))), .val (.int (65536 : Int32))] [])) _
                        refine XS.iload X68.here hx rfl (hb hby d2_245) rfl ?_
                        show Steps p.tables e below (T68.setTop (mkF m 247 #[.val (.int p1), .val (.int p2), .val (.int p3), .val (.int p4), .val (.int p5), .val (.int (4 : Int32)), .val (.int (((((p1 &&& (7 : Int32)) <<< ((18 : Int32) &&& 31)) ||| ((p2 &&& (63 : Int32)) <<< ((12 : Int32) &&& 31))) ||| ((p3 &&& (63 : Int32)) <<< ((6 : Int32) &&& 31))) ||| (p4 &&& (63 : Int32)))), .val (.int (65536 : Int32))] [(.int (((((p1 &&& (7 : Int32)) <<< ((18 : Int32) &&& 31)) ||| ((p2 &&& (63 : Int32)) <<< ((12 : Int32) &&& 31))) ||| ((p3 &&& (63 : Int32)) <<< ((6 : Int32) &&& 31))) ||| (p4 &&& (63 : Int32))))])) _
                        refine Stand.ldcI (g := (mkF m 247 #[.val (.int p1), .val (.int p2), .val (.int p3), .val (.int p4), .val (.int p5), .val (.int (4 : Int32)), .val (.int (((((p1 &&& (7 : Int32)) <<< ((18 : Int32) &&& 31)) ||| ((p2 &&& (63 : Int32)) <<< ((12 : Int32) &&& 31))) ||| ((p3 &&& (63 : Int32)) <<< ((6 : Int32) &&& 31))) ||| (p4 &&& (63 : Int32)))), .val (.int (65536 : Int32))] [(.int (((((p1 &&& (7 : Int32)) <<< ((18 : Int32) &&& 31)) ||| ((p2 &&& (63 : Int32)) <<< ((12 : Int32) &&& 31))) ||| ((p3 &&& (63 : Int32)) <<< ((6 : Int32) &&& 31))) ||| (p4 &&& (63 : Int32))))])) X68 hx hown (mvT hZ (hw _ (List.mem_of_getElem? (i := 16) rfl))) rfl (hb hby d2_247) ?_
                        show Steps p.tables e below (T68.setTop (mkF m 249 #[.val (.int p1), .val (.int p2), .val (.int p3), .val (.int p4), .val (.int p5), .val (.int (4 : Int32)), .val (.int (((((p1 &&& (7 : Int32)) <<< ((18 : Int32) &&& 31)) ||| ((p2 &&& (63 : Int32)) <<< ((12 : Int32) &&& 31))) ||| ((p3 &&& (63 : Int32)) <<< ((6 : Int32) &&& 31))) ||| (p4 &&& (63 : Int32)))), .val (.int (65536 : Int32))] [(.int (57343 : Int32)), (.int (((((p1 &&& (7 : Int32)) <<< ((18 : Int32) &&& 31)) ||| ((p2 &&& (63 : Int32)) <<< ((12 : Int32) &&& 31))) ||| ((p3 &&& (63 : Int32)) <<< ((6 : Int32) &&& 31))) ||| (p4 &&& (63 : Int32))))])) _
                        refine XS.icmpYes X68.here hx rfl (pc0 := 249) (pc' := 254) rfl (hb hby d2_249) rfl (XT.ii_gt_t (by have q0 := hc224_73; have q1 := hc233_76; have l0 : (57343 : Int32).toInt = 57343 := rfl; have l1 : (65536 : Int32).toInt = 65536 := rfl; have l2 : (1114111 : Int32).toInt = 1114111 := rfl; simp only [Int32.lt_iff_toInt_lt, ← Int32.toInt_inj] at q0 q1 ⊢; omega)) (by decide) (by decide) ?_
                        show Steps p.tables e below (T68.setTop (mkF m 254 #[.val (.int p1), .val (.int p2), .val (.int p3), .val (.int p4), .val (.int p5), .val (.int (4 : Int32)), .val (.int (((((p1 &&& (7 : Int32)) <<< ((18 : Int32) &&& 31)) ||| ((p2 &&& (63 : Int32)) <<< ((12 : Int32) &&& 31))) ||| ((p3 &&& (63 : Int32)) <<< ((6 : Int32) &&& 31))) ||| (p4 &&& (63 : Int32)))), .val (.int (65536 : Int32))] [])) _
                        refine XS.iload X68.here hx rfl (hb hby d2_254) rfl ?_
                        exact kt
                      obtain ⟨fs, hr, hrun, hended, hW, hsame⟩ := X68.leave (v := some (.int (4 : Int32))) (fun h => by rw [Bd.returns] at h; cases h)
                      refine ⟨_, _, pre78 _ ?_, hrun, hended, _, _, rfl, ?_, ⟨_, rfl⟩, hW, hsame.mono (by decide) (by decide)⟩
                      · show Steps p.tables e below (T68.setTop (mkF m 256 #[.val (.int p1), .val (.int p2), .val (.int p3), .val (.int p4), .val (.int p5), .val (.int (4 : Int32)), .val (.int (((((p1 &&& (7 : Int32)) <<< ((18 : Int32) &&& 31)) ||| ((p2 &&& (63 : Int32)) <<< ((12 : Int32) &&& 31))) ||| ((p3 &&& (63 : Int32)) <<< ((6 : Int32) &&& 31))) ||| (p4 &&& (63 : Int32)))), .val (.int (65536 : Int32))] [(.int (4 : Int32))])) _
                        exact owRetI X68 hx Bd.returns (hb hby d2_256) hr
                      · show Q2 Z p1 p2 p3 p4 p5 h0 n0 _ T68.heap _
                        rw [hE68]
                        exact ⟨by unfold fn2; rw [if_neg hc4_2, if_neg hc21_8, if_neg hc38_30, if_pos hc55_56, if_neg hc70_58, if_neg hc87_62, if_neg hc102_66, if_neg hc117_70, if_neg hc224_73, if_neg hc233_76], N68, rfl⟩
        · skip
          have pre79 : ∀ t, Steps p.tables e below (s₁.setTop (mkF m 65 #[.val (.int p1), .val (.int p2), .val (.int p3), .val (.int p4), .val (.int p5), .unset, .unset, .unset] [(.int (0 : Int32))])) t → Steps p.tables e below (s₁.setTop (entryFrame m #[(.int p1), (.int p2), (.int p3), (.int p4), (.int p5)] 8)) t := by
            intro t kt
            refine pre55 _ ?_
            show Steps p.tables e below (s₁.setTop (mkF m 55 #[.val (.int p1), .val (.int p2), .val (.int p3), .val (.int p4), .val (.int p5), .unset, .unset, .unset] [(.int (240 : Int32)), (.int (p1 &&& (248 : Int32)))])) _
            refine XS.icmpYes X0.here hx rfl (pc0 := 55) (pc' := 64) rfl (hb hby d2_55) rfl (XT.ii_ne_t hc55_56) (by decide) (by decide) ?_
            show Steps p.tables e below (s₁.setTop (mkF m 64 #[.val (.int p1), .val (.int p2), .val (.int p3), .val (.int p4), .val (.int p5), .unset, .unset, .unset] [])) _
            refine XS.iconst X0.here hx rfl (hb hby d2_64) ?_
            exact kt
          obtain ⟨fs, hr, hrun, hended, hW, hsame⟩ := X0.leave (v := some (.int (0 : Int32))) (fun h => by rw [Bd.returns] at h; cases h)
          refine ⟨_, _, pre79 _ ?_, hrun, hended, _, _, rfl, ?_, ⟨_, rfl⟩, hW, hsame.mono (by decide) (by decide)⟩
          · show Steps p.tables e below (s₁.setTop (mkF m 65 #[.val (.int p1), .val (.int p2), .val (.int p3), .val (.int p4), .val (.int p5), .unset, .unset, .unset] [(.int (0 : Int32))])) _
            exact owRetI X0 hx Bd.returns (hb hby d2_65) hr
          · show Q2 Z p1 p2 p3 p4 p5 h0 n0 _ s₁.heap _
            rw [e0]
            exact ⟨by unfold fn2; rw [if_neg hc4_2, if_neg hc21_8, if_neg hc38_30, if_neg hc55_56], N0, rfl⟩
theorem own_r1 (x st : Int32) (h : st = (x &&& (1 : Int32))) : 0 ≤ st.toInt ∧ st.toInt ≤ 1 := by
  have h1 := c_mask x 1 1 (by decide) (by decide)
  rw [← h] at h1
  omega
theorem own_nz (x ii : Int32) (h : ii = (x &&& (1 : Int32))) : ((6 : Int32) - ii) ≠ 0 := by
  have h1 := own_r1 x ii h
  have h2 := c_isub 6 ii
  intro q
  rw [q] at h2
  have h5 : (6 : Int32).toInt = 6 := rfl
  have h6 : (0 : Int32).toInt = 0 := rfl
  omega
theorem own_fin {P : Int32 → Prop} (h : ∀ k : Fin 256, P (Int32.ofNat k.val)) (c : Int32) (hc : 0 ≤ c.toInt ∧ c.toInt < 256) : P c := by
  have e : c = Int32.ofNat c.toInt.toNat := by
    apply Int32.toInt_inj.mp
    rw [Int32.toInt_ofNat_of_lt (by omega)]; omega
  rw [e]; exact h ⟨c.toInt.toNat, by omega⟩
theorem own_m224 (c : Int32) (hc : 0 ≤ c.toInt ∧ c.toInt < 256) : (c &&& (224 : Int32)) = (192 : Int32) ↔ (192 ≤ c.toInt ∧ c.toInt < 224) := own_fin (P := fun c => (c &&& (224 : Int32)) = (192 : Int32) ↔ (192 ≤ c.toInt ∧ c.toInt < 224)) (by decide +kernel) c hc
theorem own_m240 (c : Int32) (hc : 0 ≤ c.toInt ∧ c.toInt < 256) : (c &&& (240 : Int32)) = (224 : Int32) ↔ (224 ≤ c.toInt ∧ c.toInt < 240) := own_fin (P := fun c => (c &&& (240 : Int32)) = (224 : Int32) ↔ (224 ≤ c.toInt ∧ c.toInt < 240)) (by decide +kernel) c hc
theorem own_m248 (c : Int32) (hc : 0 ≤ c.toInt ∧ c.toInt < 256) : (c &&& (248 : Int32)) = (240 : Int32) ↔ (240 ≤ c.toInt ∧ c.toInt < 248) := own_fin (P := fun c => (c &&& (248 : Int32)) = (240 : Int32) ↔ (240 ≤ c.toInt ∧ c.toInt < 248)) (by decide +kernel) c hc
theorem own_cont (c : Int32) (hc : 0 ≤ c.toInt ∧ c.toInt < 256) : (fn3 c) = (0 : Int32) ↔ ¬ (128 ≤ c.toInt ∧ c.toInt < 192) := own_fin (P := fun c => (fn3 c) = (0 : Int32) ↔ ¬ (128 ≤ c.toInt ∧ c.toInt < 192)) (by decide +kernel) c hc
theorem own_cp2 (c0 c1 : Int32) (h0 : 0 ≤ c0.toInt ∧ c0.toInt < 256) (h1 : 0 ≤ c1.toInt ∧ c1.toInt < 256) : (((c0 &&& (31 : Int32)) <<< ((6 : Int32) &&& 31)) ||| (c1 &&& (63 : Int32))).toInt = (c0.toInt % 32) * 64 + c1.toInt % 64 := by
  have a0 := c_mask c0 31 5 (by decide) (by decide)
  have a1 := c_mask c1 63 6 (by decide) (by decide)
  have s0 := c_ishl (c0 &&& 31) 6 6 (by decide)
  have t0 := rng32 ((c0 &&& 31) <<< ((6 : Int32) &&& 31))
  have o := c_or ((c0 &&& 31) <<< ((6 : Int32) &&& 31)) (c1 &&& 63) 6 (by decide) 64 (by decide)
  have t1 := rng32 (((c0 &&& (31 : Int32)) <<< ((6 : Int32) &&& 31)) ||| (c1 &&& (63 : Int32)))
  omega
theorem own_cp3 (c0 c1 c2 : Int32) (h0 : 0 ≤ c0.toInt ∧ c0.toInt < 256) (h1 : 0 ≤ c1.toInt ∧ c1.toInt < 256) (h2 : 0 ≤ c2.toInt ∧ c2.toInt < 256) : ((((c0 &&& (15 : Int32)) <<< ((12 : Int32) &&& 31)) ||| ((c1 &&& (63 : Int32)) <<< ((6 : Int32) &&& 31))) ||| (c2 &&& (63 : Int32))).toInt = (c0.toInt % 16) * 4096 + (c1.toInt % 64) * 64 + c2.toInt % 64 := by
  have a0 := c_mask c0 15 4 (by decide) (by decide)
  have a1 := c_mask c1 63 6 (by decide) (by decide)
  have a2 := c_mask c2 63 6 (by decide) (by decide)
  have s0 := c_ishl (c0 &&& 15) 12 12 (by decide)
  have t0 := rng32 ((c0 &&& 15) <<< ((12 : Int32) &&& 31))
  have s1 := c_ishl (c1 &&& 63) 6 6 (by decide)
  have t1 := rng32 ((c1 &&& 63) <<< ((6 : Int32) &&& 31))
  have o1 := c_or ((c0 &&& 15) <<< ((12 : Int32) &&& 31)) ((c1 &&& 63) <<< ((6 : Int32) &&& 31)) 12 (by decide) 4096 (by decide)
  have t2 := rng32 (((c0 &&& (15 : Int32)) <<< ((12 : Int32) &&& 31)) ||| ((c1 &&& (63 : Int32)) <<< ((6 : Int32) &&& 31)))
  have e1 : (((c0 &&& (15 : Int32)) <<< ((12 : Int32) &&& 31)) ||| ((c1 &&& (63 : Int32)) <<< ((6 : Int32) &&& 31))).toInt = (c0.toInt % 16) * 4096 + (c1.toInt % 64) * 64 := by omega
  have o2 := c_or (((c0 &&& (15 : Int32)) <<< ((12 : Int32) &&& 31)) ||| ((c1 &&& (63 : Int32)) <<< ((6 : Int32) &&& 31))) (c2 &&& 63) 6 (by decide) 64 (by decide)
  have t3 := rng32 ((((c0 &&& (15 : Int32)) <<< ((12 : Int32) &&& 31)) ||| ((c1 &&& (63 : Int32)) <<< ((6 : Int32) &&& 31))) ||| (c2 &&& (63 : Int32)))
  clear o1 s0 s1
  omega
theorem own_cp4 (c0 c1 c2 c3 : Int32) (h0 : 0 ≤ c0.toInt ∧ c0.toInt < 256) (h1 : 0 ≤ c1.toInt ∧ c1.toInt < 256) (h2 : 0 ≤ c2.toInt ∧ c2.toInt < 256) (h3 : 0 ≤ c3.toInt ∧ c3.toInt < 256) : (((((c0 &&& (7 : Int32)) <<< ((18 : Int32) &&& 31)) ||| ((c1 &&& (63 : Int32)) <<< ((12 : Int32) &&& 31))) ||| ((c2 &&& (63 : Int32)) <<< ((6 : Int32) &&& 31))) ||| (c3 &&& (63 : Int32))).toInt = (c0.toInt % 8) * 262144 + (c1.toInt % 64) * 4096 + (c2.toInt % 64) * 64 + c3.toInt % 64 := by
  have a0 := c_mask c0 7 3 (by decide) (by decide)
  have a1 := c_mask c1 63 6 (by decide) (by decide)
  have a2 := c_mask c2 63 6 (by decide) (by decide)
  have a3 := c_mask c3 63 6 (by decide) (by decide)
  have s0 := c_ishl (c0 &&& 7) 18 18 (by decide)
  have t0 := rng32 ((c0 &&& 7) <<< ((18 : Int32) &&& 31))
  have s1 := c_ishl (c1 &&& 63) 12 12 (by decide)
  have t1 := rng32 ((c1 &&& 63) <<< ((12 : Int32) &&& 31))
  have s2 := c_ishl (c2 &&& 63) 6 6 (by decide)
  have t2 := rng32 ((c2 &&& 63) <<< ((6 : Int32) &&& 31))
  have u0 : ((c0 &&& 7) <<< ((18 : Int32) &&& 31)).toInt = (c0.toInt % 8) * 262144 := by omega
  have u1 : ((c1 &&& 63) <<< ((12 : Int32) &&& 31)).toInt = (c1.toInt % 64) * 4096 := by omega
  have u2 : ((c2 &&& 63) <<< ((6 : Int32) &&& 31)).toInt = (c2.toInt % 64) * 64 := by omega
  clear s0 s1 s2 t0 t1 t2
  generalize ((c0 &&& 7) <<< ((18 : Int32) &&& 31)) = x0 at *
  generalize ((c1 &&& 63) <<< ((12 : Int32) &&& 31)) = x1 at *
  generalize ((c2 &&& 63) <<< ((6 : Int32) &&& 31)) = x2 at *
  generalize (c3 &&& 63) = x3 at *
  have o1 := c_or x0 x1 18 (by decide) 262144 (by decide)
  have q1 := rng32 (x0 ||| x1)
  have e1 : (x0 ||| x1).toInt = (c0.toInt % 8) * 262144 + (c1.toInt % 64) * 4096 := by omega
  have o2 := c_or (x0 ||| x1) x2 12 (by decide) 4096 (by decide)
  have q2 := rng32 (x0 ||| x1 ||| x2)
  have e2 : (x0 ||| x1 ||| x2).toInt = (c0.toInt % 8) * 262144 + (c1.toInt % 64) * 4096 + (c2.toInt % 64) * 64 := by clear o1; omega
  have o3 := c_or (x0 ||| x1 ||| x2) x3 6 (by decide) 64 (by decide)
  have q3 := rng32 (x0 ||| x1 ||| x2 ||| x3)
  clear o1 o2 q1 q2 e1
  omega
set_option maxHeartbeats 40000000 in
theorem own_core (ab : Addr) (c0 c1 c2 c3 to ii av : Int32) (fb : Nat → Int32) (ki : Nat) (h0 : 0 ≤ c0.toInt ∧ c0.toInt < 256) (h1 : 0 ≤ c1.toInt ∧ c1.toInt < 256) (h2 : 0 ≤ c2.toInt ∧ c2.toInt < 256) (h3 : 0 ≤ c3.toInt ∧ c3.toInt < 256)
    (e0 : ((fb ki) &&& (255 : Int32)) = c0) (e1 : ((fb (ki + 1)) &&& (255 : Int32)) = c1) (e2 : ((fb (ki + 2)) &&& (255 : Int32)) = c2) (e3 : ((fb (ki + 3)) &&& (255 : Int32)) = c3)
    (hi : 0 ≤ ii.toInt ∧ ii.toInt ≤ 1) (ht : 0 ≤ to.toInt ∧ to.toInt ≤ 5) (ha : av.toInt = to.toInt - ii.toInt) : (fn1 ab ii to fb ki) = (fn2 c0 c1 c2 c3 av) := by
  have l1 : (to < (ii + (1 : Int32))) ↔ av < (1 : Int32) := by
    have a := c_iadd ii 1; have b := rng32 (ii + 1); have o : (1 : Int32).toInt = 1 := rfl
    rw [Int32.lt_iff_toInt_lt, Int32.lt_iff_toInt_lt]; omega
  have l2 : (to < (ii + (2 : Int32))) ↔ av < (2 : Int32) := by
    have a := c_iadd ii 2; have b := rng32 (ii + 2); have o : (2 : Int32).toInt = 2 := rfl
    rw [Int32.lt_iff_toInt_lt, Int32.lt_iff_toInt_lt]; omega
  have l3 : (to < (ii + (3 : Int32))) ↔ av < (3 : Int32) := by
    have a := c_iadd ii 3; have b := rng32 (ii + 3); have o : (3 : Int32).toInt = 3 := rfl
    rw [Int32.lt_iff_toInt_lt, Int32.lt_iff_toInt_lt]; omega
  have l4 : (to < (ii + (4 : Int32))) ↔ av < (4 : Int32) := by
    have a := c_iadd ii 4; have b := rng32 (ii + 4); have o : (4 : Int32).toInt = 4 := rfl
    rw [Int32.lt_iff_toInt_lt, Int32.lt_iff_toInt_lt]; omega
  have p2 := own_cp2 c0 c1 h0 h1
  have p3 := own_cp3 c0 c1 c2 h0 h1 h2
  have p4 := own_cp4 c0 c1 c2 c3 h0 h1 h2 h3
  have lt : ∀ a b : Int32, a < b ↔ a.toInt < b.toInt := fun a b => Int32.lt_iff_toInt_lt
  have eqi : ∀ a b : Int32, a = b ↔ a.toInt = b.toInt := fun a b => Int32.toInt_inj.symm
  unfold fn1 fn2
  simp only [e0, e1, e2, e3, l1, l2, l3, l4, own_m224 c0 h0, own_m240 c0 h0, own_m248 c0 h0, own_cont c1 h1, own_cont c2 h2, own_cont c3 h3, lt, p2, p3, p4]
  simp only [eqi c0]
  have k1 : (1 : Int32).toInt = 1 := rfl
  have k2 : (2 : Int32).toInt = 2 := rfl
  have k3 : (3 : Int32).toInt = 3 := rfl
  have k4 : (4 : Int32).toInt = 4 := rfl
  have k128 : (128 : Int32).toInt = 128 := rfl
  have k143 : (143 : Int32).toInt = 143 := rfl
  have k144 : (144 : Int32).toInt = 144 := rfl
  have k159 : (159 : Int32).toInt = 159 := rfl
  have k160 : (160 : Int32).toInt = 160 := rfl
  have k191 : (191 : Int32).toInt = 191 := rfl
  have k194 : (194 : Int32).toInt = 194 := rfl
  have k223 : (223 : Int32).toInt = 223 := rfl
  have k224 : (224 : Int32).toInt = 224 := rfl
  have k237 : (237 : Int32).toInt = 237 := rfl
  have k239 : (239 : Int32).toInt = 239 := rfl
  have k240 : (240 : Int32).toInt = 240 := rfl
  have k244 : (244 : Int32).toInt = 244 := rfl
  have k2048 : (2048 : Int32).toInt = 2048 := rfl
  have k55296 : (55296 : Int32).toInt = 55296 := rfl
  have k57343 : (57343 : Int32).toInt = 57343 := rfl
  have k65536 : (65536 : Int32).toInt = 65536 := rfl
  have k1114111 : (1114111 : Int32).toInt = 1114111 := rfl
  have w1 : (if c0.toInt = (240 : Int32).toInt then (144 : Int32) else (128 : Int32)).toInt = if c0.toInt = 240 then 144 else 128 := by rw [k240]; split <;> rfl
  have w2 : (if c0.toInt = (244 : Int32).toInt then (143 : Int32) else (191 : Int32)).toInt = if c0.toInt = 244 then 143 else 191 := by rw [k244]; split <;> rfl
  have w3 : (if c0.toInt = (224 : Int32).toInt then (160 : Int32) else (128 : Int32)).toInt = if c0.toInt = 224 then 160 else 128 := by rw [k224]; split <;> rfl
  have w4 : (if c0.toInt = (237 : Int32).toInt then (159 : Int32) else (191 : Int32)).toInt = if c0.toInt = 237 then 159 else 191 := by rw [k237]; split <;> rfl
  simp only [w1, w2, w3, w4]
  simp only [k1, k2, k3, k4, k128, k191, k194, k223, k239, k244, k2048, k55296, k57343, k65536, k1114111]
  clear w1 w2 w3 w4 k1 k2 k3 k4 k128 k143 k144 k159 k160 k191 k194 k223 k224 k237 k239 k240 k244 k2048 k55296 k57343 k65536 k1114111 lt eqi p2 p3 p4 l1 l2 l3 l4 e0 e1 e2 e3 ha ht hi
  generalize c0.toInt = x0 at *
  generalize c1.toInt = x1 at *
  generalize c2.toInt = x2 at *
  generalize c3.toInt = x3 at *
  generalize av.toInt = y at *
  by_cases q1 : x0 < 128
  · simp only [q1, if_true]
  · by_cases q2 : x0 < 194
    · simp only [q1, q2, if_true, if_false]
      repeat' split
      all_goals first | rfl | (exfalso; omega)
    · by_cases q3 : x0 < 224
      · have a1 : ¬ 223 < x0 := by omega
        have a2 : 192 ≤ x0 ∧ x0 < 224 := by omega
        simp only [q1, q2, a1, a2, if_true, if_false, and_self]
        repeat' split
        all_goals first | rfl | (exfalso; omega)
      · by_cases q4 : x0 < 240
        · have a1 : 223 < x0 := by omega
          have a2 : ¬ (192 ≤ x0 ∧ x0 < 224) := by omega
          have a3 : ¬ 239 < x0 := by omega
          have a4 : 224 ≤ x0 ∧ x0 < 240 := by omega
          simp only [q1, q2, a1, a2, a3, a4, if_true, if_false, and_self]
          repeat' split
          all_goals first | rfl | (exfalso; omega)
        · have a1 : 223 < x0 := by omega
          have a2 : ¬ (192 ≤ x0 ∧ x0 < 224) := by omega
          have a3 : 239 < x0 := by omega
          have a4 : ¬ (224 ≤ x0 ∧ x0 < 240) := by omega
          simp only [q1, q2, a1, a2, a3, a4, if_true, if_false]
          repeat' split
          all_goals first | rfl | (exfalso; omega)
theorem own_law (b0 b1 b2 b3 pp tt ii fl to got c0 c1 c2 c3 av : Int32) (ab : Addr) (fb : Nat → Int32) (ki : Nat) (h_ki : ii.toInt = (ki : Int)) (h_ii : ii = (pp &&& (1 : Int32))) (h_fb : fb = (owUp (owUp (owUp (owUp (owUp (owUp (fun _ => 0) 0 (fl.toInt8.toInt32)) 4 (fl.toInt8.toInt32)) ki ((b0.toInt8.toInt32).toInt8.toInt32)) (ki + 1) ((b1.toInt8.toInt32).toInt8.toInt32)) (ki + 2) ((b2.toInt8.toInt32).toInt8.toInt32)) (ki + 3) ((b3.toInt8.toInt32).toInt8.toInt32))) (h_to : to = (ii + ((tt &&& (2147483647 : Int32)) % ((6 : Int32) - ii)))) (h_got : got = (fn1 ab ii to fb ki)) (h_c0 : c0 = (b0 &&& (255 : Int32))) (h_c1 : c1 = (b1 &&& (255 : Int32))) (h_c2 : c2 = (b2 &&& (255 : Int32))) (h_c3 : c3 = (b3 &&& (255 : Int32))) (h_av : av = (to - ii)) : got = (fn2 c0 c1 c2 c3 av) := by
  have r1 := own_r1 pp ii h_ii
  have n2 := c_isub 6 ii
  have o6 : (6 : Int32).toInt = 6 := rfl
  have n3 := rng32 (6 - ii)
  have m1 := c_mask tt 2147483647 31 (by decide) (by decide)
  have m2 := (c_iremV (tt &&& 2147483647) (6 - ii)).1
  have m3 := c_iadd ii ((tt &&& 2147483647) % (6 - ii))
  have m4 := rng32 (ii + (tt &&& 2147483647) % (6 - ii))
  rw [← h_to] at m3 m4
  have a1 := c_isub to ii
  have a2 := rng32 (to - ii)
  rw [← h_av] at a1 a2
  have hm : ∀ x : Int32, (x &&& (255 : Int32)).toInt = x.toInt % 256 := fun x => by have := c_mask x 255 8 (by decide) (by decide); omega
  have hb : ∀ x : Int32, ((x.toInt8.toInt32).toInt8.toInt32) &&& (255 : Int32) = x &&& (255 : Int32) := fun x => by
    have y1 := (c_i2b x).1
    have y2 := (c_i2b x.toInt8.toInt32).1
    apply Int32.toInt_inj.mp
    rw [hm, hm]; omega
  have f3 : fb (ki + 3) = ((b3.toInt8.toInt32).toInt8.toInt32) := by rw [h_fb]; exact owUp_at
  have f2 : fb (ki + 2) = ((b2.toInt8.toInt32).toInt8.toInt32) := by rw [h_fb, owUp_ne (by omega)]; exact owUp_at
  have f1 : fb (ki + 1) = ((b1.toInt8.toInt32).toInt8.toInt32) := by rw [h_fb, owUp_ne (by omega), owUp_ne (by omega)]; exact owUp_at
  have f0 : fb ki = ((b0.toInt8.toInt32).toInt8.toInt32) := by rw [h_fb, owUp_ne (by omega), owUp_ne (by omega), owUp_ne (by omega)]; exact owUp_at
  have rr : ∀ x : Int32, 0 ≤ (x &&& (255 : Int32)).toInt ∧ (x &&& (255 : Int32)).toInt < 256 := fun x => by rw [hm]; omega
  rw [h_got]
  exact own_core ab c0 c1 c2 c3 to ii av fb ki (h_c0 ▸ rr b0) (h_c1 ▸ rr b1) (h_c2 ▸ rr b2) (h_c3 ▸ rr b3) (by rw [f0, hb, h_c0]) (by rw [f1, hb, h_c1]) (by rw [f2, hb, h_c2]) (by rw [f3, hb, h_c3]) r1 (by omega) (by omega)

theorem pn_0 : plainName "com/example/fama/fama/table/TableLinesSequenceLengthPinLaw" = true := by first | (simp [plainName, overriddenIn]; done) | decide +kernel
theorem ef_0 (m : MethodId) (x0 : Int32) (x1 : Int32) (x2 : Int32) (x3 : Int32) (x4 : Int32) (x5 : Int32) : entryFrame m #[(.int x0), (.int x1), (.int x2), (.int x3), (.int x4), (.int x5)] maxLocals = mkF m 0 #[.val (.int x0), .val (.int x1), .val (.int x2), .val (.int x3), .val (.int x4), .val (.int x5), .unset, .unset, .unset, .unset, .unset] [] := by first | (simp [entryFrame, mkF, argsToLocals, Value.category, maxLocals]; done) | rfl
theorem pd_1 : parseMethodDescriptor "([BII)I" = some ⟨[(.array .byte), .int, .int], some .int⟩ := by decide +kernel
theorem pd_2 : parseMethodDescriptor "(IIIII)I" = some ⟨[.int, .int, .int, .int, .int], some .int⟩ := by decide +kernel
def Q0 (Z : State) (b0 : Int32) (b1 : Int32) (b2 : Int32) (b3 : Int32) (pp : Int32) (tt : Int32) (h0 : Heap) (n0 : Nat) (v : Option Value) (h : Heap) (L : List Loc) : Prop := v = some (.int 1) ∧ Fr n0 L
set_option maxRecDepth 65536 in
set_option maxHeartbeats 40000000 in
theorem rm0 (l : Launch) (Z : State) (a0 : Array Value) (hw : ∀ d ∈ tables_1, d.before a0 Z = true) (ws : List Jvm.Cond) (b0 : Int32) (b1 : Int32) (b2 : Int32) (b3 : Int32) (pp : Int32) (tt : Int32) (h0 : Heap) (n0 : Nat) (Z0 : n0 ≤ h0.size) :
    MetFree l x (head1 (Jvm.Cond.code x code maxLocals ret :: ws) room_1) (fun a U => a = #[(.int b0), (.int b1), (.int b2), (.int b3), (.int pp), (.int tt)] ∧ Z.Warmed39 U.vm ∧ U.heap = h0) (fun _ _ _ _ _ => True) (fun _ U o U' => ∃ v L, o = .returned v ∧ Q0 Z b0 b1 b2 b3 pp tt h0 n0 v U'.heap L ∧ FrameEnd U o U' L room_1.cells room_1.slots) := by
  refine MetFree.of_bodySF (plainFor_of_name pn_0) hisR ?_
  intro p e s m args below meth c s₁ Bd hml0 hP hK
  obtain ⟨rfl, hZ, hh⟩ := hP
  have hx := Bd.exec
  have hby := Bd.bytes
  have hml : c.maxLocals = 11 := hml0
  have hown : s.vm.findClass "com/example/fama/fama/table/TableLinesSequenceLengthPinLaw" = some m.cls := findClass_of_methodNamed Bd.named
  have hnm := (name_of_methodNamed Bd.named Bd.method).1
  have X0 : Stand p l e room_1 s m #[(.int b0), (.int b1), (.int b2), (.int b3), (.int pp), (.int tt)] below meth c s₁ [] 0 0 := Stand.of_body Bd
  have e0 : s₁.heap = h0 := by rw [← hh, Bd.state]; rfl
  have N0 := Fr.nil n0
  have pre0 : ∀ t, Steps p.tables e below (s₁.setTop (mkF m 0 #[.val (.int b0), .val (.int b1), .val (.int b2), .val (.int b3), .val (.int pp), .val (.int tt), .unset, .unset, .unset, .unset, .unset] [])) t → Steps p.tables e below (s₁.setTop (entryFrame m #[(.int b0), (.int b1), (.int b2), (.int b3), (.int pp), (.int tt)] maxLocals)) t := fun t k => castTop (ef_0 m b0 b1 b2 b3 pp tt) k
  have pre1 : ∀ t, Steps p.tables e below (s₁.setTop (mkF m 4 #[.val (.int b0), .val (.int b1), .val (.int b2), .val (.int b3), .val (.int pp), .val (.int tt), .unset, .unset, .unset, .unset, .unset] [(.int (pp &&& (1 : Int32)))])) t → Steps p.tables e below (s₁.setTop (entryFrame m #[(.int b0), (.int b1), (.int b2), (.int b3), (.int pp), (.int tt)] maxLocals)) t := by
    intro t kt
    refine pre0 _ ?_
    show Steps p.tables e below (s₁.setTop (mkF m 0 #[.val (.int b0), .val (.int b1), .val (.int b2), .val (.int b3), .val (.int pp), .val (.int tt), .unset, .unset, .unset, .unset, .unset] [])) _
    refine XS.iload X0.here hx rfl (hb hby at_0) rfl ?_
    show Steps p.tables e below (s₁.setTop (mkF m 2 #[.val (.int b0), .val (.int b1), .val (.int b2), .val (.int b3), .val (.int pp), .val (.int tt), .unset, .unset, .unset, .unset, .unset] [(.int pp)])) _
    refine XS.iconst X0.here hx rfl (hb hby at_2) ?_
    show Steps p.tables e below (s₁.setTop (mkF m 3 #[.val (.int b0), .val (.int b1), .val (.int b2), .val (.int b3), .val (.int pp), .val (.int tt), .unset, .unset, .unset, .unset, .unset] [(.int (1 : Int32)), (.int pp)])) _
    refine XS.iand X0.here hx rfl (hb hby at_3) rfl ?_
    exact kt
  obtain ⟨ii, h_ii⟩ : ∃ z : Int32, z = (pp &&& (1 : Int32)) := ⟨_, rfl⟩
  have pre2 : ∀ t, Steps p.tables e below (s₁.setTop (mkF m 4 #[.val (.int b0), .val (.int b1), .val (.int b2), .val (.int b3), .val (.int pp), .val (.int tt), .unset, .unset, .unset, .unset, .unset] [(.int ii)])) t → Steps p.tables e below (s₁.setTop (entryFrame m #[(.int b0), (.int b1), (.int b2), (.int b3), (.int pp), (.int tt)] maxLocals)) t := by
    intro t kt
    rw [h_ii] at kt
    exact pre1 _ kt
  have pre3 : ∀ t, Steps p.tables e below (s₁.setTop (mkF m 12 #[.val (.int b0), .val (.int b1), .val (.int b2), .val (.int b3), .val (.int pp), .val (.int tt), .val (.int ii), .unset, .unset, .unset, .unset] [(.int (((pp.toUInt32 >>> ((8 : Int32) &&& 31).toUInt32).toInt32).toInt8.toInt32))])) t → Steps p.tables e below (s₁.setTop (entryFrame m #[(.int b0), (.int b1), (.int b2), (.int b3), (.int pp), (.int tt)] maxLocals)) t := by
    intro t kt
    refine pre2 _ ?_
    show Steps p.tables e below (s₁.setTop (mkF m 4 #[.val (.int b0), .val (.int b1), .val (.int b2), .val (.int b3), .val (.int pp), .val (.int tt), .unset, .unset, .unset, .unset, .unset] [(.int ii)])) _
    refine XS.istore X0.here hx rfl (hb hby at_4) rfl (l' := #[.val (.int b0), .val (.int b1), .val (.int b2), .val (.int b3), .val (.int pp), .val (.int tt), .val (.int ii), .unset, .unset, .unset, .unset]) rfl ?_
    show Steps p.tables e below (s₁.setTop (mkF m 6 #[.val (.int b0), .val (.int b1), .val (.int b2), .val (.int b3), .val (.int pp), .val (.int tt), .val (.int ii), .unset, .unset, .unset, .unset] [])) _
    refine XS.iload X0.here hx rfl (hb hby at_6) rfl ?_
    show Steps p.tables e below (s₁.setTop (mkF m 8 #[.val (.int b0), .val (.int b1), .val (.int b2), .val (.int b3), .val (.int pp), .val (.int tt), .val (.int ii), .unset, .unset, .unset, .unset] [(.int pp)])) _
    refine XS.bipush X0.here hx rfl (hb hby at_8) ?_
    show Steps p.tables e below (s₁.setTop (mkF m 10 #[.val (.int b0), .val (.int b1), .val (.int b2), .val (.int b3), .val (.int pp), .val (.int tt), .val (.int ii), .unset, .unset, .unset, .unset] [(.int (8 : Int32)), (.int pp)])) _
    refine XS.iushr X0.here hx rfl (hb hby at_10) rfl ?_
    show Steps p.tables e below (s₁.setTop (mkF m 11 #[.val (.int b0), .val (.int b1), .val (.int b2), .val (.int b3), .val (.int pp), .val (.int tt), .val (.int ii), .unset, .unset, .unset, .unset] [(.int ((pp.toUInt32 >>> ((8 : Int32) &&& 31).toUInt32).toInt32))])) _
    refine XS.i2b X0.here hx rfl (hb hby at_11) rfl ?_
    exact kt
  obtain ⟨fl, h_fl⟩ : ∃ z : Int32, z = (((pp.toUInt32 >>> ((8 : Int32) &&& 31).toUInt32).toInt32).toInt8.toInt32) := ⟨_, rfl⟩
  have pre4 : ∀ t, Steps p.tables e below (s₁.setTop (mkF m 12 #[.val (.int b0), .val (.int b1), .val (.int b2), .val (.int b3), .val (.int pp), .val (.int tt), .val (.int ii), .unset, .unset, .unset, .unset] [(.int fl)])) t → Steps p.tables e below (s₁.setTop (entryFrame m #[(.int b0), (.int b1), (.int b2), (.int b3), (.int pp), (.int tt)] maxLocals)) t := by
    intro t kt
    rw [h_fl] at kt
    exact pre3 _ kt
  have r_ii := own_r1 _ _ h_ii
  obtain ⟨ki, h_ki⟩ : ∃ k : Nat, ii.toInt = (k : Int) := ⟨ii.toInt.toNat, by omega⟩
  have h_k1 : ki ≤ 1 := by omega
  obtain ⟨T5, gh5, k5, X5, hE5, E5, A5, st5⟩ := newP X0 hx hZ (hw _ (List.mem_of_getElem? (i := 0) rfl)) e0 (g := (mkF m 15 #[.val (.int b0), .val (.int b1), .val (.int b2), .val (.int b3), .val (.int pp), .val (.int tt), .val (.int ii), .val (.int fl), .unset, .unset, .unset] [(.int (5 : Int32))])) rfl (hb hby at_15) rfl (by decide) (cap := 5) (by decide) (by decide) (by decide) (by decide)
  obtain ⟨ab, g5⟩ : ∃ z, z = h0.size := ⟨_, rfl⟩
  rw [← g5] at A5 st5
  have g_ab : n0 ≤ ab := Nat.le_trans Z0 (Nat.le_of_eq g5.symm)
  have Z6 := Nat.le_trans Z0 E5.1
  have V5 : owAI Z gh5 ab .byte 5 (fun _ => 0) := owAI.new A5 rfl rfl
  obtain ⟨T7, gh7, X7, hE7, W7, V7, st7⟩ := owStB X5 hx hZ hE5 V5 (k := 0) (j := (0 : Int32)) rfl (by decide) (g := (mkF m 24 #[.val (.int b0), .val (.int b1), .val (.int b2), .val (.int b3), .val (.int pp), .val (.int tt), .val (.int ii), .val (.int fl), .val (.ref ab), .unset, .unset] [(.int fl), (.int (0 : Int32)), (.ref ab)])) rfl rfl (hb hby at_24)
  have Z9 := Nat.le_trans Z6 (Keep.of_wr W7).1
  have N10 := Fr.snoc X7 N0 g_ab
  obtain ⟨T11, gh11, X11, hE11, W11, V11, st11⟩ := owStB X7 hx hZ hE7 V7 (k := 4) (j := (4 : Int32)) rfl (by decide) (g := (mkF m 30 #[.val (.int b0), .val (.int b1), .val (.int b2), .val (.int b3), .val (.int pp), .val (.int tt), .val (.int ii), .val (.int fl), .val (.ref ab), .unset, .unset] [(.int fl), (.int (4 : Int32)), (.ref ab)])) rfl rfl (hb hby at_30)
  have Z13 := Nat.le_trans Z9 (Keep.of_wr W11).1
  have N14 := Fr.snoc X11 N10 g_ab
  obtain ⟨T15, gh15, X15, hE15, W15, V15, st15⟩ := owStB X11 hx hZ hE11 V11 (k := ki) (j := ii) h_ki (by omega) (g := (mkF m 37 #[.val (.int b0), .val (.int b1), .val (.int b2), .val (.int b3), .val (.int pp), .val (.int tt), .val (.int ii), .val (.int fl), .val (.ref ab), .unset, .unset] [(.int (b0.toInt8.toInt32)), (.int ii), (.ref ab)])) rfl rfl (hb hby at_37)
  have Z17 := Nat.le_trans Z13 (Keep.of_wr W15).1
  have N18 := Fr.snoc X15 N14 g_ab
  obtain ⟨T19, gh19, X19, hE19, W19, V19, st19⟩ := owStB X15 hx hZ hE15 V15 (k := (ki + 1)) (j := (ii + (1 : Int32))) (own_ix (1 : Int32) 1 h_ki h_k1 rfl (by decide)) (by omega) (g := (mkF m 46 #[.val (.int b0), .val (.int b1), .val (.int b2), .val (.int b3), .val (.int pp), .val (.int tt), .val (.int ii), .val (.int fl), .val (.ref ab), .unset, .unset] [(.int (b1.toInt8.toInt32)), (.int (ii + (1 : Int32))), (.ref ab)])) rfl rfl (hb hby at_46)
  have Z21 := Nat.le_trans Z17 (Keep.of_wr W19).1
  have N22 := Fr.snoc X19 N18 g_ab
  obtain ⟨T23, gh23, X23, hE23, W23, V23, st23⟩ := owStB X19 hx hZ hE19 V19 (k := (ki + 2)) (j := (ii + (2 : Int32))) (own_ix (2 : Int32) 2 h_ki h_k1 rfl (by decide)) (by omega) (g := (mkF m 55 #[.val (.int b0), .val (.int b1), .val (.int b2), .val (.int b3), .val (.int pp), .val (.int tt), .val (.int ii), .val (.int fl), .val (.ref ab), .unset, .unset] [(.int (b2.toInt8.toInt32)), (.int (ii + (2 : Int32))), (.ref ab)])) rfl rfl (hb hby at_55)
  have Z25 := Nat.le_trans Z21 (Keep.of_wr W23).1
  have N26 := Fr.snoc X23 N22 g_ab
  obtain ⟨T27, gh27, X27, hE27, W27, V27, st27⟩ := owStB X23 hx hZ hE23 V23 (k := (ki + 3)) (j := (ii + (3 : Int32))) (own_ix (3 : Int32) 3 h_ki h_k1 rfl (by decide)) (by omega) (g := (mkF m 64 #[.val (.int b0), .val (.int b1), .val (.int b2), .val (.int b3), .val (.int pp), .val (.int tt), .val (.int ii), .val (.int fl), .val (.ref ab), .unset, .unset] [(.int (b3.toInt8.toInt32)), (.int (ii + (3 : Int32))), (.ref ab)])) rfl rfl (hb hby at_64)
  have Z29 := Nat.le_trans Z25 (Keep.of_wr W27).1
  have N30 := Fr.snoc X27 N26 g_ab
  obtain ⟨fb, h_fb⟩ : ∃ g : Nat → Int32, g = (owUp (owUp (owUp (owUp (owUp (owUp (fun _ => 0) 0 (fl.toInt8.toInt32)) 4 (fl.toInt8.toInt32)) ki ((b0.toInt8.toInt32).toInt8.toInt32)) (ki + 1) ((b1.toInt8.toInt32).toInt8.toInt32)) (ki + 2) ((b2.toInt8.toInt32).toInt8.toInt32)) (ki + 3) ((b3.toInt8.toInt32).toInt8.toInt32)) := ⟨_, rfl⟩
  rw [← h_fb] at V27
  have pre31 : ∀ t, Steps p.tables e below (T27.setTop (mkF m 79 #[.val (.int b0), .val (.int b1), .val (.int b2), .val (.int b3), .val (.int pp), .val (.int tt), .val (.int ii), .val (.int fl), .val (.ref ab), .unset, .unset] [(.int (ii + ((tt &&& (2147483647 : Int32)) % ((6 : Int32) - ii))))])) t → Steps p.tables e below (s₁.setTop (entryFrame m #[(.int b0), (.int b1), (.int b2), (.int b3), (.int pp), (.int tt)] maxLocals)) t := by
    intro t kt
    refine pre4 _ ?_
    show Steps p.tables e below (s₁.setTop (mkF m 12 #[.val (.int b0), .val (.int b1), .val (.int b2), .val (.int b3), .val (.int pp), .val (.int tt), .val (.int ii), .unset, .unset, .unset, .unset] [(.int fl)])) _
    refine XS.istore X0.here hx rfl (hb hby at_12) rfl (l' := #[.val (.int b0), .val (.int b1), .val (.int b2), .val (.int b3), .val (.int pp), .val (.int tt), .val (.int ii), .val (.int fl), .unset, .unset, .unset]) rfl ?_
    show Steps p.tables e below (s₁.setTop (mkF m 14 #[.val (.int b0), .val (.int b1), .val (.int b2), .val (.int b3), .val (.int pp), .val (.int tt), .val (.int ii), .val (.int fl), .unset, .unset, .unset] [])) _
    refine XS.iconst X0.here hx rfl (hb hby at_14) ?_
    show Steps p.tables e below (s₁.setTop (mkF m 15 #[.val (.int b0), .val (.int b1), .val (.int b2), .val (.int b3), .val (.int pp), .val (.int tt), .val (.int ii), .val (.int fl), .unset, .unset, .unset] [(.int (5 : Int32))])) _
    refine st5 _ ?_
    show Steps p.tables e below (T5.setTop (mkF m 17 #[.val (.int b0), .val (.int b1), .val (.int b2), .val (.int b3), .val (.int pp), .val (.int tt), .val (.int ii), .val (.int fl), .unset, .unset, .unset] [(.ref ab)])) _
    refine XS.astore X5.here hx rfl (hb hby at_17) rfl rfl (l' := #[.val (.int b0), .val (.int b1), .val (.int b2), .val (.int b3), .val (.int pp), .val (.int tt), .val (.int ii), .val (.int fl), .val (.ref ab), .unset, .unset]) rfl ?_
    show Steps p.tables e below (T5.setTop (mkF m 19 #[.val (.int b0), .val (.int b1), .val (.int b2), .val (.int b3), .val (.int pp), .val (.int tt), .val (.int ii), .val (.int fl), .val (.ref ab), .unset, .unset] [])) _
    refine XS.aload X5.here hx rfl (hb hby at_19) rfl rfl ?_
    show Steps p.tables e below (T5.setTop (mkF m 21 #[.val (.int b0), .val (.int b1), .val (.int b2), .val (.int b3), .val (.int pp), .val (.int tt), .val (.int ii), .val (.int fl), .val (.ref ab), .unset, .unset] [(.ref ab)])) _
    refine XS.iconst X5.here hx rfl (hb hby at_21) ?_
    show Steps p.tables e below (T5.setTop (mkF m 22 #[.val (.int b0), .val (.int b1), .val (.int b2), .val (.int b3), .val (.int pp), .val (.int tt), .val (.int ii), .val (.int fl), .val (.ref ab), .unset, .unset] [(.int (0 : Int32)), (.ref ab)])) _
    refine XS.iload X5.here hx rfl (hb hby at_22) rfl ?_
    show Steps p.tables e below (T5.setTop (mkF m 24 #[.val (.int b0), .val (.int b1), .val (.int b2), .val (.int b3), .val (.int pp), .val (.int tt), .val (.int ii), .val (.int fl), .val (.ref ab), .unset, .unset] [(.int fl), (.int (0 : Int32)), (.ref ab)])) _
    refine st7 _ ?_
    show Steps p.tables e below (T7.setTop (mkF m 25 #[.val (.int b0), .val (.int b1), .val (.int b2), .val (.int b3), .val (.int pp), .val (.int tt), .val (.int ii), .val (.int fl), .val (.ref ab), .unset, .unset] [])) _
    refine XS.aload X7.here hx rfl (hb hby at_25) rfl rfl ?_
    show Steps p.tables e below (T7.setTop (mkF m 27 #[.val (.int b0), .val (.int b1), .val (.int b2), .val (.int b3), .val (.int pp), .val (.int tt), .val (.int ii), .val (.int fl), .val (.ref ab), .unset, .unset] [(.ref ab)])) _
    refine XS.iconst X7.here hx rfl (hb hby at_27) ?_
    show Steps p.tables e below (T7.setTop (mkF m 28 #[.val (.int b0), .val (.int b1), .val (.int b2), .val (.int b3), .val (.int pp), .val (.int tt), .val (.int ii), .val (.int fl), .val (.ref ab), .unset, .unset] [(.int (4 : Int32)), (.ref ab)])) _
    refine XS.iload X7.here hx rfl (hb hby at_28) rfl ?_
    show Steps p.tables e below (T7.setTop (mkF m 30 #[.val (.int b0), .val (.int b1), .val (.int b2), .val (.int b3), .val (.int pp), .val (.int tt), .val (.int ii), .val (.int fl), .val (.ref ab), .unset, .unset] [(.int fl), (.int (4 : Int32)), (.ref ab)])) _
    refine st11 _ ?_
    show Steps p.tables e below (T11.setTop (mkF m 31 #[.val (.int b0), .val (.int b1), .val (.int b2), .val (.int b3), .val (.int pp), .val (.int tt), .val (.int ii), .val (.int fl), .val (.ref ab), .unset, .unset] [])) _
    refine XS.aload X11.here hx rfl (hb hby at_31) rfl rfl ?_
    show Steps p.tables e below (T11.setTop (mkF m 33 #[.val (.int b0), .val (.int b1), .val (.int b2), .val (.int b3), .val (.int pp), .val (.int tt), .val (.int ii), .val (.int fl), .val (.ref ab), .unset, .unset] [(.ref ab)])) _
    refine XS.iload X11.here hx rfl (hb hby at_33) rfl ?_
    show Steps p.tables e below (T11.setTop (mkF m 35 #[.val (.int b0), .val (.int b1), .val (.int b2), .val (.int b3), .val (.int pp), .val (.int tt), .val (.int ii), .val (.int fl), .val (.ref ab), .unset, .unset] [(.int ii), (.ref ab)])) _
    refine XS.iloadN X11.here hx rfl (hb hby at_35) rfl ?_
    show Steps p.tables e below (T11.setTop (mkF m 36 #[.val (.int b0), .val (.int b1), .val (.int b2), .val (.int b3), .val (.int pp), .val (.int tt), .val (.int ii), .val (.int fl), .val (.ref ab), .unset, .unset] [(.int b0), (.int ii), (.ref ab)])) _
    refine XS.i2b X11.here hx rfl (hb hby at_36) rfl ?_
    show Steps p.tables e below (T11.setTop (mkF m 37 #[.val (.int b0), .val (.int b1), .val (.int b2), .val (.int b3), .val (.int pp), .val (.int tt), .val (.int ii), .val (.int fl), .val (.ref ab), .unset, .unset] [(.int (b0.toInt8.toInt32)), (.int ii), (.ref ab)])) _
    refine st15 _ ?_
    show Steps p.tables e below (T15.setTop (mkF m 38 #[.val (.int b0), .val (.int b1), .val (.int b2), .val (.int b3), .val (.int pp), .val (.int tt), .val (.int ii), .val (.int fl), .val (.ref ab), .unset, .unset] [])) _
    refine XS.aload X15.here hx rfl (hb hby at_38) rfl rfl ?_
    show Steps p.tables e below (T15.setTop (mkF m 40 #[.val (.int b0), .val (.int b1), .val (.int b2), .val (.int b3), .val (.int pp), .val (.int tt), .val (.int ii), .val (.int fl), .val (.ref ab), .unset, .unset] [(.ref ab)])) _
    refine XS.iload X15.here hx rfl (hb hby at_40) rfl ?_
    show Steps p.tables e below (T15.setTop (mkF m 42 #[.val (.int b0), .val (.int b1), .val (.int b2), .val (.int b3), .val (.int pp), .val (.int tt), .val (.int ii), .val (.int fl), .val (.ref ab), .unset, .unset] [(.int ii), (.ref ab)])) _
    refine XS.iconst X15.here hx rfl (hb hby at_42) ?_
    show Steps p.tables e below (T15.setTop (mkF m 43 #[.val (.int b0), .val (.int b1), .val (.int b2), .val (.int b3), .val (.int pp), .val (.int tt), .val (.int ii), .val (.int fl), .val (.ref ab), .unset, .unset] [(.int (1 : Int32)), (.int ii), (.ref ab)])) _
    refine XS.iadd X15.here hx rfl (hb hby at_43) rfl ?_
    show Steps p.tables e below (T15.setTop (mkF m 44 #[.val (.int b0), .val (.int b1), .val (.int b2), .val (.int b3), .val (.int pp), .val (.int tt), .val (.int ii), .val (.int fl), .val (.ref ab), .unset, .unset] [(.int (ii + (1 : Int32))), (.ref ab)])) _
    refine XS.iloadN X15.here hx rfl (hb hby at_44) rfl ?_
    show Steps p.tables e below (T15.setTop (mkF m 45 #[.val (.int b0), .val (.int b1), .val (.int b2), .val (.int b3), .val (.int pp), .val (.int tt), .val (.int ii), .val (.int fl), .val (.ref ab), .unset, .unset] [(.int b1), (.int (ii + (1 : Int32))), (.ref ab)])) _
    refine XS.i2b X15.here hx rfl (hb hby at_45) rfl ?_
    show Steps p.tables e below (T15.setTop (mkF m 46 #[.val (.int b0), .val (.int b1), .val (.int b2), .val (.int b3), .val (.int pp), .val (.int tt), .val (.int ii), .val (.int fl), .val (.ref ab), .unset, .unset] [(.int (b1.toInt8.toInt32)), (.int (ii + (1 : Int32))), (.ref ab)])) _
    refine st19 _ ?_
    show Steps p.tables e below (T19.setTop (mkF m 47 #[.val (.int b0), .val (.int b1), .val (.int b2), .val (.int b3), .val (.int pp), .val (.int tt), .val (.int ii), .val (.int fl), .val (.ref ab), .unset, .unset] [])) _
    refine XS.aload X19.here hx rfl (hb hby at_47) rfl rfl ?_
    show Steps p.tables e below (T19.setTop (mkF m 49 #[.val (.int b0), .val (.int b1), .val (.int b2), .val (.int b3), .val (.int pp), .val (.int tt), .val (.int ii), .val (.int fl), .val (.ref ab), .unset, .unset] [(.ref ab)])) _
    refine XS.iload X19.here hx rfl (hb hby at_49) rfl ?_
    show Steps p.tables e below (T19.setTop (mkF m 51 #[.val (.int b0), .val (.int b1), .val (.int b2), .val (.int b3), .val (.int pp), .val (.int tt), .val (.int ii), .val (.int fl), .val (.ref ab), .unset, .unset] [(.int ii), (.ref ab)])) _
    refine XS.iconst X19.here hx rfl (hb hby at_51) ?_
    show Steps p.tables e below (T19.setTop (mkF m 52 #[.val (.int b0), .val (.int b1), .val (.int b2), .val (.int b3), .val (.int pp), .val (.int tt), .val (.int ii), .val (.int fl), .val (.ref ab), .unset, .unset] [(.int (2 : Int32)), (.int ii), (.ref ab)])) _
    refine XS.iadd X19.here hx rfl (hb hby at_52) rfl ?_
    show Steps p.tables e below (T19.setTop (mkF m 53 #[.val (.int b0), .val (.int b1), .val (.int b2), .val (.int b3), .val (.int pp), .val (.int tt), .val (.int ii), .val (.int fl), .val (.ref ab), .unset, .unset] [(.int (ii + (2 : Int32))), (.ref ab)])) _
    refine XS.iloadN X19.here hx rfl (hb hby at_53) rfl ?_
    show Steps p.tables e below (T19.setTop (mkF m 54 #[.val (.int b0), .val (.int b1), .val (.int b2), .val (.int b3), .val (.int pp), .val (.int tt), .val (.int ii), .val (.int fl), .val (.ref ab), .unset, .unset] [(.int b2), (.int (ii + (2 : Int32))), (.ref ab)])) _
    refine XS.i2b X19.here hx rfl (hb hby at_54) rfl ?_
    show Steps p.tables e below (T19.setTop (mkF m 55 #[.val (.int b0), .val (.int b1), .val (.int b2), .val (.int b3), .val (.int pp), .val (.int tt), .val (.int ii), .val (.int fl), .val (.ref ab), .unset, .unset] [(.int (b2.toInt8.toInt32)), (.int (ii + (2 : Int32))), (.ref ab)])) _
    refine st23 _ ?_
    show Steps p.tables e below (T23.setTop (mkF m 56 #[.val (.int b0), .val (.int b1), .val (.int b2), .val (.int b3), .val (.int pp), .val (.int tt), .val (.int ii), .val (.int fl), .val (.ref ab), .unset, .unset] [])) _
    refine XS.aload X23.here hx rfl (hb hby at_56) rfl rfl ?_
    show Steps p.tables e below (T23.setTop (mkF m 58 #[.val (.int b0), .val (.int b1), .val (.int b2), .val (.int b3), .val (.int pp), .val (.int tt), .val (.int ii), .val (.int fl), .val (.ref ab), .unset, .unset] [(.ref ab)])) _
    refine XS.iload X23.here hx rfl (hb hby at_58) rfl ?_
    show Steps p.tables e below (T23.setTop (mkF m 60 #[.val (.int b0), .val (.int b1), .val (.int b2), .val (.int b3), .val (.int pp), .val (.int tt), .val (.int ii), .val (.int fl), .val (.ref ab), .unset, .unset] [(.int ii), (.ref ab)])) _
    refine XS.iconst X23.here hx rfl (hb hby at_60) ?_
    show Steps p.tables e below (T23.setTop (mkF m 61 #[.val (.int b0), .val (.int b1), .val (.int b2), .val (.int b3), .val (.int pp), .val (.int tt), .val (.int ii), .val (.int fl), .val (.ref ab), .unset, .unset] [(.int (3 : Int32)), (.int ii), (.ref ab)])) _
    refine XS.iadd X23.here hx rfl (hb hby at_61) rfl ?_
    show Steps p.tables e below (T23.setTop (mkF m 62 #[.val (.int b0), .val (.int b1), .val (.int b2), .val (.int b3), .val (.int pp), .val (.int tt), .val (.int ii), .val (.int fl), .val (.ref ab), .unset, .unset] [(.int (ii + (3 : Int32))), (.ref ab)])) _
    refine XS.iloadN X23.here hx rfl (hb hby at_62) rfl ?_
    show Steps p.tables e below (T23.setTop (mkF m 63 #[.val (.int b0), .val (.int b1), .val (.int b2), .val (.int b3), .val (.int pp), .val (.int tt), .val (.int ii), .val (.int fl), .val (.ref ab), .unset, .unset] [(.int b3), (.int (ii + (3 : Int32))), (.ref ab)])) _
    refine XS.i2b X23.here hx rfl (hb hby at_63) rfl ?_
    show Steps p.tables e below (T23.setTop (mkF m 64 #[.val (.int b0), .val (.int b1), .val (.int b2), .val (.int b3), .val (.int pp), .val (.int tt), .val (.int ii), .val (.int fl), .val (.ref ab), .unset, .unset] [(.int (b3.toInt8.toInt32)), (.int (ii + (3 : Int32))), (.ref ab)])) _
    refine st27 _ ?_
    show Steps p.tables e below (T27.setTop (mkF m 65 #[.val (.int b0), .val (.int b1), .val (.int b2), .val (.int b3), .val (.int pp), .val (.int tt), .val (.int ii), .val (.int fl), .val (.ref ab), .unset, .unset] [])) _
    refine XS.iload X27.here hx rfl (hb hby at_65) rfl ?_
    show Steps p.tables e below (T27.setTop (mkF m 67 #[.val (.int b0), .val (.int b1), .val (.int b2), .val (.int b3), .val (.int pp), .val (.int tt), .val (.int ii), .val (.int fl), .val (.ref ab), .unset, .unset] [(.int ii)])) _
    refine XS.iload X27.here hx rfl (hb hby at_67) rfl ?_
    show Steps p.tables e below (T27.setTop (mkF m 69 #[.val (.int b0), .val (.int b1), .val (.int b2), .val (.int b3), .val (.int pp), .val (.int tt), .val (.int ii), .val (.int fl), .val (.ref ab), .unset, .unset] [(.int tt), (.int ii)])) _
    refine Stand.ldcI (g := (mkF m 69 #[.val (.int b0), .val (.int b1), .val (.int b2), .val (.int b3), .val (.int pp), .val (.int tt), .val (.int ii), .val (.int fl), .val (.ref ab), .unset, .unset] [(.int tt), (.int ii)])) X27 hx hown (mvT hZ (hw _ (List.mem_of_getElem? (i := 1) rfl))) rfl (hb hby at_69) ?_
    show Steps p.tables e below (T27.setTop (mkF m 71 #[.val (.int b0), .val (.int b1), .val (.int b2), .val (.int b3), .val (.int pp), .val (.int tt), .val (.int ii), .val (.int fl), .val (.ref ab), .unset, .unset] [(.int (2147483647 : Int32)), (.int tt), (.int ii)])) _
    refine XS.iand X27.here hx rfl (hb hby at_71) rfl ?_
    show Steps p.tables e below (T27.setTop (mkF m 72 #[.val (.int b0), .val (.int b1), .val (.int b2), .val (.int b3), .val (.int pp), .val (.int tt), .val (.int ii), .val (.int fl), .val (.ref ab), .unset, .unset] [(.int (tt &&& (2147483647 : Int32))), (.int ii)])) _
    refine XS.bipush X27.here hx rfl (hb hby at_72) ?_
    show Steps p.tables e below (T27.setTop (mkF m 74 #[.val (.int b0), .val (.int b1), .val (.int b2), .val (.int b3), .val (.int pp), .val (.int tt), .val (.int ii), .val (.int fl), .val (.ref ab), .unset, .unset] [(.int (6 : Int32)), (.int (tt &&& (2147483647 : Int32))), (.int ii)])) _
    refine XS.iload X27.here hx rfl (hb hby at_74) rfl ?_
    show Steps p.tables e below (T27.setTop (mkF m 76 #[.val (.int b0), .val (.int b1), .val (.int b2), .val (.int b3), .val (.int pp), .val (.int tt), .val (.int ii), .val (.int fl), .val (.ref ab), .unset, .unset] [(.int ii), (.int (6 : Int32)), (.int (tt &&& (2147483647 : Int32))), (.int ii)])) _
    refine XS.isub X27.here hx rfl (hb hby at_76) rfl ?_
    show Steps p.tables e below (T27.setTop (mkF m 77 #[.val (.int b0), .val (.int b1), .val (.int b2), .val (.int b3), .val (.int pp), .val (.int tt), .val (.int ii), .val (.int fl), .val (.ref ab), .unset, .unset] [(.int ((6 : Int32) - ii)), (.int (tt &&& (2147483647 : Int32))), (.int ii)])) _
    refine iremM (g := (mkF m 77 #[.val (.int b0), .val (.int b1), .val (.int b2), .val (.int b3), .val (.int pp), .val (.int tt), .val (.int ii), .val (.int fl), .val (.ref ab), .unset, .unset] [(.int ((6 : Int32) - ii)), (.int (tt &&& (2147483647 : Int32))), (.int ii)])) X27 hx rfl (hb hby at_77) rfl (own_nz pp ii h_ii) ?_
    show Steps p.tables e below (T27.setTop (mkF m 78 #[.val (.int b0), .val (.int b1), .val (.int b2), .val (.int b3), .val (.int pp), .val (.int tt), .val (.int ii), .val (.int fl), .val (.ref ab), .unset, .unset] [(.int ((tt &&& (2147483647 : Int32)) % ((6 : Int32) - ii))), (.int ii)])) _
    refine XS.iadd X27.here hx rfl (hb hby at_78) rfl ?_
    exact kt
  obtain ⟨to, h_to⟩ : ∃ z : Int32, z = (ii + ((tt &&& (2147483647 : Int32)) % ((6 : Int32) - ii))) := ⟨_, rfl⟩
  have pre32 : ∀ t, Steps p.tables e below (T27.setTop (mkF m 79 #[.val (.int b0), .val (.int b1), .val (.int b2), .val (.int b3), .val (.int pp), .val (.int tt), .val (.int ii), .val (.int fl), .val (.ref ab), .unset, .unset] [(.int to)])) t → Steps p.tables e below (s₁.setTop (entryFrame m #[(.int b0), (.int b1), (.int b2), (.int b3), (.int pp), (.int tt)] maxLocals)) t := by
    intro t kt
    rw [h_to] at kt
    exact pre31 _ kt
  obtain ⟨_, _, ⟨T33, L33, k33, n33⟩, -, X33, ⟨Lc33, hQ33, l33, y33, z33⟩, st33⟩ := Jvm.LawKit.callS X27 hx (y := (⟨"com/example/fama/fama/table/TableLines", "sequenceLength", "([BII)I"⟩ : MethodName)) hown (mvT hZ (hw _ (List.mem_of_getElem? (i := 2) rfl))) (mvT hZ (hw _ (List.mem_of_getElem? (i := 3) rfl))) (mvT hZ (hw _ (List.mem_of_getElem? (i := 4) rfl))) (mvT hZ (hw _ (List.mem_of_getElem? (i := 5) rfl))) (by decide) (backOf (W := 0) (rm1 l Z a0 hw [] ab ii to fb ki gh27 n0 Z29 V27 h_ki h_k1) hZ (hw _ (List.mem_of_getElem? (i := 5) rfl)) (hw _ (List.mem_of_getElem? (i := 4) rfl)) (by decide) (by decide)) (g := (mkF m 87 #[.val (.int b0), .val (.int b1), .val (.int b2), .val (.int b3), .val (.int pp), .val (.int tt), .val (.int ii), .val (.int fl), .val (.ref ab), .val (.int to), .unset] [(.int to), (.int ii), (.ref ab)])) rfl (by rw [hml]; rfl) (argsL := [(.ref ab), (.int ii), (.int to)]) (rest := []) (lenOf pd_1 rfl) rfl (by show 2 * 0 + _ ≤ _; exact Nat.le_of_eq rfl) (hb hby at_87) (fun _ _ => ⟨rfl, hE27, (by decide : 1 + 0 ≤ _), (by decide : 5 + 0 ≤ _)⟩)
  dsimp only [Pt.U, Pt.locs, Pt.cells, Pt.slots] at X33 l33 y33 z33 st33 hQ33
  subst l33 y33 z33
  obtain ⟨rfl, N33q, hE33⟩ := hQ33
  have N33 := Fr.app N30 N33q
  have pre34 : ∀ t, Steps p.tables e below (T33.setTop (mkF m 90 #[.val (.int b0), .val (.int b1), .val (.int b2), .val (.int b3), .val (.int pp), .val (.int tt), .val (.int ii), .val (.int fl), .val (.ref ab), .val (.int to), .unset] [(.int (fn1 ab ii to fb ki))])) t → Steps p.tables e below (s₁.setTop (entryFrame m #[(.int b0), (.int b1), (.int b2), (.int b3), (.int pp), (.int tt)] maxLocals)) t := by
    intro t kt
    refine pre32 _ ?_
    show Steps p.tables e below (T27.setTop (mkF m 79 #[.val (.int b0), .val (.int b1), .val (.int b2), .val (.int b3), .val (.int pp), .val (.int tt), .val (.int ii), .val (.int fl), .val (.ref ab), .unset, .unset] [(.int to)])) _
    refine XS.istore X27.here hx rfl (hb hby at_79) rfl (l' := #[.val (.int b0), .val (.int b1), .val (.int b2), .val (.int b3), .val (.int pp), .val (.int tt), .val (.int ii), .val (.int fl), .val (.ref ab), .val (.int to), .unset]) rfl ?_
    show Steps p.tables e below (T27.setTop (mkF m 81 #[.val (.int b0), .val (.int b1), .val (.int b2), .val (.int b3), .val (.int pp), .val (.int tt), .val (.int ii), .val (.int fl), .val (.ref ab), .val (.int to), .unset] [])) _
    refine XS.aload X27.here hx rfl (hb hby at_81) rfl rfl ?_
    show Steps p.tables e below (T27.setTop (mkF m 83 #[.val (.int b0), .val (.int b1), .val (.int b2), .val (.int b3), .val (.int pp), .val (.int tt), .val (.int ii), .val (.int fl), .val (.ref ab), .val (.int to), .unset] [(.ref ab)])) _
    refine XS.iload X27.here hx rfl (hb hby at_83) rfl ?_
    show Steps p.tables e below (T27.setTop (mkF m 85 #[.val (.int b0), .val (.int b1), .val (.int b2), .val (.int b3), .val (.int pp), .val (.int tt), .val (.int ii), .val (.int fl), .val (.ref ab), .val (.int to), .unset] [(.int ii), (.ref ab)])) _
    refine XS.iload X27.here hx rfl (hb hby at_85) rfl ?_
    show Steps p.tables e below (T27.setTop (mkF m 87 #[.val (.int b0), .val (.int b1), .val (.int b2), .val (.int b3), .val (.int pp), .val (.int tt), .val (.int ii), .val (.int fl), .val (.ref ab), .val (.int to), .unset] [(.int to), (.int ii), (.ref ab)])) _
    refine st33 _ ?_
    exact kt
  obtain ⟨got, h_got⟩ : ∃ z : Int32, z = (fn1 ab ii to fb ki) := ⟨_, rfl⟩
  have pre35 : ∀ t, Steps p.tables e below (T33.setTop (mkF m 90 #[.val (.int b0), .val (.int b1), .val (.int b2), .val (.int b3), .val (.int pp), .val (.int tt), .val (.int ii), .val (.int fl), .val (.ref ab), .val (.int to), .unset] [(.int got)])) t → Steps p.tables e below (s₁.setTop (entryFrame m #[(.int b0), (.int b1), (.int b2), (.int b3), (.int pp), (.int tt)] maxLocals)) t := by
    intro t kt
    rw [h_got] at kt
    exact pre34 _ kt
  have pre36 : ∀ t, Steps p.tables e below (T33.setTop (mkF m 99 #[.val (.int b0), .val (.int b1), .val (.int b2), .val (.int b3), .val (.int pp), .val (.int tt), .val (.int ii), .val (.int fl), .val (.ref ab), .val (.int to), .val (.int got)] [(.int (b0 &&& (255 : Int32))), (.int got)])) t → Steps p.tables e below (s₁.setTop (entryFrame m #[(.int b0), (.int b1), (.int b2), (.int b3), (.int pp), (.int tt)] maxLocals)) t := by
    intro t kt
    refine pre35 _ ?_
    show Steps p.tables e below (T33.setTop (mkF m 90 #[.val (.int b0), .val (.int b1), .val (.int b2), .val (.int b3), .val (.int pp), .val (.int tt), .val (.int ii), .val (.int fl), .val (.ref ab), .val (.int to), .unset] [(.int got)])) _
    refine XS.istore X33.here hx rfl (hb hby at_90) rfl (l' := #[.val (.int b0), .val (.int b1), .val (.int b2), .val (.int b3), .val (.int pp), .val (.int tt), .val (.int ii), .val (.int fl), .val (.ref ab), .val (.int to), .val (.int got)]) rfl ?_
    show Steps p.tables e below (T33.setTop (mkF m 92 #[.val (.int b0), .val (.int b1), .val (.int b2), .val (.int b3), .val (.int pp), .val (.int tt), .val (.int ii), .val (.int fl), .val (.ref ab), .val (.int to), .val (.int got)] [])) _
    refine XS.iload X33.here hx rfl (hb hby at_92) rfl ?_
    show Steps p.tables e below (T33.setTop (mkF m 94 #[.val (.int b0), .val (.int b1), .val (.int b2), .val (.int b3), .val (.int pp), .val (.int tt), .val (.int ii), .val (.int fl), .val (.ref ab), .val (.int to), .val (.int got)] [(.int got)])) _
    refine XS.iloadN X33.here hx rfl (hb hby at_94) rfl ?_
    show Steps p.tables e below (T33.setTop (mkF m 95 #[.val (.int b0), .val (.int b1), .val (.int b2), .val (.int b3), .val (.int pp), .val (.int tt), .val (.int ii), .val (.int fl), .val (.ref ab), .val (.int to), .val (.int got)] [(.int b0), (.int got)])) _
    refine XS.sipush X33.here hx rfl (hb hby at_95) ?_
    show Steps p.tables e below (T33.setTop (mkF m 98 #[.val (.int b0), .val (.int b1), .val (.int b2), .val (.int b3), .val (.int pp), .val (.int tt), .val (.int ii), .val (.int fl), .val (.ref ab), .val (.int to), .val (.int got)] [(.int (255 : Int32)), (.int b0), (.int got)])) _
    refine XS.iand X33.here hx rfl (hb hby at_98) rfl ?_
    exact kt
  obtain ⟨c0, h_c0⟩ : ∃ z : Int32, z = (b0 &&& (255 : Int32)) := ⟨_, rfl⟩
  have pre37 : ∀ t, Steps p.tables e below (T33.setTop (mkF m 99 #[.val (.int b0), .val (.int b1), .val (.int b2), .val (.int b3), .val (.int pp), .val (.int tt), .val (.int ii), .val (.int fl), .val (.ref ab), .val (.int to), .val (.int got)] [(.int c0), (.int got)])) t → Steps p.tables e below (s₁.setTop (entryFrame m #[(.int b0), (.int b1), (.int b2), (.int b3), (.int pp), (.int tt)] maxLocals)) t := by
    intro t kt
    rw [h_c0] at kt
    exact pre36 _ kt
  have pre38 : ∀ t, Steps p.tables e below (T33.setTop (mkF m 104 #[.val (.int b0), .val (.int b1), .val (.int b2), .val (.int b3), .val (.int pp), .val (.int tt), .val (.int ii), .val (.int fl), .val (.ref ab), .val (.int to), .val (.int got)] [(.int (b1 &&& (255 : Int32))), (.int c0), (.int got)])) t → Steps p.tables e below (s₁.setTop (entryFrame m #[(.int b0), (.int b1), (.int b2), (.int b3), (.int pp), (.int tt)] maxLocals)) t := by
    intro t kt
    refine pre37 _ ?_
    show Steps p.tables e below (T33.setTop (mkF m 99 #[.val (.int b0), .val (.int b1), .val (.int b2), .val (.int b3), .val (.int pp), .val (.int tt), .val (.int ii), .val (.int fl), .val (.ref ab), .val (.int to), .val (.int got)] [(.int c0), (.int got)])) _
    refine XS.iloadN X33.here hx rfl (hb hby at_99) rfl ?_
    show Steps p.tables e below (T33.setTop (mkF m 100 #[.val (.int b0), .val (.int b1), .val (.int b2), .val (.int b3), .val (.int pp), .val (.int tt), .val (.int ii), .val (.int fl), .val (.ref ab), .val (.int to), .val (.int got)] [(.int b1), (.int c0), (.int got)])) _
    refine XS.sipush X33.here hx rfl (hb hby at_100) ?_
    show Steps p.tables e below (T33.setTop (mkF m 103 #[.val (.int b0), .val (.int b1), .val (.int b2), .val (.int b3), .val (.int pp), .val (.int tt), .val (.int ii), .val (.int fl), .val (.ref ab), .val (.int to), .val (.int got)] [(.int (255 : Int32)), (.int b1), (.int c0), (.int got)])) _
    refine XS.iand X33.here hx rfl (hb hby at_103) rfl ?_
    exact kt
  obtain ⟨c1, h_c1⟩ : ∃ z : Int32, z = (b1 &&& (255 : Int32)) := ⟨_, rfl⟩
  have pre39 : ∀ t, Steps p.tables e below (T33.setTop (mkF m 104 #[.val (.int b0), .val (.int b1), .val (.int b2), .val (.int b3), .val (.int pp), .val (.int tt), .val (.int ii), .val (.int fl), .val (.ref ab), .val (.int to), .val (.int got)] [(.int c1), (.int c0), (.int got)])) t → Steps p.tables e below (s₁.setTop (entryFrame m #[(.int b0), (.int b1), (.int b2), (.int b3), (.int pp), (.int tt)] maxLocals)) t := by
    intro t kt
    rw [h_c1] at kt
    exact pre38 _ kt
  have pre40 : ∀ t, Steps p.tables e below (T33.setTop (mkF m 109 #[.val (.int b0), .val (.int b1), .val (.int b2), .val (.int b3), .val (.int pp), .val (.int tt), .val (.int ii), .val (.int fl), .val (.ref ab), .val (.int to), .val (.int got)] [(.int (b2 &&& (255 : Int32))), (.int c1), (.int c0), (.int got)])) t → Steps p.tables e below (s₁.setTop (entryFrame m #[(.int b0), (.int b1), (.int b2), (.int b3), (.int pp), (.int tt)] maxLocals)) t := by
    intro t kt
    refine pre39 _ ?_
    show Steps p.tables e below (T33.setTop (mkF m 104 #[.val (.int b0), .val (.int b1), .val (.int b2), .val (.int b3), .val (.int pp), .val (.int tt), .val (.int ii), .val (.int fl), .val (.ref ab), .val (.int to), .val (.int got)] [(.int c1), (.int c0), (.int got)])) _
    refine XS.iloadN X33.here hx rfl (hb hby at_104) rfl ?_
    show Steps p.tables e below (T33.setTop (mkF m 105 #[.val (.int b0), .val (.int b1), .val (.int b2), .val (.int b3), .val (.int pp), .val (.int tt), .val (.int ii), .val (.int fl), .val (.ref ab), .val (.int to), .val (.int got)] [(.int b2), (.int c1), (.int c0), (.int got)])) _
    refine XS.sipush X33.here hx rfl (hb hby at_105) ?_
    show Steps p.tables e below (T33.setTop (mkF m 108 #[.val (.int b0), .val (.int b1), .val (.int b2), .val (.int b3), .val (.int pp), .val (.int tt), .val (.int ii), .val (.int fl), .val (.ref ab), .val (.int to), .val (.int got)] [(.int (255 : Int32)), (.int b2), (.int c1), (.int c0), (.int got)])) _
    refine XS.iand X33.here hx rfl (hb hby at_108) rfl ?_
    exact kt
  obtain ⟨c2, h_c2⟩ : ∃ z : Int32, z = (b2 &&& (255 : Int32)) := ⟨_, rfl⟩
  have pre41 : ∀ t, Steps p.tables e below (T33.setTop (mkF m 109 #[.val (.int b0), .val (.int b1), .val (.int b2), .val (.int b3), .val (.int pp), .val (.int tt), .val (.int ii), .val (.int fl), .val (.ref ab), .val (.int to), .val (.int got)] [(.int c2), (.int c1), (.int c0), (.int got)])) t → Steps p.tables e below (s₁.setTop (entryFrame m #[(.int b0), (.int b1), (.int b2), (.int b3), (.int pp), (.int tt)] maxLocals)) t := by
    intro t kt
    rw [h_c2] at kt
    exact pre40 _ kt
  have pre42 : ∀ t, Steps p.tables e below (T33.setTop (mkF m 114 #[.val (.int b0), .val (.int b1), .val (.int b2), .val (.int b3), .val (.int pp), .val (.int tt), .val (.int ii), .val (.int fl), .val (.ref ab), .val (.int to), .val (.int got)] [(.int (b3 &&& (255 : Int32))), (.int c2), (.int c1), (.int c0), (.int got)])) t → Steps p.tables e below (s₁.setTop (entryFrame m #[(.int b0), (.int b1), (.int b2), (.int b3), (.int pp), (.int tt)] maxLocals)) t := by
    intro t kt
    refine pre41 _ ?_
    show Steps p.tables e below (T33.setTop (mkF m 109 #[.val (.int b0), .val (.int b1), .val (.int b2), .val (.int b3), .val (.int pp), .val (.int tt), .val (.int ii), .val (.int fl), .val (.ref ab), .val (.int to), .val (.int got)] [(.int c2), (.int c1), (.int c0), (.int got)])) _
    refine XS.iloadN X33.here hx rfl (hb hby at_109) rfl ?_
    show Steps p.tables e below (T33.setTop (mkF m 110 #[.val (.int b0), .val (.int b1), .val (.int b2), .val (.int b3), .val (.int pp), .val (.int tt), .val (.int ii), .val (.int fl), .val (.ref ab), .val (.int to), .val (.int got)] [(.int b3), (.int c2), (.int c1), (.int c0), (.int got)])) _
    refine XS.sipush X33.here hx rfl (hb hby at_110) ?_
    show Steps p.tables e below (T33.setTop (mkF m 113 #[.val (.int b0), .val (.int b1), .val (.int b2), .val (.int b3), .val (.int pp), .val (.int tt), .val (.int ii), .val (.int fl), .val (.ref ab), .val (.int to), .val (.int got)] [(.int (255 : Int32)), (.int b3), (.int c2), (.int c1), (.int c0), (.int got)])) _
    refine XS.iand X33.here hx rfl (hb hby at_113) rfl ?_
    exact kt
  obtain ⟨c3, h_c3⟩ : ∃ z : Int32, z = (b3 &&& (255 : Int32)) := ⟨_, rfl⟩
  have pre43 : ∀ t, Steps p.tables e below (T33.setTop (mkF m 114 #[.val (.int b0), .val (.int b1), .val (.int b2), .val (.int b3), .val (.int pp), .val (.int tt), .val (.int ii), .val (.int fl), .val (.ref ab), .val (.int to), .val (.int got)] [(.int c3), (.int c2), (.int c1), (.int c0), (.int got)])) t → Steps p.tables e below (s₁.setTop (entryFrame m #[(.int b0), (.int b1), (.int b2), (.int b3), (.int pp), (.int tt)] maxLocals)) t := by
    intro t kt
    rw [h_c3] at kt
    exact pre42 _ kt
  have pre44 : ∀ t, Steps p.tables e below (T33.setTop (mkF m 119 #[.val (.int b0), .val (.int b1), .val (.int b2), .val (.int b3), .val (.int pp), .val (.int tt), .val (.int ii), .val (.int fl), .val (.ref ab), .val (.int to), .val (.int got)] [(.int (to - ii)), (.int c3), (.int c2), (.int c1), (.int c0), (.int got)])) t → Steps p.tables e below (s₁.setTop (entryFrame m #[(.int b0), (.int b1), (.int b2), (.int b3), (.int pp), (.int tt)] maxLocals)) t := by
    intro t kt
    refine pre43 _ ?_
    show Steps p.tables e below (T33.setTop (mkF m 114 #[.val (.int b0), .val (.int b1), .val (.int b2), .val (.int b3), .val (.int pp), .val (.int tt), .val (.int ii), .val (.int fl), .val (.ref ab), .val (.int to), .val (.int got)] [(.int c3), (.int c2), (.int c1), (.int c0), (.int got)])) _
    refine XS.iload X33.here hx rfl (hb hby at_114) rfl ?_
    show Steps p.tables e below (T33.setTop (mkF m 116 #[.val (.int b0), .val (.int b1), .val (.int b2), .val (.int b3), .val (.int pp), .val (.int tt), .val (.int ii), .val (.int fl), .val (.ref ab), .val (.int to), .val (.int got)] [(.int to), (.int c3), (.int c2), (.int c1), (.int c0), (.int got)])) _
    refine XS.iload X33.here hx rfl (hb hby at_116) rfl ?_
    show Steps p.tables e below (T33.setTop (mkF m 118 #[.val (.int b0), .val (.int b1), .val (.int b2), .val (.int b3), .val (.int pp), .val (.int tt), .val (.int ii), .val (.int fl), .val (.ref ab), .val (.int to), .val (.int got)] [(.int ii), (.int to), (.int c3), (.int c2), (.int c1), (.int c0), (.int got)])) _
    refine XS.isub X33.here hx rfl (hb hby at_118) rfl ?_
    exact kt
  obtain ⟨av, h_av⟩ : ∃ z : Int32, z = (to - ii) := ⟨_, rfl⟩
  have pre45 : ∀ t, Steps p.tables e below (T33.setTop (mkF m 119 #[.val (.int b0), .val (.int b1), .val (.int b2), .val (.int b3), .val (.int pp), .val (.int tt), .val (.int ii), .val (.int fl), .val (.ref ab), .val (.int to), .val (.int got)] [(.int av), (.int c3), (.int c2), (.int c1), (.int c0), (.int got)])) t → Steps p.tables e below (s₁.setTop (entryFrame m #[(.int b0), (.int b1), (.int b2), (.int b3), (.int pp), (.int tt)] maxLocals)) t := by
    intro t kt
    rw [h_av] at kt
    exact pre44 _ kt
  obtain ⟨_, _, ⟨T46, L46, k46, n46⟩, -, X46, ⟨Lc46, hQ46, l46, y46, z46⟩, st46⟩ := Jvm.LawKit.callS X33 hx (y := (⟨"com/example/fama/fama/table/TableLinesSequenceLengthPinLaw", "expected", "(IIIII)I"⟩ : MethodName)) hown (mvT hZ (hw _ (List.mem_of_getElem? (i := 6) rfl))) (mvT hZ (hw _ (List.mem_of_getElem? (i := 7) rfl))) (mvT hZ (hw _ (List.mem_of_getElem? (i := 8) rfl))) (mvT hZ (hw _ (List.mem_of_getElem? (i := 9) rfl))) (by decide) (backOf (W := 1) (rm2 l Z a0 hw [] c0 c1 c2 c3 av gh27 n0 Z29) hZ (hw _ (List.mem_of_getElem? (i := 9) rfl)) (hw _ (List.mem_of_getElem? (i := 8) rfl)) (by decide) (by decide)) (g := (mkF m 119 #[.val (.int b0), .val (.int b1), .val (.int b2), .val (.int b3), .val (.int pp), .val (.int tt), .val (.int ii), .val (.int fl), .val (.ref ab), .val (.int to), .val (.int got)] [(.int av), (.int c3), (.int c2), (.int c1), (.int c0), (.int got)])) rfl (by rw [hml]; rfl) (argsL := [(.int c0), (.int c1), (.int c2), (.int c3), (.int av)]) (rest := [(.int got)]) (lenOf pd_2 rfl) rfl (by show 2 * 0 + _ ≤ _; exact Nat.le_of_eq rfl) (hb hby at_119) (fun _ _ => ⟨rfl, hE33, (by decide : 1 + 0 ≤ _), (by decide : 5 + 0 ≤ _)⟩)
  dsimp only [Pt.U, Pt.locs, Pt.cells, Pt.slots] at X46 l46 y46 z46 st46 hQ46
  subst l46 y46 z46
  obtain ⟨rfl, N46q, hE46⟩ := hQ46
  have N46 := Fr.app N33 N46q
  have pre47 : ∀ t, Steps p.tables e below (T46.setTop (mkF m 122 #[.val (.int b0), .val (.int b1), .val (.int b2), .val (.int b3), .val (.int pp), .val (.int tt), .val (.int ii), .val (.int fl), .val (.ref ab), .val (.int to), .val (.int got)] [(.int (fn2 c0 c1 c2 c3 av)), (.int got)])) t → Steps p.tables e below (s₁.setTop (entryFrame m #[(.int b0), (.int b1), (.int b2), (.int b3), (.int pp), (.int tt)] maxLocals)) t := by
    intro t kt
    refine pre45 _ ?_
    show Steps p.tables e below (T33.setTop (mkF m 119 #[.val (.int b0), .val (.int b1), .val (.int b2), .val (.int b3), .val (.int pp), .val (.int tt), .val (.int ii), .val (.int fl), .val (.ref ab), .val (.int to), .val (.int got)] [(.int av), (.int c3), (.int c2), (.int c1), (.int c0), (.int got)])) _
    refine st46 _ ?_
    exact kt
  by_cases hc122_48 : got = (fn2 c0 c1 c2 c3 av)
  · skip
    have pre49 : ∀ t, Steps p.tables e below (T46.setTop (mkF m 130 #[.val (.int b0), .val (.int b1), .val (.int b2), .val (.int b3), .val (.int pp), .val (.int tt), .val (.int ii), .val (.int fl), .val (.ref ab), .val (.int to), .val (.int got)] [(.int (1 : Int32))])) t → Steps p.tables e below (s₁.setTop (entryFrame m #[(.int b0), (.int b1), (.int b2), (.int b3), (.int pp), (.int tt)] maxLocals)) t := by
      intro t kt
      refine pre47 _ ?_
      show Steps p.tables e below (T46.setTop (mkF m 122 #[.val (.int b0), .val (.int b1), .val (.int b2), .val (.int b3), .val (.int pp), .val (.int tt), .val (.int ii), .val (.int fl), .val (.ref ab), .val (.int to), .val (.int got)] [(.int (fn2 c0 c1 c2 c3 av)), (.int got)])) _
      refine XS.icmpNo X46.here hx rfl (hb hby at_122) rfl (XT.ii_ne_f hc122_48) ?_
      show Steps p.tables e below (T46.setTop (mkF m 125 #[.val (.int b0), .val (.int b1), .val (.int b2), .val (.int b3), .val (.int pp), .val (.int tt), .val (.int ii), .val (.int fl), .val (.ref ab), .val (.int to), .val (.int got)] [])) _
      refine XS.iconst X46.here hx rfl (hb hby at_125) ?_
      show Steps p.tables e below (T46.setTop (mkF m 126 #[.val (.int b0), .val (.int b1), .val (.int b2), .val (.int b3), .val (.int pp), .val (.int tt), .val (.int ii), .val (.int fl), .val (.ref ab), .val (.int to), .val (.int got)] [(.int (1 : Int32))])) _
      refine XS.goto X46.here hx rfl (pc0 := 126) (pc' := 130) rfl (hb hby at_126) (by decide) (by decide) ?_
      exact kt
    obtain ⟨fs, hr, hrun, hended, hW, hsame⟩ := X46.leave (v := some (.int (1 : Int32))) (fun h => by rw [Bd.returns] at h; cases h)
    refine ⟨_, _, pre49 _ ?_, hrun, hended, _, _, rfl, ?_, ⟨_, rfl⟩, hW, hsame.mono (by decide) (by decide)⟩
    · show Steps p.tables e below (T46.setTop (mkF m 130 #[.val (.int b0), .val (.int b1), .val (.int b2), .val (.int b3), .val (.int pp), .val (.int tt), .val (.int ii), .val (.int fl), .val (.ref ab), .val (.int to), .val (.int got)] [(.int (1 : Int32))])) _
      exact retN X46 hx (t := .boolean) Bd.returns (by simp) (hb hby at_130) hr
    · show Q0 Z b0 b1 b2 b3 pp tt h0 n0 _ T46.heap _
      rw [hE46]
      exact ⟨rfl, N46⟩
  · skip
    exact absurd (own_law b0 b1 b2 b3 pp tt ii fl to got c0 c1 c2 c3 av ab fb ki h_ki h_ii h_fb h_to h_got h_c0 h_c1 h_c2 h_c3 h_av) hc122_48
set_option maxRecDepth 65536 in
set_option maxHeartbeats 40000000 in
theorem comes_1 {Post : Tables → Env → Array Value → State → Outcome → State → Prop} (hpost : ∀ tb e args s v u, (limb_1_1.after args s (.returned v) u = true ∧ limb_1_2.after args s (.returned v) u = true ∧ True) → FrameEnd s (.returned v) u (Jvm.fieldLocs frame_1_writes args s ++ Jvm.arrayLocs frame_1_arrays args s ++ Jvm.staticLocs frame_1_statics s) 16 128 → Post tb e args s (.returned v) u) :
    ArmFor flags0 classFile x code maxLocals ret World_1 tables_1 room_1 Calls_1 rest_1 Pre_1 Post := by
  intro l hfl _ _ p e ha hc hk s m args below hf hA hF happ hP
  obtain ⟨hcalls, hrest, hpre⟩ := hP
  obtain ⟨-, -, -, hnamed, -, -, -, hat⟩ := (Spec.applies_iff hf).mp happ
  obtain ⟨hg, hn⟩ := and_e (Cond.before_iff.mp (show (Jvm.Cond.and given_1 narrow_1).before args s = true from hpre))
  obtain ⟨g1, g2⟩ := and_e hg
  obtain ⟨g3, g4⟩ := and_e g2
  obtain ⟨g5, g6⟩ := and_e g4
  obtain ⟨g7, g8⟩ := and_e g6
  obtain ⟨g9, g10⟩ := and_e g8
  obtain ⟨g11, g12⟩ := and_e g10
  obtain ⟨w0, w1, w2, w3, w4, w5, rfl⟩ : ∃ w0 w1 w2 w3 w4 w5 : Value, args = #[w0, w1, w2, w3, w4, w5] := by
    have hs : args.size = 6 := by simpa [Cond.value, given_1] using g1
    obtain ⟨L⟩ := args
    match L, hs with
    | [w0, w1, w2, w3, w4, w5], _ => exact ⟨w0, w1, w2, w3, w4, w5, rfl⟩
  have hw := fun d (hd : d ∈ tables_1) => atoms_spec (ws := Jvm.Cond.code x code maxLocals ret :: tables_1) hat d (List.mem_cons_of_mem _ hd)
  have hfit : Fit s := fun {y c} hc i hi => by
    obtain ⟨ha, rfl⟩ := Array.getElem?_eq_some_iff.mp hc
    have q := List.all_eq_true.mp ((Array.all_eq_true_iff_forall_mem.mp hF) _ (Array.getElem_mem ha)) i (List.mem_range.mpr hi)
    simpa [Array.getElem?_eq_getElem hi] using q
  obtain ⟨i0, ei0⟩ := is_v g3
  obtain rfl : w0 = (.int i0) := Option.some.inj ei0
  obtain ⟨i1, ei1⟩ := is_v g5
  obtain rfl : w1 = (.int i1) := Option.some.inj ei1
  obtain ⟨i2, ei2⟩ := is_v g7
  obtain rfl : w2 = (.int i2) := Option.some.inj ei2
  obtain ⟨i3, ei3⟩ := is_v g9
  obtain rfl : w3 = (.int i3) := Option.some.inj ei3
  obtain ⟨i4, ei4⟩ := is_v g11
  obtain rfl : w4 = (.int i4) := Option.some.inj ei4
  obtain ⟨i5, ei5⟩ := is_v g12
  obtain rfl : w5 = (.int i5) := Option.some.inj ei5
  obtain ⟨n, o, h1, h2, h3, _, L, rfl, ⟨rfl, N⟩, hq⟩ := rm0 l s _ hw tables_1 i0 i1 i2 i3 i4 i5 s.heap s.heap.size (Nat.le_refl _) p e ha hc hk s m _ below hf ((Spec.applies_iff_loose hf).mp happ).1 ⟨rfl, State.Warmed39.refl s, rfl⟩ trivial
  refine ⟨n, _, h1, h2, h3, hpost _ _ _ _ _ _ ⟨Cond.after_iff.mpr rfl, Cond.after_iff.mpr (eq_i res_at (Term.int_eval (1)) rfl), trivial⟩ ⟨hq.1, hq.2.1, (hq.2.2.sift fun y hy => Or.inr (N y hy)).mono (by decide) (by decide)⟩⟩
theorem main_1_1 : Claimed_1_1 := comes_1 fun _ _ _ _ _ _ h hF => ⟨h.1, hF⟩
theorem main_1_2 : Claimed_1_2 := comes_1 fun _ _ _ _ _ _ h hF => ⟨h.2.1, hF⟩
end Jvm.Pilot.@@N@@
namespace Jvm.Pilot.@@N@@
open Jvm Jvm.ClassFile Sem Op Lib Jvm.Free Jvm.Stand Jvm.Pilot.@@N@@.Jvm.D
/-! MADE BY PROGRAM (witnessworld.py) out of the Statement's table words and the real class files: 9 classes; the members and pool entries that the words name. The judged class is class 1, her method 1. -/
namespace start1
open Jvm.ClassFile
def u (s : String) : CpInfo := .utf8 (stringToUtf16 s)
/-- a pool by its gaps: so many unusable entries, then the entry; so many at the end -/
def gap : Nat → List CpInfo → List CpInfo
  | 0, r => r
  | n + 1, r => .unusable :: gap n r
def poolList (es : List (Nat × CpInfo)) (last : Nat) : List CpInfo := es.foldr (fun e r => gap e.1 (e.2 :: r)) (gap last [])
def pool (es : List (Nat × CpInfo)) (last : Nat) : Array CpInfo := ⟨poolList es last⟩
def fileOf (pool : Array CpInfo) (this : Nat) (attrs : Array Attribute := #[]) (ms : Array MethodInfo := #[]) (fl : Nat := 33) (sup : Nat := 0) (ifs : Array Nat := #[]) (fds : Array FieldInfo := #[]) : ClassFile where
  minorVersion := 0
  majorVersion := 65
  constantPool := pool
  accessFlags := fl
  thisClass := this
  superClass := sup
  interfaces := ifs
  fields := fds
  methods := ms
  attributes := attrs
def plain (name : String) (sup : Option ClassId) : Class where
  name := name
  kind := .ordinary
  loader := none
  accessFlags := 33
  super := sup
  interfaces := #[]
  cf := none
  fields := #[]
  methods := #[]
  instanceTypes := #[]
  staticTypes := #[]
  resolved := #[]
  callSites := []
  init := .initialized
  statics := none
  mirror := none

def pool0 : Array CpInfo := pool [(5, u "<init>"), (0, u "()V"), (1, .class_ 10), (1, u "java/lang/Object")] 113

def k0m0 : Method := { name := "<init>", desc := "()V", sig := { parameters := [], returnType := none }, accessFlags := 1, code := none }
/-- java/lang/Object -/
def k0 : Class := { plain "java/lang/Object" none with
  accessFlags := 33
  interfaces := #[]
  cf := some (fileOf pool0 8 #[] #[{ accessFlags := 1, nameIndex := 5, descriptorIndex := 6, attributes := #[] }] 33 0 #[] #[])
  fields := #[]
  methods := #[k0m0]
  instanceTypes := #[]
  staticTypes := #[]
  resolved := Array.replicate 124 none
  statics := none }

def pool1 : Array CpInfo := pool [(2, .class_ 4), (1, u "java/lang/Object"), (0, u "<init>"), (0, u "()V"), (0, .integer 2147483647), (0, .methodref 9 10), (0, .class_ 11), (0, .nameAndType 12 13), (0, u "com/example/fama/fama/table/TableLines"), (0, u "sequenceLength"), (0, u "([BII)I"), (0, .methodref 15 16), (0, .class_ 17), (0, .nameAndType 18 19), (0, u "com/example/fama/fama/table/TableLinesSequenceLengthPinLaw"), (0, u "expected"), (0, u "(IIIII)I"), (0, .methodref 15 21), (0, .nameAndType 22 23), (0, u "cont"), (0, u "(I)Z"), (0, .integer 65536), (0, .integer 1114111), (0, .integer 55296), (0, .integer 57343), (2, u "law"), (0, u "(IIIIII)Z")] 5

def k1m0 : Method := { name := "<init>", desc := "()V", sig := { parameters := [], returnType := none }, accessFlags := 1, code := none }
def k1c1 : Code := { maxStack := 7, maxLocals := 11, code := code, exceptionTable := #[], attributes := #[] }
def k1m1 : Method := { name := "law", desc := "(IIIIII)Z", sig := { parameters := [.int, .int, .int, .int, .int, .int], returnType := some .boolean }, accessFlags := 9, code := some k1c1 }
def k1c2 : Code := { maxStack := 2, maxLocals := 1, code := method_3_code, exceptionTable := #[], attributes := #[] }
def k1m2 : Method := { name := "cont", desc := "(I)Z", sig := { parameters := [.int], returnType := some .boolean }, accessFlags := 10, code := some k1c2 }
def k1c3 : Code := { maxStack := 3, maxLocals := 8, code := method_4_code, exceptionTable := #[], attributes := #[] }
def k1m3 : Method := { name := "expected", desc := "(IIIII)I", sig := { parameters := [.int, .int, .int, .int, .int], returnType := some .int }, accessFlags := 10, code := some k1c3 }
/-- com/example/fama/fama/table/TableLinesSequenceLengthPinLaw -/
def k1 : Class := { plain "com/example/fama/fama/table/TableLinesSequenceLengthPinLaw" (some 0) with
  accessFlags := 49
  interfaces := #[]
  cf := some (fileOf pool1 15 #[] #[{ accessFlags := 1, nameIndex := 5, descriptorIndex := 6, attributes := #[] }, { accessFlags := 9, nameIndex := 30, descriptorIndex := 31, attributes := #[] }, { accessFlags := 10, nameIndex := 22, descriptorIndex := 23, attributes := #[] }, { accessFlags := 10, nameIndex := 18, descriptorIndex := 19, attributes := #[] }] 49 2 #[] #[])
  fields := #[]
  methods := #[k1m0, k1m1, k1m2, k1m3]
  instanceTypes := #[]
  staticTypes := #[]
  resolved := Array.replicate 37 none
  statics := none }

def pool2 : Array CpInfo := pool [(6, .class_ 8), (1, u "java/lang/Object"), (2, .class_ 12), (0, u "com/example/fama/fama/table/TableLines$Row"), (2, .class_ 17), (1, u "com/example/fama/fama/table/TableLines"), (0, u "row"), (0, u "Lcom/example/fama/fama/table/TableLines$Row;"), (3, u "buffer"), (0, u "[B"), (2, u "file"), (0, u "Ljava/nio/file/Path;"), (2, u "in"), (0, u "Ljava/io/InputStream;"), (21, u "ended"), (0, u "Z"), (21, u "end"), (0, u "I"), (11, u "lineNumber"), (0, u "J"), (17, u "([BII)I"), (19, .class_ 131), (1, u "com/example/fama/fama/table/TableLines$RowReader"), (7, u "sequenceLength"), (7, u "LONGS"), (0, u "Ljava/lang/invoke/VarHandle;"), (34, .class_ 185), (1, u "com/example/fama/fama/table/TableLines$Reader"), (15, u "BUFFER_SIZE"), (2, u "LONGEST_LINE"), (0, u "EVERY_BYTE_14"), (0, u "EVERY_HIGH_BIT")] 37

def k2c0 : Code := { maxStack := 3, maxLocals := 10, code := prog_50_method_9_code, exceptionTable := #[], attributes := #[] }
def k2m0 : Method := { name := "sequenceLength", desc := "([BII)I", sig := { parameters := [(.array .byte), .int, .int], returnType := some .int }, accessFlags := 8, code := some k2c0 }
/-- com/example/fama/fama/table/TableLines -/
def k2 : Class := { plain "com/example/fama/fama/table/TableLines" (some 0) with
  accessFlags := 48
  interfaces := #[]
  cf := some (fileOf pool2 15 #[.nestMembers #[11, 129, 183]] #[{ accessFlags := 8, nameIndex := 139, descriptorIndex := 109, attributes := #[] }] 48 6 #[] #[{ accessFlags := 24, nameIndex := 201, descriptorIndex := 78, attributes := #[] }, { accessFlags := 24, nameIndex := 204, descriptorIndex := 78, attributes := #[] }, { accessFlags := 26, nameIndex := 147, descriptorIndex := 148, attributes := #[] }, { accessFlags := 26, nameIndex := 205, descriptorIndex := 91, attributes := #[] }, { accessFlags := 26, nameIndex := 206, descriptorIndex := 91, attributes := #[] }, { accessFlags := 18, nameIndex := 27, descriptorIndex := 28, attributes := #[] }, { accessFlags := 18, nameIndex := 31, descriptorIndex := 32, attributes := #[] }, { accessFlags := 18, nameIndex := 18, descriptorIndex := 19, attributes := #[] }, { accessFlags := 2, nameIndex := 23, descriptorIndex := 24, attributes := #[] }, { accessFlags := 2, nameIndex := 77, descriptorIndex := 78, attributes := #[] }, { accessFlags := 2, nameIndex := 54, descriptorIndex := 55, attributes := #[] }, { accessFlags := 2, nameIndex := 90, descriptorIndex := 91, attributes := #[] }])
  fields := #[{ name := "BUFFER_SIZE", type := .int, accessFlags := 24, slot := 0, constantValue := 0 }, { name := "LONGEST_LINE", type := .int, accessFlags := 24, slot := 1, constantValue := 0 }, { name := "LONGS", type := (.object "java/lang/invoke/VarHandle"), accessFlags := 26, slot := 2, constantValue := 0 }, { name := "EVERY_BYTE_14", type := .long, accessFlags := 26, slot := 3, constantValue := 0 }, { name := "EVERY_HIGH_BIT", type := .long, accessFlags := 26, slot := 4, constantValue := 0 }, { name := "file", type := (.object "java/nio/file/Path"), accessFlags := 18, slot := 0, constantValue := 0 }, { name := "in", type := (.object "java/io/InputStream"), accessFlags := 18, slot := 1, constantValue := 0 }, { name := "row", type := (.object "com/example/fama/fama/table/TableLines$Row"), accessFlags := 18, slot := 2, constantValue := 0 }, { name := "buffer", type := (.array .byte), accessFlags := 2, slot := 3, constantValue := 0 }, { name := "end", type := .int, accessFlags := 2, slot := 4, constantValue := 0 }, { name := "ended", type := .boolean, accessFlags := 2, slot := 5, constantValue := 0 }, { name := "lineNumber", type := .long, accessFlags := 2, slot := 6, constantValue := 0 }]
  methods := #[k2m0]
  instanceTypes := #[(.object "java/nio/file/Path"), (.object "java/io/InputStream"), (.object "com/example/fama/fama/table/TableLines$Row"), (.array .byte), .int, .boolean, .long]
  staticTypes := #[.int, .int, (.object "java/lang/invoke/VarHandle"), .long, .long]
  resolved := Array.replicate 244 none
  statics := none }

def pool3 : Array CpInfo := pool [(1, u "java/lang/Cloneable"), (0, .class_ 1), (0, u "java/lang/Object"), (0, .class_ 3)] 3

/-- java/lang/Cloneable -/
def k3 : Class := { plain "java/lang/Cloneable" (some 0) with
  accessFlags := 1537
  interfaces := #[]
  cf := some (fileOf pool3 2 #[] #[] 1537 4 #[] #[])
  fields := #[]
  methods := #[]
  instanceTypes := #[]
  staticTypes := #[]
  resolved := Array.replicate 8 none
  statics := none }

def pool4 : Array CpInfo := pool [(1, u "java/io/Serializable"), (0, .class_ 1), (0, u "java/lang/Object"), (0, .class_ 3)] 3

/-- java/io/Serializable -/
def k4 : Class := { plain "java/io/Serializable" (some 0) with
  accessFlags := 1537
  interfaces := #[]
  cf := some (fileOf pool4 2 #[] #[] 1537 4 #[] #[])
  fields := #[]
  methods := #[]
  instanceTypes := #[]
  staticTypes := #[]
  resolved := Array.replicate 8 none
  statics := none }

/-- the primitive byte -/
def k5 : Class := { plain "byte" none with kind := .primitive 'B', accessFlags := 0x411 }
/-- [B -/
def k6 : Class := { plain "[B" (some 0) with kind := .array 5 .byte, interfaces := #[3, 4], accessFlags := 1041 }

/-- the primitive int -/
def k7 : Class := { plain "int" none with kind := .primitive 'I', accessFlags := 0x411 }
/-- [I -/
def k8 : Class := { plain "[I" (some 0) with kind := .array 7 .int, interfaces := #[3, 4], accessFlags := 1041 }

def heap : Heap := #[]
def classes : Array Class := #[k0, k1, k2, k3, k4, k5, k6, k7, k8]
def interned : List (Array UInt16 × Addr) := []
def slotsUsed : Nat := 0
def theMethod : MethodId := ⟨1, 1⟩
def args0 : Array Value := #[.int 5, .int 6, .int 7, .int 8, .int 5, .int 6]
def aboutOver (below : List Frame) : State where
  vm := { classes := classes, interned := interned.toArray }
  heap := heap
  slotsUsed := slotsUsed
  threads := #[{ frames := .invoking theMethod args0 :: below }]
def below0 : List Frame := [.native { method := ⟨0, 0⟩, args := #[] }]
def about1 : State := aboutOver below0
def p0 : Program := .bare "" "" ""
def e0 : Env := launch0.env 0 0 0
theorem w_frames : about1.frames = Frame.invoking theMethod args0 :: below0 := rfl
set_option maxRecDepth 65536 in
theorem w_args : argsFit about1.vm theMethod args0 = true := by decide +kernel
set_option maxRecDepth 65536 in
theorem w_heap : heapFits about1 = true := by decide +kernel
set_option maxRecDepth 65536 in
theorem w_runnable : about1.curStatus? = some .runnable := by decide +kernel
set_option maxRecDepth 65536 in
theorem w_alone : about1.alone = true := by decide +kernel
set_option maxRecDepth 65536 in
theorem w_named : about1.methodNamed? x = some theMethod := by decide +kernel
set_option maxRecDepth 65536 in
theorem w_hears : about1.hears theMethod below0 = true := by decide +kernel
set_option maxRecDepth 65536 in
theorem w_ripe : about1.ripe theMethod args0 below0 = true := by decide +kernel
theorem w_running : about1.status = .running := rfl
set_option maxRecDepth 65536 in
theorem w_room : about1.hasRoom e0.platform room_1 = true :=
  launch0.hasRoom_least _ room_1 (by decide +kernel) (by decide +kernel) (by decide +kernel) (by decide +kernel) (by decide +kernel) (by decide +kernel)
theorem allAtoms_all (ts : List Jvm.Cond) (a : Array Jvm.Value) (st : Jvm.State) : (allAtoms ts).before a st = ts.all (fun c => c.before a st) := by
  induction ts with
  | nil => rfl
  | cons c t ih =>
    show (Jvm.Cond.and c (allAtoms t)).before a st = _
    rw [Jvm.Cond.before_and, ih, List.all_cons]
def words1 : List Jvm.Cond := Jvm.Cond.code x code maxLocals ret :: tables_1
/-- a 'code' word, met by the world's own term for the bytes: nothing is compared byte by byte -/
theorem code_word {y : MethodName} {bytes : ByteArray} {mx : Nat} {rt : Option FieldType} {a : Array Value} {s : State} {m : MethodId} {meth : Method} {c : Code} (h1 : s.methodNamed? y = some m) (h2 : s.vm.method? m = some meth) (h3 : meth.code = some c) (h4 : c.code = bytes)
    (h5 : (c.maxLocals == mx && c.exceptionTable.isEmpty && decide (c.maxStack ≤ mostOperands) && decide (meth.sig.returnType = rt) && !meth.locks && decide (parseMethodDescriptor y.desc = some meth.sig)) = true) : (Jvm.Cond.code y bytes mx rt).before a s = true := by
  simp only [Bool.and_eq_true, beq_iff_eq, Bool.not_eq_true', decide_eq_true_eq] at h5
  obtain ⟨⟨⟨⟨⟨g1, g2⟩, g3⟩, g4⟩, g5⟩, g6⟩ := h5
  simp [Cond.before, Cond.holds, Cond.value, h1, h2, h3, h4, g1, g2, g3, g4, g5, g6]
def isCode : Jvm.Cond → Bool
  | .code _ _ _ _ => true
  | _ => false
theorem all_split {L : List Jvm.Cond} {P : Jvm.Cond → Bool} (h1 : L.all (fun c => isCode c || P c) = true) (h2 : ∀ c ∈ L.filter isCode, P c = true) : L.all P = true := by
  refine List.all_eq_true.mpr fun c hc => ?_
  have h := List.all_eq_true.mp h1 c hc
  rcases Bool.eq_false_or_eq_true (isCode c) with hi | hi
  · exact h2 c (List.mem_filter.mpr ⟨hc, hi⟩)
  · simpa [hi] using h
set_option maxRecDepth 65536 in
theorem w_c0 : (Jvm.Cond.code x code maxLocals ret).before args0 about1 = true := code_word (m := ⟨1, 1⟩) (meth := k1m1) (c := k1c1) (by decide +kernel) rfl rfl rfl (by decide +kernel)
set_option maxRecDepth 65536 in
theorem w_c1 : (Jvm.Cond.code ({ cls := "com/example/fama/fama/table/TableLines", name := "sequenceLength", desc := "([BII)I" } : Jvm.MethodName) prog_50_method_9_code (10 : Nat) (Option.some Jvm.ClassFile.FieldType.int)).before args0 about1 = true := code_word (m := ⟨2, 0⟩) (meth := k2m0) (c := k2c0) (by decide +kernel) rfl rfl rfl (by decide +kernel)
set_option maxRecDepth 65536 in
theorem w_c2 : (Jvm.Cond.code ({ cls := "com/example/fama/fama/table/TableLinesSequenceLengthPinLaw", name := "expected", desc := "(IIIII)I" } : Jvm.MethodName) method_4_code (8 : Nat) (Option.some Jvm.ClassFile.FieldType.int)).before args0 about1 = true := code_word (m := ⟨1, 3⟩) (meth := k1m3) (c := k1c3) (by decide +kernel) rfl rfl rfl (by decide +kernel)
set_option maxRecDepth 65536 in
theorem w_c3 : (Jvm.Cond.code ({ cls := "com/example/fama/fama/table/TableLinesSequenceLengthPinLaw", name := "cont", desc := "(I)Z" } : Jvm.MethodName) method_3_code (1 : Nat) (Option.some Jvm.ClassFile.FieldType.boolean)).before args0 about1 = true := code_word (m := ⟨1, 2⟩) (meth := k1m2) (c := k1c2) (by decide +kernel) rfl rfl rfl (by decide +kernel)
def codes1 : List Jvm.Cond := [Jvm.Cond.code x code maxLocals ret, Jvm.Cond.code ({ cls := "com/example/fama/fama/table/TableLines", name := "sequenceLength", desc := "([BII)I" } : Jvm.MethodName) prog_50_method_9_code (10 : Nat) (Option.some Jvm.ClassFile.FieldType.int), Jvm.Cond.code ({ cls := "com/example/fama/fama/table/TableLinesSequenceLengthPinLaw", name := "expected", desc := "(IIIII)I" } : Jvm.MethodName) method_4_code (8 : Nat) (Option.some Jvm.ClassFile.FieldType.int), Jvm.Cond.code ({ cls := "com/example/fama/fama/table/TableLinesSequenceLengthPinLaw", name := "cont", desc := "(I)Z" } : Jvm.MethodName) method_3_code (1 : Nat) (Option.some Jvm.ClassFile.FieldType.boolean)]
set_option maxRecDepth 65536 in
theorem codes_eq : words1.filter isCode = codes1 := rfl
theorem w_codes : ∀ c ∈ words1.filter isCode, c.before args0 about1 = true := by
  rw [codes_eq]
  intro c hc
  simp only [codes1, List.mem_cons, List.not_mem_nil, or_false] at hc
  rcases hc with rfl | rfl | rfl | rfl
  · exact w_c0
  · exact w_c1
  · exact w_c2
  · exact w_c3
set_option maxRecDepth 65536 in
theorem w_t1 : words1.all (fun c => isCode c || c.before args0 about1) = true := by decide +kernel
theorem w_tables : (allAtoms (Jvm.Cond.code x code maxLocals ret :: tables_1)).before args0 about1 = true := by
  rw [allAtoms_all]
  show words1.all (fun c => c.before args0 about1) = true
  refine all_split ?_ w_codes
  rw [w_t1]
set_option maxRecDepth 65536 in
theorem w_case : (Jvm.Cond.and given_1 narrow_1).before args0 about1 = true := by decide +kernel
theorem w_applies : (headSpec (Jvm.Cond.code x code maxLocals ret :: tables_1) room_1).applies x e0.platform about1 = true :=
  (Spec.applies_iff w_frames).mpr ⟨w_running, w_runnable, w_alone, w_named, w_hears, w_ripe, w_room, w_tables⟩
theorem atStart : AtStart classFile x code maxLocals ret World_1 tables_1 room_1 Calls_1 rest_1 Pre_1 launch0 p0 e0 about1 theMethod args0 below0 :=
  ⟨lists_1, trivial, launch0.admits_env _ _ _, launch0.least_env, fairChoices_fair.cas, fairChoices_fair.clock, w_frames, w_args, w_heap, w_applies, trivial, trivial, w_case⟩
end start1
theorem witness_1 : WitnessClaimed_1 := ⟨start1.p0, start1.e0, start1.about1, start1.theMethod, start1.args0, start1.below0, start1.atStart⟩
end Jvm.Pilot.@@N@@
