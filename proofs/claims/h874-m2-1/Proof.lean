import JvmDerived
import JvmDerived.Pilot.@@N@@Statement
import JvmDerived.Pilot.@@N@@Code
set_option linter.unusedVariables false
set_option linter.unusedSimpArgs false
namespace Jvm.Pilot.@@N@@
open Jvm Jvm.ClassFile Sem Op Lib Jvm.Free Jvm.Stand Jvm.LawKit Jvm.RoadKit Bundle Jvm.Pilot.@@N@@.Jvm.D
section Own
variable {p : Program} {l : Launch} {e : Env} {R : Room} {s : State} {m : MethodId} {args : Array Value} {below : List Frame} {meth : Method} {c : Code} {T : State} {locs : List Loc} {cells slots : Nat} {Z : State} {h h' : Heap} {a b : Addr} {n k : Nat}
/-- a function with one place turned -/
def owUp {α : Type} (f : Nat → α) (k : Nat) (v : α) : Nat → α := fun i => if i = k then v else f i
theorem owUp_at {α : Type} {f : Nat → α} {k : Nat} {v : α} : owUp f k v k = v := if_pos rfl
theorem owUp_ne {α : Type} {f : Nat → α} {k i : Nat} {v : α} (q : i ≠ k) : owUp f k v i = f i := if_neg q
theorem owUpP {α : Type} {P : α → Prop} {f : Nat → α} {k : Nat} {v : α} (hf : ∀ i, P (f i)) (hv : P v) : ∀ i, P (owUp f k v i) := fun i => by
  by_cases q : i = k
  · rw [q, owUp_at]; exact hv
  · rw [owUp_ne q]; exact hf i
theorem owIdx {j : Int32} {k : Nat} (hj : j.toInt = (k : Int)) : j.toNatClampNeg = k := by
  have q : j.toNatClampNeg = j.toInt.toNat := rfl
  rw [q, hj]; rfl
theorem owIn {j : Int32} {k n sz : Nat} (hj : j.toInt = (k : Int)) (hk : k < n) (hs : sz = n) : ¬ (j < 0 ∨ sz ≤ j.toNatClampNeg) := by
  rw [owIdx hj, Int32.lt_iff_toInt_lt, hj, hs]
  have q : (0 : Int32).toInt = 0 := rfl
  omega
theorem owSlot {cl : Cell} {k i : Nat} {v : Value} (hk : k < cl.slots.size) : (cl.setSlot k v).slots[i]? = if i = k then some v else cl.slots[i]? := by
  by_cases q : i = k
  · subst q; rw [if_pos rfl]; simp [Cell.setSlot, hk]
  · rw [if_neg q]; exact Array.getElem?_setIfInBounds_ne (Ne.symm q)
/-- an array of ints (bytes, chars ..) whose components a function tells -/
def owAI (Z : State) (h : Heap) (a : Addr) (ty : FieldType) (n : Nat) (f : Nat → Int32) : Prop := ∃ c : Cell, Arr Z h a c ty ∧ c.slots.size = n ∧ ∀ i, i < n → c.slots[i]? = some (.int (f i))
/-- an array of longs -/
def owAJ (Z : State) (h : Heap) (a : Addr) (ty : FieldType) (n : Nat) (f : Nat → Int64) : Prop := ∃ c : Cell, Arr Z h a c ty ∧ c.slots.size = n ∧ ∀ i, i < n → c.slots[i]? = some (.long (f i))
theorem owAI.lt {ty : FieldType} {f : Nat → Int32} (F : owAI Z h a ty n f) : a < h.size := by obtain ⟨c, A, -⟩ := F; exact A.lt
theorem owAI.ext {ty : FieldType} {f : Nat → Int32} (F : owAI Z h a ty n f) (E : Ext h h') : owAI Z h' a ty n f := by obtain ⟨c, A, r⟩ := F; exact ⟨c, A.ext E, r⟩
theorem owAI.other {ty : FieldType} {f : Nat → Int32} {sl : Nat} {v : Value} (F : owAI Z h b ty n f) (W : Wr h h' a sl v) (q : b ≠ a) : owAI Z h' b ty n f := by obtain ⟨c, A, r⟩ := F; exact ⟨c, A.other W q, r⟩
theorem owAI.keep {ty : FieldType} {f : Nat → Int32} {ws : List Addr} (F : owAI Z h a ty n f) (K : Keep h h' ws) (q : a ∉ ws) : owAI Z h' a ty n f := by obtain ⟨c, A, r⟩ := F; exact ⟨c, ⟨K.2.1 a c A.1 q, A.2⟩, r⟩
theorem owAJ.lt {ty : FieldType} {f : Nat → Int64} (F : owAJ Z h a ty n f) : a < h.size := by obtain ⟨c, A, -⟩ := F; exact A.lt
theorem owAJ.ext {ty : FieldType} {f : Nat → Int64} (F : owAJ Z h a ty n f) (E : Ext h h') : owAJ Z h' a ty n f := by obtain ⟨c, A, r⟩ := F; exact ⟨c, A.ext E, r⟩
theorem owAJ.other {ty : FieldType} {f : Nat → Int64} {sl : Nat} {v : Value} (F : owAJ Z h b ty n f) (W : Wr h h' a sl v) (q : b ≠ a) : owAJ Z h' b ty n f := by obtain ⟨c, A, r⟩ := F; exact ⟨c, A.other W q, r⟩
theorem owAJ.keep {ty : FieldType} {f : Nat → Int64} {ws : List Addr} (F : owAJ Z h a ty n f) (K : Keep h h' ws) (q : a ∉ ws) : owAJ Z h' a ty n f := by obtain ⟨c, A, r⟩ := F; exact ⟨c, ⟨K.2.1 a c A.1 q, A.2⟩, r⟩
theorem owAI.new {ty : FieldType} {k : ClassId} {z : Int32} (A : Arr Z h a (newA k ty z) ty) (hz : z.toInt = (n : Int)) (hd : defaultValue ty = .int 0) : owAI Z h a ty n (fun _ => 0) :=
  ⟨_, A, by rw [sz_new]; exact owIdx hz, fun i hi => by rw [← hd]; simp [newA, owIdx hz, hi]⟩
theorem owAJ.new {ty : FieldType} {k : ClassId} {z : Int32} (A : Arr Z h a (newA k ty z) ty) (hz : z.toInt = (n : Int)) (hd : defaultValue ty = .long 0) : owAJ Z h a ty n (fun _ => 0) :=
  ⟨_, A, by rw [sz_new]; exact owIdx hz, fun i hi => by rw [← hd]; simp [newA, owIdx hz, hi]⟩
theorem owAI.to {ty : FieldType} {f g : Nat → Int32} (F : owAI Z h a ty n f) (q : ∀ i, i < n → f i = g i) : owAI Z h a ty n g := by
  obtain ⟨c, A, S, H⟩ := F; exact ⟨c, A, S, fun i hi => by rw [H i hi, q i hi]⟩
theorem owAJ.to {ty : FieldType} {f g : Nat → Int64} (F : owAJ Z h a ty n f) (q : ∀ i, i < n → f i = g i) : owAJ Z h a ty n g := by
  obtain ⟨c, A, S, H⟩ := F; exact ⟨c, A, S, fun i hi => by rw [H i hi, q i hi]⟩
theorem owLdB (X : Stand p l e R s m args below meth c T locs cells slots) (hx : p.tables.exec = Jvm.exec) (hZ : Z.Warmed39 s.vm) (eT : T.heap = h) {f : Nat → Int32} (A : owAI Z h a .byte n f) {j : Int32} (hj : j.toInt = (k : Int)) (hk : k < n) {g : JFrame} (hg : g.method = m) {rest : List Value} (hs : g.stack = .int j :: .ref a :: rest) (hd : decode c.code g.pc = .ok (.baload, 1)) (target : State) (kt : Steps p.tables e below (T.setTop { g with pc := g.pc + 1, stack := .int (f k) :: rest }) target) : Steps p.tables e below (T.setTop g) target := by
  obtain ⟨cl, Ar, S, H⟩ := A
  exact X.baloadBytes hx (by rw [eT]; exact Ar.1) (State.isArrayOf_alike hZ.alike Ar.2.1) Ar.2.2 (owIn hj hk S) (by rw [owIdx hj]; exact H k hk) hg hs hd target kt
theorem owLdC (X : Stand p l e R s m args below meth c T locs cells slots) (hx : p.tables.exec = Jvm.exec) (hZ : Z.Warmed39 s.vm) (eT : T.heap = h) {f : Nat → Int32} (A : owAI Z h a .char n f) {j : Int32} (hj : j.toInt = (k : Int)) (hk : k < n) {g : JFrame} (hg : g.method = m) {rest : List Value} (hs : g.stack = .int j :: .ref a :: rest) (hd : decode c.code g.pc = .ok (.caload, 1)) (target : State) (kt : Steps p.tables e below (T.setTop { g with pc := g.pc + 1, stack := .int (f k) :: rest }) target) : Steps p.tables e below (T.setTop g) target := by
  obtain ⟨cl, Ar, S, H⟩ := A
  exact X.caload hx (by rw [eT]; exact Ar.1) (State.isArrayOf_alike hZ.alike Ar.2.1) Ar.2.2 (owIn hj hk S) (by rw [owIdx hj]; exact H k hk) hg hs hd target kt
theorem owLdI (X : Stand p l e R s m args below meth c T locs cells slots) (hx : p.tables.exec = Jvm.exec) (hZ : Z.Warmed39 s.vm) (eT : T.heap = h) {f : Nat → Int32} (A : owAI Z h a .int n f) {j : Int32} (hj : j.toInt = (k : Int)) (hk : k < n) {g : JFrame} (hg : g.method = m) {rest : List Value} (hs : g.stack = .int j :: .ref a :: rest) (hd : decode c.code g.pc = .ok (.iaload, 1)) (target : State) (kt : Steps p.tables e below (T.setTop { g with pc := g.pc + 1, stack := .int (f k) :: rest }) target) : Steps p.tables e below (T.setTop g) target := by
  obtain ⟨cl, Ar, S, H⟩ := A
  exact X.iaload hx (by rw [eT]; exact Ar.1) (State.isArrayOf_alike hZ.alike Ar.2.1) Ar.2.2 (owIn hj hk S) (by rw [owIdx hj]; exact H k hk) hg hs hd target kt
theorem owLdJ (X : Stand p l e R s m args below meth c T locs cells slots) (hx : p.tables.exec = Jvm.exec) (hZ : Z.Warmed39 s.vm) (eT : T.heap = h) {f : Nat → Int64} (A : owAJ Z h a .long n f) {j : Int32} (hj : j.toInt = (k : Int)) (hk : k < n) {g : JFrame} (hg : g.method = m) {rest : List Value} (hs : g.stack = .int j :: .ref a :: rest) (hd : decode c.code g.pc = .ok (.laload, 1)) (target : State) (kt : Steps p.tables e below (T.setTop { g with pc := g.pc + 1, stack := .long (f k) :: rest }) target) : Steps p.tables e below (T.setTop g) target := by
  obtain ⟨cl, Ar, S, H⟩ := A
  exact X.laload hx (by rw [eT]; exact Ar.1) (State.isArrayOf_alike hZ.alike Ar.2.1) Ar.2.2 (owIn hj hk S) (by rw [owIdx hj]; exact H k hk) hg hs hd target kt
/-- an array of objects -/
def owAR (Z : State) (h : Heap) (a : Addr) (ty : FieldType) (n : Nat) (f : Nat → Addr) : Prop := ∃ c : Cell, Arr Z h a c ty ∧ c.slots.size = n ∧ ∀ i, i < n → c.slots[i]? = some (.ref (f i))
theorem owAR.lt {ty : FieldType} {f : Nat → Addr} (F : owAR Z h a ty n f) : a < h.size := by obtain ⟨c, A, -⟩ := F; exact A.lt
theorem owAR.ext {ty : FieldType} {f : Nat → Addr} (F : owAR Z h a ty n f) (E : Ext h h') : owAR Z h' a ty n f := by obtain ⟨c, A, r⟩ := F; exact ⟨c, A.ext E, r⟩
theorem owLdR (X : Stand p l e R s m args below meth c T locs cells slots) (hx : p.tables.exec = Jvm.exec) (hZ : Z.Warmed39 s.vm) (eT : T.heap = h) {ty : FieldType} {f : Nat → Addr} (A : owAR Z h a ty n f) (hty : ty.isReference = true) {j : Int32} (hj : j.toInt = (k : Int)) (hk : k < n) {g : JFrame} (hg : g.method = m) {rest : List Value} (hs : g.stack = .int j :: .ref a :: rest) (hd : decode c.code g.pc = .ok (.aaload, 1)) (target : State) (kt : Steps p.tables e below (T.setTop { g with pc := g.pc + 1, stack := .ref (f k) :: rest }) target) : Steps p.tables e below (T.setTop g) target := by
  obtain ⟨cl, Ar, S, H⟩ := A
  exact X.aaload hx (by rw [eT]; exact Ar.1) (State.isArrayOf_alike hZ.alike Ar.2.1) hty Ar.2.2 (owIn hj hk S) (by rw [owIdx hj]; exact H k hk) hg hs hd target kt
theorem owLenI (X : Stand p l e R s m args below meth c T locs cells slots) (hx : p.tables.exec = Jvm.exec) (hZ : Z.Warmed39 s.vm) (eT : T.heap = h) {ty : FieldType} {f : Nat → Int32} (A : owAI Z h a ty n f) {z : Int32} (hz : n.toInt32 = z) {g : JFrame} (hg : g.method = m) {rest : List Value} (hs : g.stack = .ref a :: rest) (hd : decode c.code g.pc = .ok (.arraylength, 1)) (target : State) (kt : Steps p.tables e below (T.setTop { g with pc := g.pc + 1, stack := .int z :: rest }) target) : Steps p.tables e below (T.setTop g) target := by
  obtain ⟨cl, Ar, S, H⟩ := A
  exact X.arraylength hx (by rw [eT]; exact Ar.1) (State.isArrayOf_alike hZ.alike Ar.2.1) hg hs hd target (by rw [S, hz]; exact kt)
theorem owLenJ (X : Stand p l e R s m args below meth c T locs cells slots) (hx : p.tables.exec = Jvm.exec) (hZ : Z.Warmed39 s.vm) (eT : T.heap = h) {ty : FieldType} {f : Nat → Int64} (A : owAJ Z h a ty n f) {z : Int32} (hz : n.toInt32 = z) {g : JFrame} (hg : g.method = m) {rest : List Value} (hs : g.stack = .ref a :: rest) (hd : decode c.code g.pc = .ok (.arraylength, 1)) (target : State) (kt : Steps p.tables e below (T.setTop { g with pc := g.pc + 1, stack := .int z :: rest }) target) : Steps p.tables e below (T.setTop g) target := by
  obtain ⟨cl, Ar, S, H⟩ := A
  exact X.arraylength hx (by rw [eT]; exact Ar.1) (State.isArrayOf_alike hZ.alike Ar.2.1) hg hs hd target (by rw [S, hz]; exact kt)
theorem owSetI {ty : FieldType} {f : Nat → Int32} {cl : Cell} {x : Int32} (Ar : Arr Z h a cl ty) (S : cl.slots.size = n) (H : ∀ i, i < n → cl.slots[i]? = some (.int (f i))) (hk : k < n) (W : Wr h h' a k (.int x)) : owAI Z h' a ty n (owUp f k x) :=
  ⟨cl.setSlot k (.int x), Ar.same W, by rw [sz_set]; exact S, fun i hi => by
    rw [owSlot (by omega)]
    by_cases q : i = k
    · rw [if_pos q, q, owUp_at]
    · rw [if_neg q, owUp_ne q]; exact H i hi⟩
theorem owSetJ {ty : FieldType} {f : Nat → Int64} {cl : Cell} {x : Int64} (Ar : Arr Z h a cl ty) (S : cl.slots.size = n) (H : ∀ i, i < n → cl.slots[i]? = some (.long (f i))) (hk : k < n) (W : Wr h h' a k (.long x)) : owAJ Z h' a ty n (owUp f k x) :=
  ⟨cl.setSlot k (.long x), Ar.same W, by rw [sz_set]; exact S, fun i hi => by
    rw [owSlot (by omega)]
    by_cases q : i = k
    · rw [if_pos q, q, owUp_at]
    · rw [if_neg q, owUp_ne q]; exact H i hi⟩
theorem owStB (X : Stand p l e R s m args below meth c T locs cells slots) (hx : p.tables.exec = Jvm.exec) (hZ : Z.Warmed39 s.vm) (eT : T.heap = h) {f : Nat → Int32} (A : owAI Z h a .byte n f) {j x : Int32} (hj : j.toInt = (k : Int)) (hk : k < n) {g : JFrame} (hg : g.method = m) {rest : List Value} (hs : g.stack = .int x :: .int j :: .ref a :: rest) (hd : decode c.code g.pc = .ok (.bastore, 1)) :
    ∃ T' h', Stand p l e R s m args below meth c T' (locs ++ [⟨a, k⟩]) cells slots ∧ T'.heap = h' ∧ Wr h h' a k (.int x.toInt8.toInt32) ∧ owAI Z h' a .byte n (owUp f k x.toInt8.toInt32) ∧ ∀ target, Steps p.tables e below (T'.setTop { g with pc := g.pc + 1, stack := rest }) target → Steps p.tables e below (T.setTop g) target := by
  obtain ⟨cl, Ar, S, H⟩ := A
  have st := stB X hx hZ eT Ar (j := j) (owIn hj hk S) hg hs hd
  rw [owIdx hj] at st
  obtain ⟨T', h', X', e', W, st⟩ := st
  exact ⟨T', h', X', e', W, owSetI Ar S H hk W, st⟩
theorem owStC (X : Stand p l e R s m args below meth c T locs cells slots) (hx : p.tables.exec = Jvm.exec) (hZ : Z.Warmed39 s.vm) (eT : T.heap = h) {f : Nat → Int32} (A : owAI Z h a .char n f) {j x : Int32} (hj : j.toInt = (k : Int)) (hk : k < n) {g : JFrame} (hg : g.method = m) {rest : List Value} (hs : g.stack = .int x :: .int j :: .ref a :: rest) (hd : decode c.code g.pc = .ok (.castore, 1)) :
    ∃ T' h', Stand p l e R s m args below meth c T' (locs ++ [⟨a, k⟩]) cells slots ∧ T'.heap = h' ∧ Wr h h' a k (.int x.toUInt32.toUInt16.toUInt32.toInt32) ∧ owAI Z h' a .char n (owUp f k x.toUInt32.toUInt16.toUInt32.toInt32) ∧ ∀ target, Steps p.tables e below (T'.setTop { g with pc := g.pc + 1, stack := rest }) target → Steps p.tables e below (T.setTop g) target := by
  obtain ⟨cl, Ar, S, H⟩ := A
  have st := stC X hx hZ eT Ar (j := j) (owIn hj hk S) hg hs hd
  rw [owIdx hj] at st
  obtain ⟨T', h', X', e', W, st⟩ := st
  exact ⟨T', h', X', e', W, owSetI Ar S H hk W, st⟩
theorem owStI (X : Stand p l e R s m args below meth c T locs cells slots) (hx : p.tables.exec = Jvm.exec) (hZ : Z.Warmed39 s.vm) (eT : T.heap = h) {f : Nat → Int32} (A : owAI Z h a .int n f) {j x : Int32} (hj : j.toInt = (k : Int)) (hk : k < n) {g : JFrame} (hg : g.method = m) {rest : List Value} (hs : g.stack = .int x :: .int j :: .ref a :: rest) (hd : decode c.code g.pc = .ok (.iastore, 1)) :
    ∃ T' h', Stand p l e R s m args below meth c T' (locs ++ [⟨a, k⟩]) cells slots ∧ T'.heap = h' ∧ Wr h h' a k (.int x) ∧ owAI Z h' a .int n (owUp f k x) ∧ ∀ target, Steps p.tables e below (T'.setTop { g with pc := g.pc + 1, stack := rest }) target → Steps p.tables e below (T.setTop g) target := by
  obtain ⟨cl, Ar, S, H⟩ := A
  have st := stI X hx hZ eT Ar (j := j) (owIn hj hk S) hg hs hd
  rw [owIdx hj] at st
  obtain ⟨T', h', X', e', W, st⟩ := st
  exact ⟨T', h', X', e', W, owSetI Ar S H hk W, st⟩
theorem owStJ (X : Stand p l e R s m args below meth c T locs cells slots) (hx : p.tables.exec = Jvm.exec) (hZ : Z.Warmed39 s.vm) (eT : T.heap = h) {f : Nat → Int64} (A : owAJ Z h a .long n f) {j : Int32} {x : Int64} (hj : j.toInt = (k : Int)) (hk : k < n) {g : JFrame} (hg : g.method = m) {rest : List Value} (hs : g.stack = .long x :: .int j :: .ref a :: rest) (hd : decode c.code g.pc = .ok (.lastore, 1)) :
    ∃ T' h', Stand p l e R s m args below meth c T' (locs ++ [⟨a, k⟩]) cells slots ∧ T'.heap = h' ∧ Wr h h' a k (.long x) ∧ owAJ Z h' a .long n (owUp f k x) ∧ ∀ target, Steps p.tables e below (T'.setTop { g with pc := g.pc + 1, stack := rest }) target → Steps p.tables e below (T.setTop g) target := by
  obtain ⟨cl, Ar, S, H⟩ := A
  have st := stJ X hx hZ eT Ar (j := j) (owIn hj hk S) hg hs hd
  rw [owIdx hj] at st
  obtain ⟨T', h', X', e', W, st⟩ := st
  exact ⟨T', h', X', e', W, owSetJ Ar S H hk W, st⟩
theorem owSel {s : State} {args : Array Value} {y : MethodName} {n : Nat} (hi : (Cond.instantiable y.cls n).before args s = true) (hpriv : s.PrivateAt y) (hinst : (Cond.instanceMethod y).before args s = true) (hy : y.cls ≠ "java/lang/invoke/MethodHandle" ∧ y.cls ≠ "java/lang/invoke/VarHandle") : (Cond.selects y.cls y y).before args s = true := by
  obtain ⟨c, k, h1, h2, -, h4, -⟩ := Cond.instantiable_spec hi
  have h5 : k.isInterface = false := by cases hq : k.isInterface <;> simp_all
  exact selects_self_of_private h1 h2 h5 hpriv hinst hy
theorem owRetI (X : Stand p l e R s m args below meth c T locs cells slots) (hx : p.tables.exec = Jvm.exec) {pc : Nat} {Ls : Array Slot} {z : Int32} (hret : meth.sig.returnType = some .int) (hd : decode c.code pc = .ok (.ireturn, 1)) {fs : List Frame}
    (hl : ∀ (f : JFrame) (acts : List Action), f.method = m → f.locked = none → f.entered = [] → (doReturn e (T.setTop f) acts (some (.int z))).1 = T.setFrames fs) : Steps p.tables e below (T.setTop (mkF m pc Ls [.int z])) (T.setFrames fs) :=
  X.ireturnOut hx hret rfl (Or.inl rfl) hd hl
end Own

theorem d1_0 : decode prog_39_method_13_code 0 = .ok (.iload_n 0, 1) := by decide +kernel
theorem d1_1 : decode prog_39_method_13_code 1 = .ok (.iload_n 1, 1) := by decide +kernel
theorem d1_2 : decode prog_39_method_13_code 2 = .ok (.bipush 6, 2) := by decide +kernel
theorem d1_4 : decode prog_39_method_13_code 4 = .ok (.iushr, 1) := by decide +kernel
theorem d1_5 : decode prog_39_method_13_code 5 = .ok (.if_icmp .ne 11, 3) := by decide +kernel
theorem d1_8 : decode prog_39_method_13_code 8 = .ok (.ldc2_w 57, 3) := by decide +kernel
theorem d1_11 : decode prog_39_method_13_code 11 = .ok (.iload_n 1, 1) := by decide +kernel
theorem d1_12 : decode prog_39_method_13_code 12 = .ok (.lshl, 1) := by decide +kernel
theorem d1_13 : decode prog_39_method_13_code 13 = .ok (.goto 6, 3) := by decide +kernel
theorem d1_16 : decode prog_39_method_13_code 16 = .ok (.ldc2_w 57, 3) := by decide +kernel
theorem d1_19 : decode prog_39_method_13_code 19 = .ok (.lstore_n 3, 1) := by decide +kernel
theorem d1_20 : decode prog_39_method_13_code 20 = .ok (.iload_n 0, 1) := by decide +kernel
theorem d1_21 : decode prog_39_method_13_code 21 = .ok (.iload_n 2, 1) := by decide +kernel
theorem d1_22 : decode prog_39_method_13_code 22 = .ok (.iconst 1, 1) := by decide +kernel
theorem d1_23 : decode prog_39_method_13_code 23 = .ok (.isub, 1) := by decide +kernel
theorem d1_24 : decode prog_39_method_13_code 24 = .ok (.bipush 6, 2) := by decide +kernel
theorem d1_26 : decode prog_39_method_13_code 26 = .ok (.iushr, 1) := by decide +kernel
theorem d1_27 : decode prog_39_method_13_code 27 = .ok (.if_icmp .ne 14, 3) := by decide +kernel
theorem d1_30 : decode prog_39_method_13_code 30 = .ok (.lload_n 3, 1) := by decide +kernel
theorem d1_31 : decode prog_39_method_13_code 31 = .ok (.ldc2_w 57, 3) := by decide +kernel
theorem d1_34 : decode prog_39_method_13_code 34 = .ok (.iload_n 2, 1) := by decide +kernel
theorem d1_35 : decode prog_39_method_13_code 35 = .ok (.ineg, 1) := by decide +kernel
theorem d1_36 : decode prog_39_method_13_code 36 = .ok (.lushr, 1) := by decide +kernel
theorem d1_37 : decode prog_39_method_13_code 37 = .ok (.land, 1) := by decide +kernel
theorem d1_38 : decode prog_39_method_13_code 38 = .ok (.goto 4, 3) := by decide +kernel
theorem d1_41 : decode prog_39_method_13_code 41 = .ok (.lload_n 3, 1) := by decide +kernel
theorem d1_42 : decode prog_39_method_13_code 42 = .ok (.lreturn, 1) := by decide +kernel
theorem pn_1 : plainName "com/example/bitweight/bitweight/chunk/WordChunk" = true := by first | (simp [plainName, overriddenIn]; done) | decide +kernel
theorem ef_1 (m : MethodId) (x0 : Int32) (x1 : Int32) (x2 : Int32) : entryFrame m #[(.int x0), (.int x1), (.int x2)] 5 = mkF m 0 #[.val (.int x0), .val (.int x1), .val (.int x2), .unset, .unset] [] := by first | (simp [entryFrame, mkF, argsToLocals, Value.category]; done) | rfl
def fn1 (p1 : Int32) (p2 : Int32) (p3 : Int32) : Int64 := (if p1 = ((p2.toUInt32 >>> ((6 : Int32) &&& 31).toUInt32).toInt32) then (if p1 = (((p3 - (1 : Int32)).toUInt32 >>> ((6 : Int32) &&& 31).toUInt32).toInt32) then (((-1 : Int64) <<< (p2 &&& 0x3f).toInt64) &&& (((-1 : Int64).toUInt64 >>> ((-p3) &&& 0x3f).toInt64.toUInt64).toInt64)) else ((-1 : Int64) <<< (p2 &&& 0x3f).toInt64)) else (if p1 = (((p3 - (1 : Int32)).toUInt32 >>> ((6 : Int32) &&& 31).toUInt32).toInt32) then ((-1 : Int64) &&& (((-1 : Int64).toUInt64 >>> ((-p3) &&& 0x3f).toInt64.toUInt64).toInt64)) else (-1 : Int64)))
def Q1 (Z : State) (p1 : Int32) (p2 : Int32) (p3 : Int32) (h0 : Heap) (n0 : Nat) (v : Option Value) (h : Heap) (L : List Loc) : Prop := v = some (.long (fn1 p1 p2 p3)) ∧ Fr n0 L ∧ h = h0
set_option maxRecDepth 65536 in
set_option maxHeartbeats 40000000 in
theorem rm1 (l : Launch) (Z : State) (a0 : Array Value) (hw : ∀ d ∈ tables_1, d.before a0 Z = true) (ws : List Jvm.Cond) (p1 : Int32) (p2 : Int32) (p3 : Int32) (h0 : Heap) (n0 : Nat) (Z0 : n0 ≤ h0.size) :
    MetFree l (⟨"com/example/bitweight/bitweight/chunk/WordChunk", "bitsInRange", "(III)J"⟩ : MethodName) (head1 (Jvm.Cond.code (⟨"com/example/bitweight/bitweight/chunk/WordChunk", "bitsInRange", "(III)J"⟩ : MethodName) prog_39_method_13_code 5 (some .long) :: ws) ({ frames := 0, cells := 0, slots := 0, locals := 0 } : Room)) (fun a U => a = #[(.int p1), (.int p2), (.int p3)] ∧ Z.Warmed39 U.vm ∧ U.heap = h0) (fun _ _ _ _ _ => True) (fun _ U o U' => ∃ v L, o = .returned v ∧ Q1 Z p1 p2 p3 h0 n0 v U'.heap L ∧ FrameEnd U o U' L ({ frames := 0, cells := 0, slots := 0, locals := 0 } : Room).cells ({ frames := 0, cells := 0, slots := 0, locals := 0 } : Room).slots) := by
  refine MetFree.of_bodySF (plainFor_of_name pn_1) hisR ?_
  intro p e s m args below meth c s₁ Bd hml0 hP hK
  obtain ⟨rfl, hZ, hh⟩ := hP
  have hx := Bd.exec
  have hby := Bd.bytes
  have hml : c.maxLocals = 5 := hml0
  have hown : s.vm.findClass "com/example/bitweight/bitweight/chunk/WordChunk" = some m.cls := findClass_of_methodNamed Bd.named
  have hnm := (name_of_methodNamed Bd.named Bd.method).1
  have X0 : Stand p l e ({ frames := 0, cells := 0, slots := 0, locals := 0 } : Room) s m #[(.int p1), (.int p2), (.int p3)] below meth c s₁ [] 0 0 := Stand.of_body Bd
  have e0 : s₁.heap = h0 := by rw [← hh, Bd.state]; rfl
  have N0 := Fr.nil n0
  have pre0 : ∀ t, Steps p.tables e below (s₁.setTop (mkF m 0 #[.val (.int p1), .val (.int p2), .val (.int p3), .unset, .unset] [])) t → Steps p.tables e below (s₁.setTop (entryFrame m #[(.int p1), (.int p2), (.int p3)] 5)) t := fun t k => castTop (ef_1 m p1 p2 p3) k
  have pre1 : ∀ t, Steps p.tables e below (s₁.setTop (mkF m 5 #[.val (.int p1), .val (.int p2), .val (.int p3), .unset, .unset] [(.int ((p2.toUInt32 >>> ((6 : Int32) &&& 31).toUInt32).toInt32)), (.int p1)])) t → Steps p.tables e below (s₁.setTop (entryFrame m #[(.int p1), (.int p2), (.int p3)] 5)) t := by
    intro t kt
    refine pre0 _ ?_
    show Steps p.tables e below (s₁.setTop (mkF m 0 #[.val (.int p1), .val (.int p2), .val (.int p3), .unset, .unset] [])) _
    refine XS.iloadN X0.here hx rfl (hb hby d1_0) rfl ?_
    show Steps p.tables e below (s₁.setTop (mkF m 1 #[.val (.int p1), .val (.int p2), .val (.int p3), .unset, .unset] [(.int p1)])) _
    refine XS.iloadN X0.here hx rfl (hb hby d1_1) rfl ?_
    show Steps p.tables e below (s₁.setTop (mkF m 2 #[.val (.int p1), .val (.int p2), .val (.int p3), .unset, .unset] [(.int p2), (.int p1)])) _
    refine XS.bipush X0.here hx rfl (hb hby d1_2) ?_
    show Steps p.tables e below (s₁.setTop (mkF m 4 #[.val (.int p1), .val (.int p2), .val (.int p3), .unset, .unset] [(.int (6 : Int32)), (.int p2), (.int p1)])) _
    refine XS.iushr X0.here hx rfl (hb hby d1_4) rfl ?_
    exact kt
  by_cases hc5_2 : p1 = ((p2.toUInt32 >>> ((6 : Int32) &&& 31).toUInt32).toInt32)
  · skip
    have pre3 : ∀ t, Steps p.tables e below (s₁.setTop (mkF m 27 #[.val (.int p1), .val (.int p2), .val (.int p3), .val (.long ((-1 : Int64) <<< (p2 &&& 0x3f).toInt64)), .second] [(.int (((p3 - (1 : Int32)).toUInt32 >>> ((6 : Int32) &&& 31).toUInt32).toInt32)), (.int p1)])) t → Steps p.tables e below (s₁.setTop (entryFrame m #[(.int p1), (.int p2), (.int p3)] 5)) t := by
      intro t kt
      refine pre1 _ ?_
      show Steps p.tables e below (s₁.setTop (mkF m 5 #[.val (.int p1), .val (.int p2), .val (.int p3), .unset, .unset] [(.int ((p2.toUInt32 >>> ((6 : Int32) &&& 31).toUInt32).toInt32)), (.int p1)])) _
      refine XS.icmpNo X0.here hx rfl (hb hby d1_5) rfl (XT.ii_ne_f hc5_2) ?_
      show Steps p.tables e below (s₁.setTop (mkF m 8 #[.val (.int p1), .val (.int p2), .val (.int p3), .unset, .unset] [])) _
      refine Stand.ldc2J (g := (mkF m 8 #[.val (.int p1), .val (.int p2), .val (.int p3), .unset, .unset] [])) X0 hx hown (mvT hZ (hw _ (List.mem_of_getElem? (i := 7) rfl))) rfl (hb hby d1_8) ?_
      show Steps p.tables e below (s₁.setTop (mkF m 11 #[.val (.int p1), .val (.int p2), .val (.int p3), .unset, .unset] [(.long (-1 : Int64))])) _
      refine XS.iloadN X0.here hx rfl (hb hby d1_11) rfl ?_
      show Steps p.tables e below (s₁.setTop (mkF m 12 #[.val (.int p1), .val (.int p2), .val (.int p3), .unset, .unset] [(.int p2), (.long (-1 : Int64))])) _
      refine XS.lshl X0.here hx rfl (hb hby d1_12) rfl ?_
      show Steps p.tables e below (s₁.setTop (mkF m 13 #[.val (.int p1), .val (.int p2), .val (.int p3), .unset, .unset] [(.long ((-1 : Int64) <<< (p2 &&& 0x3f).toInt64))])) _
      refine XS.goto X0.here hx rfl (pc0 := 13) (pc' := 19) rfl (hb hby d1_13) (by decide) (by decide) ?_
      show Steps p.tables e below (s₁.setTop (mkF m 19 #[.val (.int p1), .val (.int p2), .val (.int p3), .unset, .unset] [(.long ((-1 : Int64) <<< (p2 &&& 0x3f).toInt64))])) _
      refine XS.lstoreN X0.here hx rfl (hb hby d1_19) rfl (l' := #[.val (.int p1), .val (.int p2), .val (.int p3), .val (.long ((-1 : Int64) <<< (p2 &&& 0x3f).toInt64)), .second]) rfl ?_
      show Steps p.tables e below (s₁.setTop (mkF m 20 #[.val (.int p1), .val (.int p2), .val (.int p3), .val (.long ((-1 : Int64) <<< (p2 &&& 0x3f).toInt64)), .second] [])) _
      refine XS.iloadN X0.here hx rfl (hb hby d1_20) rfl ?_
      show Steps p.tables e below (s₁.setTop (mkF m 21 #[.val (.int p1), .val (.int p2), .val (.int p3), .val (.long ((-1 : Int64) <<< (p2 &&& 0x3f).toInt64)), .second] [(.int p1)])) _
      refine XS.iloadN X0.here hx rfl (hb hby d1_21) rfl ?_
      show Steps p.tables e below (s₁.setTop (mkF m 22 #[.val (.int p1), .val (.int p2), .val (.int p3), .val (.long ((-1 : Int64) <<< (p2 &&& 0x3f).toInt64)), .second] [(.int p3), (.int p1)])) _
      refine XS.iconst X0.here hx rfl (hb hby d1_22) ?_
      show Steps p.tables e below (s₁.setTop (mkF m 23 #[.val (.int p1), .val (.int p2), .val (.int p3), .val (.long ((-1 : Int64) <<< (p2 &&& 0x3f).toInt64)), .second] [(.int (1 : Int32)), (.int p3), (.int p1)])) _
      refine XS.isub X0.here hx rfl (hb hby d1_23) rfl ?_
      show Steps p.tables e below (s₁.setTop (mkF m 24 #[.val (.int p1), .val (.int p2), .val (.int p3), .val (.long ((-1 : Int64) <<< (p2 &&& 0x3f).toInt64)), .second] [(.int (p3 - (1 : Int32))), (.int p1)])) _
      refine XS.bipush X0.here hx rfl (hb hby d1_24) ?_
      show Steps p.tables e below (s₁.setTop (mkF m 26 #[.val (.int p1), .val (.int p2), .val (.int p3), .val (.long ((-1 : Int64) <<< (p2 &&& 0x3f).toInt64)), .second] [(.int (6 : Int32)), (.int (p3 - (1 : Int32))), (.int p1)])) _
      refine XS.iushr X0.here hx rfl (hb hby d1_26) rfl ?_
      exact kt
    by_cases hc27_4 : p1 = (((p3 - (1 : Int32)).toUInt32 >>> ((6 : Int32) &&& 31).toUInt32).toInt32)
    · skip
      have pre5 : ∀ t, Steps p.tables e below (s₁.setTop (mkF m 42 #[.val (.int p1), .val (.int p2), .val (.int p3), .val (.long ((-1 : Int64) <<< (p2 &&& 0x3f).toInt64)), .second] [(.long (((-1 : Int64) <<< (p2 &&& 0x3f).toInt64) &&& (((-1 : Int64).toUInt64 >>> ((-p3) &&& 0x3f).toInt64.toUInt64).toInt64)))])) t → Steps p.tables e below (s₁.setTop (entryFrame m #[(.int p1), (.int p2), (.int p3)] 5)) t := by
        intro t kt
        refine pre3 _ ?_
        show Steps p.tables e below (s₁.setTop (mkF m 27 #[.val (.int p1), .val (.int p2), .val (.int p3), .val (.long ((-1 : Int64) <<< (p2 &&& 0x3f).toInt64)), .second] [(.int (((p3 - (1 : Int32)).toUInt32 >>> ((6 : Int32) &&& 31).toUInt32).toInt32)), (.int p1)])) _
        refine XS.icmpNo X0.here hx rfl (hb hby d1_27) rfl (XT.ii_ne_f hc27_4) ?_
        show Steps p.tables e below (s₁.setTop (mkF m 30 #[.val (.int p1), .val (.int p2), .val (.int p3), .val (.long ((-1 : Int64) <<< (p2 &&& 0x3f).toInt64)), .second] [])) _
        refine XS.lloadN X0.here hx rfl (hb hby d1_30) rfl ?_
        show Steps p.tables e below (s₁.setTop (mkF m 31 #[.val (.int p1), .val (.int p2), .val (.int p3), .val (.long ((-1 : Int64) <<< (p2 &&& 0x3f).toInt64)), .second] [(.long ((-1 : Int64) <<< (p2 &&& 0x3f).toInt64))])) _
        refine Stand.ldc2J (g := (mkF m 31 #[.val (.int p1), .val (.int p2), .val (.int p3), .val (.long ((-1 : Int64) <<< (p2 &&& 0x3f).toInt64)), .second] [(.long ((-1 : Int64) <<< (p2 &&& 0x3f).toInt64))])) X0 hx hown (mvT hZ (hw _ (List.mem_of_getElem? (i := 7) rfl))) rfl (hb hby d1_31) ?_
        show Steps p.tables e below (s₁.setTop (mkF m 34 #[.val (.int p1), .val (.int p2), .val (.int p3), .val (.long ((-1 : Int64) <<< (p2 &&& 0x3f).toInt64)), .second] [(.long (-1 : Int64)), (.long ((-1 : Int64) <<< (p2 &&& 0x3f).toInt64))])) _
        refine XS.iloadN X0.here hx rfl (hb hby d1_34) rfl ?_
        show Steps p.tables e below (s₁.setTop (mkF m 35 #[.val (.int p1), .val (.int p2), .val (.int p3), .val (.long ((-1 : Int64) <<< (p2 &&& 0x3f).toInt64)), .second] [(.int p3), (.long (-1 : Int64)), (.long ((-1 : Int64) <<< (p2 &&& 0x3f).toInt64))])) _
        refine XS.ineg X0.here hx rfl (hb hby d1_35) rfl ?_
        show Steps p.tables e below (s₁.setTop (mkF m 36 #[.val (.int p1), .val (.int p2), .val (.int p3), .val (.long ((-1 : Int64) <<< (p2 &&& 0x3f).toInt64)), .second] [(.int (-p3)), (.long (-1 : Int64)), (.long ((-1 : Int64) <<< (p2 &&& 0x3f).toInt64))])) _
        refine XS.lushr X0.here hx rfl (hb hby d1_36) rfl ?_
        show Steps p.tables e below (s₁.setTop (mkF m 37 #[.val (.int p1), .val (.int p2), .val (.int p3), .val (.long ((-1 : Int64) <<< (p2 &&& 0x3f).toInt64)), .second] [(.long (((-1 : Int64).toUInt64 >>> ((-p3) &&& 0x3f).toInt64.toUInt64).toInt64)), (.long ((-1 : Int64) <<< (p2 &&& 0x3f).toInt64))])) _
        refine XS.land X0.here hx rfl (hb hby d1_37) rfl ?_
        show Steps p.tables e below (s₁.setTop (mkF m 38 #[.val (.int p1), .val (.int p2), .val (.int p3), .val (.long ((-1 : Int64) <<< (p2 &&& 0x3f).toInt64)), .second] [(.long (((-1 : Int64) <<< (p2 &&& 0x3f).toInt64) &&& (((-1 : Int64).toUInt64 >>> ((-p3) &&& 0x3f).toInt64.toUInt64).toInt64)))])) _
        refine XS.goto X0.here hx rfl (pc0 := 38) (pc' := 42) rfl (hb hby d1_38) (by decide) (by decide) ?_
        exact kt
      obtain ⟨fs, hr, hrun, hended, hW, hsame⟩ := X0.leave (v := some (.long (((-1 : Int64) <<< (p2 &&& 0x3f).toInt64) &&& (((-1 : Int64).toUInt64 >>> ((-p3) &&& 0x3f).toInt64.toUInt64).toInt64)))) (fun h => by rw [Bd.returns] at h; cases h)
      refine ⟨_, _, pre5 _ ?_, hrun, hended, _, _, rfl, ?_, ⟨_, rfl⟩, hW, hsame.mono (by decide) (by decide)⟩
      · show Steps p.tables e below (s₁.setTop (mkF m 42 #[.val (.int p1), .val (.int p2), .val (.int p3), .val (.long ((-1 : Int64) <<< (p2 &&& 0x3f).toInt64)), .second] [(.long (((-1 : Int64) <<< (p2 &&& 0x3f).toInt64) &&& (((-1 : Int64).toUInt64 >>> ((-p3) &&& 0x3f).toInt64.toUInt64).toInt64)))])) _
        exact X0.lreturnOut hx Bd.returns (hb hby d1_42) hr
      · show Q1 Z p1 p2 p3 h0 n0 _ s₁.heap _
        rw [e0]
        exact ⟨by unfold fn1; rw [if_pos hc5_2, if_pos hc27_4], N0, rfl⟩
    · skip
      have pre6 : ∀ t, Steps p.tables e below (s₁.setTop (mkF m 42 #[.val (.int p1), .val (.int p2), .val (.int p3), .val (.long ((-1 : Int64) <<< (p2 &&& 0x3f).toInt64)), .second] [(.long ((-1 : Int64) <<< (p2 &&& 0x3f).toInt64))])) t → Steps p.tables e below (s₁.setTop (entryFrame m #[(.int p1), (.int p2), (.int p3)] 5)) t := by
        intro t kt
        refine pre3 _ ?_
        show Steps p.tables e below (s₁.setTop (mkF m 27 #[.val (.int p1), .val (.int p2), .val (.int p3), .val (.long ((-1 : Int64) <<< (p2 &&& 0x3f).toInt64)), .second] [(.int (((p3 - (1 : Int32)).toUInt32 >>> ((6 : Int32) &&& 31).toUInt32).toInt32)), (.int p1)])) _
        refine XS.icmpYes X0.here hx rfl (pc0 := 27) (pc' := 41) rfl (hb hby d1_27) rfl (XT.ii_ne_t hc27_4) (by decide) (by decide) ?_
        show Steps p.tables e below (s₁.setTop (mkF m 41 #[.val (.int p1), .val (.int p2), .val (.int p3), .val (.long ((-1 : Int64) <<< (p2 &&& 0x3f).toInt64)), .second] [])) _
        refine XS.lloadN X0.here hx rfl (hb hby d1_41) rfl ?_
        exact kt
      obtain ⟨fs, hr, hrun, hended, hW, hsame⟩ := X0.leave (v := some (.long ((-1 : Int64) <<< (p2 &&& 0x3f).toInt64))) (fun h => by rw [Bd.returns] at h; cases h)
      refine ⟨_, _, pre6 _ ?_, hrun, hended, _, _, rfl, ?_, ⟨_, rfl⟩, hW, hsame.mono (by decide) (by decide)⟩
      · show Steps p.tables e below (s₁.setTop (mkF m 42 #[.val (.int p1), .val (.int p2), .val (.int p3), .val (.long ((-1 : Int64) <<< (p2 &&& 0x3f).toInt64)), .second] [(.long ((-1 : Int64) <<< (p2 &&& 0x3f).toInt64))])) _
        exact X0.lreturnOut hx Bd.returns (hb hby d1_42) hr
      · show Q1 Z p1 p2 p3 h0 n0 _ s₁.heap _
        rw [e0]
        exact ⟨by unfold fn1; rw [if_pos hc5_2, if_neg hc27_4], N0, rfl⟩
  · skip
    have pre7 : ∀ t, Steps p.tables e below (s₁.setTop (mkF m 27 #[.val (.int p1), .val (.int p2), .val (.int p3), .val (.long (-1 : Int64)), .second] [(.int (((p3 - (1 : Int32)).toUInt32 >>> ((6 : Int32) &&& 31).toUInt32).toInt32)), (.int p1)])) t → Steps p.tables e below (s₁.setTop (entryFrame m #[(.int p1), (.int p2), (.int p3)] 5)) t := by
      intro t kt
      refine pre1 _ ?_
      show Steps p.tables e below (s₁.setTop (mkF m 5 #[.val (.int p1), .val (.int p2), .val (.int p3), .unset, .unset] [(.int ((p2.toUInt32 >>> ((6 : Int32) &&& 31).toUInt32).toInt32)), (.int p1)])) _
      refine XS.icmpYes X0.here hx rfl (pc0 := 5) (pc' := 16) rfl (hb hby d1_5) rfl (XT.ii_ne_t hc5_2) (by decide) (by decide) ?_
      show Steps p.tables e below (s₁.setTop (mkF m 16 #[.val (.int p1), .val (.int p2), .val (.int p3), .unset, .unset] [])) _
      refine Stand.ldc2J (g := (mkF m 16 #[.val (.int p1), .val (.int p2), .val (.int p3), .unset, .unset] [])) X0 hx hown (mvT hZ (hw _ (List.mem_of_getElem? (i := 7) rfl))) rfl (hb hby d1_16) ?_
      show Steps p.tables e below (s₁.setTop (mkF m 19 #[.val (.int p1), .val (.int p2), .val (.int p3), .unset, .unset] [(.long (-1 : Int64))])) _
      refine XS.lstoreN X0.here hx rfl (hb hby d1_19) rfl (l' := #[.val (.int p1), .val (.int p2), .val (.int p3), .val (.long (-1 : Int64)), .second]) rfl ?_
      show Steps p.tables e below (s₁.setTop (mkF m 20 #[.val (.int p1), .val (.int p2), .val (.int p3), .val (.long (-1 : Int64)), .second] [])) _
      refine XS.iloadN X0.here hx rfl (hb hby d1_20) rfl ?_
      show Steps p.tables e below (s₁.setTop (mkF m 21 #[.val (.int p1), .val (.int p2), .val (.int p3), .val (.long (-1 : Int64)), .second] [(.int p1)])) _
      refine XS.iloadN X0.here hx rfl (hb hby d1_21) rfl ?_
      show Steps p.tables e below (s₁.setTop (mkF m 22 #[.val (.int p1), .val (.int p2), .val (.int p3), .val (.long (-1 : Int64)), .second] [(.int p3), (.int p1)])) _
      refine XS.iconst X0.here hx rfl (hb hby d1_22) ?_
      show Steps p.tables e below (s₁.setTop (mkF m 23 #[.val (.int p1), .val (.int p2), .val (.int p3), .val (.long (-1 : Int64)), .second] [(.int (1 : Int32)), (.int p3), (.int p1)])) _
      refine XS.isub X0.here hx rfl (hb hby d1_23) rfl ?_
      show Steps p.tables e below (s₁.setTop (mkF m 24 #[.val (.int p1), .val (.int p2), .val (.int p3), .val (.long (-1 : Int64)), .second] [(.int (p3 - (1 : Int32))), (.int p1)])) _
      refine XS.bipush X0.here hx rfl (hb hby d1_24) ?_
      show Steps p.tables e below (s₁.setTop (mkF m 26 #[.val (.int p1), .val (.int p2), .val (.int p3), .val (.long (-1 : Int64)), .second] [(.int (6 : Int32)), (.int (p3 - (1 : Int32))), (.int p1)])) _
      refine XS.iushr X0.here hx rfl (hb hby d1_26) rfl ?_
      exact kt
    by_cases hc27_8 : p1 = (((p3 - (1 : Int32)).toUInt32 >>> ((6 : Int32) &&& 31).toUInt32).toInt32)
    · skip
      have pre9 : ∀ t, Steps p.tables e below (s₁.setTop (mkF m 42 #[.val (.int p1), .val (.int p2), .val (.int p3), .val (.long (-1 : Int64)), .second] [(.long ((-1 : Int64) &&& (((-1 : Int64).toUInt64 >>> ((-p3) &&& 0x3f).toInt64.toUInt64).toInt64)))])) t → Steps p.tables e below (s₁.setTop (entryFrame m #[(.int p1), (.int p2), (.int p3)] 5)) t := by
        intro t kt
        refine pre7 _ ?_
        show Steps p.tables e below (s₁.setTop (mkF m 27 #[.val (.int p1), .val (.int p2), .val (.int p3), .val (.long (-1 : Int64)), .second] [(.int (((p3 - (1 : Int32)).toUInt32 >>> ((6 : Int32) &&& 31).toUInt32).toInt32)), (.int p1)])) _
        refine XS.icmpNo X0.here hx rfl (hb hby d1_27) rfl (XT.ii_ne_f hc27_8) ?_
        show Steps p.tables e below (s₁.setTop (mkF m 30 #[.val (.int p1), .val (.int p2), .val (.int p3), .val (.long (-1 : Int64)), .second] [])) _
        refine XS.lloadN X0.here hx rfl (hb hby d1_30) rfl ?_
        show Steps p.tables e below (s₁.setTop (mkF m 31 #[.val (.int p1), .val (.int p2), .val (.int p3), .val (.long (-1 : Int64)), .second] [(.long (-1 : Int64))])) _
        refine Stand.ldc2J (g := (mkF m 31 #[.val (.int p1), .val (.int p2), .val (.int p3), .val (.long (-1 : Int64)), .second] [(.long (-1 : Int64))])) X0 hx hown (mvT hZ (hw _ (List.mem_of_getElem? (i := 7) rfl))) rfl (hb hby d1_31) ?_
        show Steps p.tables e below (s₁.setTop (mkF m 34 #[.val (.int p1), .val (.int p2), .val (.int p3), .val (.long (-1 : Int64)), .second] [(.long (-1 : Int64)), (.long (-1 : Int64))])) _
        refine XS.iloadN X0.here hx rfl (hb hby d1_34) rfl ?_
        show Steps p.tables e below (s₁.setTop (mkF m 35 #[.val (.int p1), .val (.int p2), .val (.int p3), .val (.long (-1 : Int64)), .second] [(.int p3), (.long (-1 : Int64)), (.long (-1 : Int64))])) _
        refine XS.ineg X0.here hx rfl (hb hby d1_35) rfl ?_
        show Steps p.tables e below (s₁.setTop (mkF m 36 #[.val (.int p1), .val (.int p2), .val (.int p3), .val (.long (-1 : Int64)), .second] [(.int (-p3)), (.long (-1 : Int64)), (.long (-1 : Int64))])) _
        refine XS.lushr X0.here hx rfl (hb hby d1_36) rfl ?_
        show Steps p.tables e below (s₁.setTop (mkF m 37 #[.val (.int p1), .val (.int p2), .val (.int p3), .val (.long (-1 : Int64)), .second] [(.long (((-1 : Int64).toUInt64 >>> ((-p3) &&& 0x3f).toInt64.toUInt64).toInt64)), (.long (-1 : Int64))])) _
        refine XS.land X0.here hx rfl (hb hby d1_37) rfl ?_
        show Steps p.tables e below (s₁.setTop (mkF m 38 #[.val (.int p1), .val (.int p2), .val (.int p3), .val (.long (-1 : Int64)), .second] [(.long ((-1 : Int64) &&& (((-1 : Int64).toUInt64 >>> ((-p3) &&& 0x3f).toInt64.toUInt64).toInt64)))])) _
        refine XS.goto X0.here hx rfl (pc0 := 38) (pc' := 42) rfl (hb hby d1_38) (by decide) (by decide) ?_
        exact kt
      obtain ⟨fs, hr, hrun, hended, hW, hsame⟩ := X0.leave (v := some (.long ((-1 : Int64) &&& (((-1 : Int64).toUInt64 >>> ((-p3) &&& 0x3f).toInt64.toUInt64).toInt64)))) (fun h => by rw [Bd.returns] at h; cases h)
      refine ⟨_, _, pre9 _ ?_, hrun, hended, _, _, rfl, ?_, ⟨_, rfl⟩, hW, hsame.mono (by decide) (by decide)⟩
      · show Steps p.tables e below (s₁.setTop (mkF m 42 #[.val (.int p1), .val (.int p2), .val (.int p3), .val (.long (-1 : Int64)), .second] [(.long ((-1 : Int64) &&& (((-1 : Int64).toUInt64 >>> ((-p3) &&& 0x3f).toInt64.toUInt64).toInt64)))])) _
        exact X0.lreturnOut hx Bd.returns (hb hby d1_42) hr
      · show Q1 Z p1 p2 p3 h0 n0 _ s₁.heap _
        rw [e0]
        exact ⟨by unfold fn1; rw [if_neg hc5_2, if_pos hc27_8], N0, rfl⟩
    · skip
      have pre10 : ∀ t, Steps p.tables e below (s₁.setTop (mkF m 42 #[.val (.int p1), .val (.int p2), .val (.int p3), .val (.long (-1 : Int64)), .second] [(.long (-1 : Int64))])) t → Steps p.tables e below (s₁.setTop (entryFrame m #[(.int p1), (.int p2), (.int p3)] 5)) t := by
        intro t kt
        refine pre7 _ ?_
        show Steps p.tables e below (s₁.setTop (mkF m 27 #[.val (.int p1), .val (.int p2), .val (.int p3), .val (.long (-1 : Int64)), .second] [(.int (((p3 - (1 : Int32)).toUInt32 >>> ((6 : Int32) &&& 31).toUInt32).toInt32)), (.int p1)])) _
        refine XS.icmpYes X0.here hx rfl (pc0 := 27) (pc' := 41) rfl (hb hby d1_27) rfl (XT.ii_ne_t hc27_8) (by decide) (by decide) ?_
        show Steps p.tables e below (s₁.setTop (mkF m 41 #[.val (.int p1), .val (.int p2), .val (.int p3), .val (.long (-1 : Int64)), .second] [])) _
        refine XS.lloadN X0.here hx rfl (hb hby d1_41) rfl ?_
        exact kt
      obtain ⟨fs, hr, hrun, hended, hW, hsame⟩ := X0.leave (v := some (.long (-1 : Int64))) (fun h => by rw [Bd.returns] at h; cases h)
      refine ⟨_, _, pre10 _ ?_, hrun, hended, _, _, rfl, ?_, ⟨_, rfl⟩, hW, hsame.mono (by decide) (by decide)⟩
      · show Steps p.tables e below (s₁.setTop (mkF m 42 #[.val (.int p1), .val (.int p2), .val (.int p3), .val (.long (-1 : Int64)), .second] [(.long (-1 : Int64))])) _
        exact X0.lreturnOut hx Bd.returns (hb hby d1_42) hr
      · show Q1 Z p1 p2 p3 h0 n0 _ s₁.heap _
        rw [e0]
        exact ⟨by unfold fn1; rw [if_neg hc5_2, if_neg hc27_8], N0, rfl⟩
theorem own_nz1 (s0 st : Int32) (h_st : st = (s0 &&& (65535 : Int32))) : ((65536 : Int32) - st) ≠ 0 := by
  have h1 := c_mask s0 65535 16 (by decide) (by decide)
  rw [← h_st] at h1
  have h2 := c_isub 65536 st
  intro h
  rw [h] at h2
  have h5 : (65536 : Int32).toInt = 65536 := rfl
  have h6 : (0 : Int32).toInt = 0 := rfl
  omega
theorem own_rng (s0 e0_ st ln en fw lw : Int32) (h_st : st = (s0 &&& (65535 : Int32))) (h_ln : ln = (((e0_ &&& (2147483647 : Int32)) % ((65536 : Int32) - st)) + (1 : Int32))) (h_en : en = (st + ln)) (h_fw : fw = ((st.toUInt32 >>> ((6 : Int32) &&& 31).toUInt32).toInt32)) (h_lw : lw = (((en - (1 : Int32)).toUInt32 >>> ((6 : Int32) &&& 31).toUInt32).toInt32)) : 0 ≤ st.toInt ∧ st.toInt < en.toInt ∧ en.toInt ≤ 65536 ∧ fw.toInt = st.toInt / 64 ∧ lw.toInt = (en.toInt - 1) / 64 := by
  have h1 := c_mask s0 65535 16 (by decide) (by decide)
  rw [← h_st] at h1
  have h2 := c_isub 65536 st
  have h3 := c_mask e0_ 2147483647 31 (by decide) (by decide)
  have h4 := (c_iremV (e0_ &&& 2147483647) (65536 - st)).1
  have h5 : (65536 : Int32).toInt = 65536 := rfl
  have h6 : (1 : Int32).toInt = 1 := rfl
  have h7 := c_iadd ((e0_ &&& 2147483647) % (65536 - st)) 1
  rw [← h_ln] at h7
  have h8 := c_iadd st ln
  rw [← h_en] at h8
  have h9 := c_iushr st 6 6 (by decide) (by decide)
  rw [← h_fw] at h9
  have h10 := c_isub en 1
  have h11 := c_iushr (en - 1) 6 6 (by decide) (by decide)
  rw [← h_lw] at h11
  have r1 := rng32 ln
  have r2 := rng32 en
  have r3 := rng32 st
  have r4 := rng32 (65536 - st)
  have r5 := rng32 (en - 1)
  omega
theorem own_nz2 (s0 e0_ st ln en fw lw : Int32) (h_st : st = (s0 &&& (65535 : Int32))) (h_ln : ln = (((e0_ &&& (2147483647 : Int32)) % ((65536 : Int32) - st)) + (1 : Int32))) (h_en : en = (st + ln)) (h_fw : fw = ((st.toUInt32 >>> ((6 : Int32) &&& 31).toUInt32).toInt32)) (h_lw : lw = (((en - (1 : Int32)).toUInt32 >>> ((6 : Int32) &&& 31).toUInt32).toInt32)) : ((lw - fw) + (1 : Int32)) ≠ 0 := by
  have h0 := own_rng s0 e0_ st ln en fw lw h_st h_ln h_en h_fw h_lw
  have h1 := c_isub lw fw
  have h2 := c_iadd (lw - fw) 1
  have h6 : (1 : Int32).toInt = 1 := rfl
  have h7 : (0 : Int32).toInt = 0 := rfl
  have r1 := rng32 (lw - fw)
  intro h
  rw [h] at h2
  omega
theorem own_mod64 (q : Int32) : ((q.toBitVec.toNat % 64 : Nat) : Int) = q.toInt % 64 := by
  have h : q.toInt = q.toBitVec.toInt := rfl
  rw [h, BitVec.toInt_eq_toNat_cond]
  split <;> omega
theorem own_bitq (x : Int64) (b : Int32) (k : Nat) (hb : b.toInt = (k : Int)) (hk : k < 64) : (((x.toUInt64 >>> (b &&& 0x3f).toInt64.toUInt64).toInt64) &&& (1 : Int64)) = (0 : Int64) ↔ x.toBitVec.getLsbD k = false := by
  have h1 : b.toBitVec.toNat % 64 = k := by have := own_mod64 b; omega
  have h3 : x.toBitVec >>> ((b &&& 0x3f).toInt64.toBitVec % 64) = x.toBitVec >>> k := by
    rw [BitVec.ushiftRight_eq', BitVec.toNat_umod, (sm64 b k h1).1, BitVec.toNat_ofNat]; congr 1; show k % 2 ^ 64 % 64 = k; omega
  rw [← Int64.toBitVec_inj]
  show (x.toBitVec >>> ((b &&& 0x3f).toInt64.toBitVec % 64)) &&& 1#64 = 0#64 ↔ _
  rw [h3]
  constructor
  · intro h
    have := congrArg (fun v => BitVec.getLsbD v 0) h
    simpa using this
  · intro h
    apply BitVec.eq_of_getLsbD_eq
    intro i hi
    by_cases e : i = 0
    · subst e; simp [h]
    · simp [e]
theorem own_shl (q : Int32) (b : Nat) (hb : b < 64) : ((-1 : Int64) <<< (q &&& 0x3f).toInt64).toBitVec.getLsbD b = decide (q.toInt % 64 ≤ (b : Int)) := by
  obtain ⟨h2, h3⟩ := sm64 q _ rfl
  have h4 := own_mod64 q
  show ((-1 : Int64).toBitVec <<< ((q &&& 0x3f).toInt64.toBitVec.smod 64)).getLsbD b = _
  rw [BitVec.shiftLeft_eq', h2, smod64 _ h3, show (-1 : Int64).toBitVec = BitVec.allOnes 64 from by decide, BitVec.getLsbD_shiftLeft, BitVec.getLsbD_allOnes]
  generalize q.toBitVec.toNat % 64 = k at *
  rw [← h4]
  by_cases e : k ≤ b
  · have e1 : ¬ b < k := by omega
    have e2 : b - k < 64 := by omega
    simp [hb, e, e1, e2]
  · have e1 : b < k := by omega
    have e2 : ¬ ((k : Int) ≤ (b : Int)) := by omega
    simp [e1, e2]
theorem own_shr (q : Int32) (b : Nat) (hb : b < 64) : (((-1 : Int64).toUInt64 >>> (q &&& 0x3f).toInt64.toUInt64).toInt64).toBitVec.getLsbD b = decide (q.toInt % 64 + (b : Int) < 64) := by
  obtain ⟨h2, h3⟩ := sm64 q _ rfl
  have h4 := own_mod64 q
  have h5 : (-1 : Int64).toBitVec >>> ((q &&& 0x3f).toInt64.toBitVec % 64) = (-1 : Int64).toBitVec >>> (q.toBitVec.toNat % 64) := by
    rw [BitVec.ushiftRight_eq', BitVec.toNat_umod, h2, BitVec.toNat_ofNat]; congr 1
    generalize q.toBitVec.toNat % 64 = k at *
    show k % 2 ^ 64 % 64 = k; omega
  show ((-1 : Int64).toBitVec >>> ((q &&& 0x3f).toInt64.toBitVec % 64)).getLsbD b = _
  rw [h5, show (-1 : Int64).toBitVec = BitVec.allOnes 64 from by decide, BitVec.getLsbD_ushiftRight, BitVec.getLsbD_allOnes]
  generalize q.toBitVec.toNat % 64 = k at *
  rw [← h4]
  by_cases e : k + b < 64
  · have e1 : (k : Int) + (b : Int) < 64 := by omega
    simp [e, e1]
  · have e1 : ¬ ((k : Int) + (b : Int) < 64) := by omega
    simp [e, e1]
theorem own_and (x y : Int64) (b : Nat) : (x &&& y).toBitVec.getLsbD b = (x.toBitVec.getLsbD b && y.toBitVec.getLsbD b) := by
  show (x.toBitVec &&& y.toBitVec).getLsbD b = _
  rw [BitVec.getLsbD_and]
theorem own_m1 (b : Nat) (hb : b < 64) : (-1 : Int64).toBitVec.getLsbD b = true := by
  rw [show (-1 : Int64).toBitVec = BitVec.allOnes 64 from by decide, BitVec.getLsbD_allOnes]; simp [hb]
theorem own_law (s0 e0_ w0 b0 st ln en fw lw pk wd bt : Int32) (bits : Int64) (ac va ex : Int32) (h_st : st = (s0 &&& (65535 : Int32))) (h_ln : ln = (((e0_ &&& (2147483647 : Int32)) % ((65536 : Int32) - st)) + (1 : Int32))) (h_en : en = (st + ln)) (h_fw : fw = ((st.toUInt32 >>> ((6 : Int32) &&& 31).toUInt32).toInt32)) (h_lw : lw = (((en - (1 : Int32)).toUInt32 >>> ((6 : Int32) &&& 31).toUInt32).toInt32)) (h_pk : pk = (w0 &&& (3 : Int32))) (h_wd : wd = (if pk = (0 : Int32) then fw else (if pk = (1 : Int32) then lw else (fw + (((w0.toUInt32 >>> ((2 : Int32) &&& 31).toUInt32).toInt32) % ((lw - fw) + (1 : Int32))))))) (h_bt : bt = (b0 &&& (63 : Int32))) (h_bits : bits = (fn1 wd st en)) (h_ac : ac = (if (((bits.toUInt64 >>> (bt &&& 0x3f).toInt64.toUInt64).toInt64) &&& (1 : Int64)) = (0 : Int64) then (0 : Int32) else (1 : Int32))) (h_va : va = ((wd * (64 : Int32)) + bt)) (h_ex : ex = (if va < st then (0 : Int32) else (if va < en then (1 : Int32) else (0 : Int32)))) : ac = ex := by
  obtain ⟨r1, r2, r3, r4, r5⟩ := own_rng s0 e0_ st ln en fw lw h_st h_ln h_en h_fw h_lw
  have o1 : (1 : Int32).toInt = 1 := rfl
  have o64 : (64 : Int32).toInt = 64 := rfl
  have hwd : fw.toInt ≤ wd.toInt ∧ wd.toInt ≤ lw.toInt := by
    rw [h_wd]
    split
    · omega
    · split
      · omega
      · have a1 := c_isub lw fw
        have a2 := rng32 (lw - fw)
        have a3 := c_iadd (lw - fw) 1
        have a4 := rng32 (lw - fw + 1)
        have a5 := c_iushr w0 2 2 (by decide) (by decide)
        have a6 := (c_iremV ((w0.toUInt32 >>> ((2 : Int32) &&& 31).toUInt32).toInt32) ((lw - fw) + 1)).1
        have a7 := c_iadd fw (((w0.toUInt32 >>> ((2 : Int32) &&& 31).toUInt32).toInt32) % ((lw - fw) + 1))
        have a8 := rng32 (fw + ((w0.toUInt32 >>> ((2 : Int32) &&& 31).toUInt32).toInt32) % ((lw - fw) + 1))
        have a9 := rng32 w0
        omega
  have hbt := c_mask b0 63 6 (by decide) (by decide)
  rw [← h_bt] at hbt
  obtain ⟨k, hk⟩ : ∃ k : Nat, bt.toInt = (k : Int) := ⟨bt.toInt.toNat, by omega⟩
  have hk64 : k < 64 := by omega
  have hva : va.toInt = wd.toInt * 64 + bt.toInt := by
    have a1 := c_imul wd 64
    have a2 := rng32 (wd * 64)
    have a3 := c_iadd (wd * 64) bt
    have a4 := rng32 (wd * 64 + bt)
    rw [← h_va] at a3 a4
    rw [o64] at a1
    omega
  have q1 : (wd = ((st.toUInt32 >>> ((6 : Int32) &&& 31).toUInt32).toInt32)) ↔ wd.toInt = st.toInt / 64 := by rw [← h_fw, ← Int32.toInt_inj, r4]
  have q2 : (wd = (((en - (1 : Int32)).toUInt32 >>> ((6 : Int32) &&& 31).toUInt32).toInt32)) ↔ wd.toInt = (en.toInt - 1) / 64 := by rw [← h_lw, ← Int32.toInt_inj, r5]
  have hne : (-en).toInt % 64 = (- en.toInt) % 64 := by have := c_ineg en; omega
  have hbit : bits.toBitVec.getLsbD k = decide (st.toInt ≤ va.toInt ∧ va.toInt < en.toInt) := by
    rw [h_bits]; unfold fn1
    simp only [q1, q2]
    rw [Bool.eq_iff_iff, decide_eq_true_eq]
    by_cases p1 : wd.toInt = st.toInt / 64 <;> by_cases p2 : wd.toInt = (en.toInt - 1) / 64
    · rw [if_pos p1, if_pos p2, own_and, own_shl _ k hk64, own_shr _ k hk64, hne, Bool.and_eq_true, decide_eq_true_eq, decide_eq_true_eq]; omega
    · rw [if_pos p1, if_neg p2, own_shl _ k hk64, decide_eq_true_eq]; omega
    · rw [if_neg p1, if_pos p2, own_and, own_shr _ k hk64, own_m1 k hk64, hne, Bool.and_eq_true, decide_eq_true_eq]; simp only [true_and]; omega
    · rw [if_neg p1, if_neg p2, own_m1 k hk64]; simp only [true_iff]; omega
  have hq := own_bitq bits bt k hk hk64
  rw [h_ac, h_ex]
  simp only [hq, hbit]
  have v1 : va < st ↔ va.toInt < st.toInt := Int32.lt_iff_toInt_lt
  have v2 : va < en ↔ va.toInt < en.toInt := Int32.lt_iff_toInt_lt
  simp only [v1, v2]
  by_cases p1 : va.toInt < st.toInt <;> by_cases p2 : va.toInt < en.toInt <;> simp [p1, p2] <;> omega

theorem pn_0 : plainName "com/example/bitweight/bitweight/chunk/WordChunkBitsInRangePinLaw" = true := by first | (simp [plainName, overriddenIn]; done) | decide +kernel
theorem ef_0 (m : MethodId) (x0 : Int32) (x1 : Int32) (x2 : Int32) (x3 : Int32) : entryFrame m #[(.int x0), (.int x1), (.int x2), (.int x3)] maxLocals = mkF m 0 #[.val (.int x0), .val (.int x1), .val (.int x2), .val (.int x3), .unset, .unset, .unset, .unset, .unset, .unset, .unset, .unset, .unset, .unset, .unset, .unset, .unset] [] := by first | (simp [entryFrame, mkF, argsToLocals, Value.category, maxLocals]; done) | rfl
theorem pd_0 : parseMethodDescriptor "(III)J" = some ⟨[.int, .int, .int], some .long⟩ := by decide +kernel
def Q0 (Z : State) (s0 : Int32) (e0_ : Int32) (w0 : Int32) (b0 : Int32) (h0 : Heap) (n0 : Nat) (v : Option Value) (h : Heap) (L : List Loc) : Prop := v = some (.int 1) ∧ Fr n0 L
set_option maxRecDepth 65536 in
set_option maxHeartbeats 40000000 in
theorem rm0 (l : Launch) (Z : State) (a0 : Array Value) (hw : ∀ d ∈ tables_1, d.before a0 Z = true) (ws : List Jvm.Cond) (s0 : Int32) (e0_ : Int32) (w0 : Int32) (b0 : Int32) (h0 : Heap) (n0 : Nat) (Z0 : n0 ≤ h0.size) :
    MetFree l x (head1 (Jvm.Cond.code x code maxLocals ret :: ws) room_1) (fun a U => a = #[(.int s0), (.int e0_), (.int w0), (.int b0)] ∧ Z.Warmed39 U.vm ∧ U.heap = h0) (fun _ _ _ _ _ => True) (fun _ U o U' => ∃ v L, o = .returned v ∧ Q0 Z s0 e0_ w0 b0 h0 n0 v U'.heap L ∧ FrameEnd U o U' L room_1.cells room_1.slots) := by
  refine MetFree.of_bodySF (plainFor_of_name pn_0) hisR ?_
  intro p e s m args below meth c s₁ Bd hml0 hP hK
  obtain ⟨rfl, hZ, hh⟩ := hP
  have hx := Bd.exec
  have hby := Bd.bytes
  have hml : c.maxLocals = 17 := hml0
  have hown : s.vm.findClass "com/example/bitweight/bitweight/chunk/WordChunkBitsInRangePinLaw" = some m.cls := findClass_of_methodNamed Bd.named
  have hnm := (name_of_methodNamed Bd.named Bd.method).1
  have X0 : Stand p l e room_1 s m #[(.int s0), (.int e0_), (.int w0), (.int b0)] below meth c s₁ [] 0 0 := Stand.of_body Bd
  have e0 : s₁.heap = h0 := by rw [← hh, Bd.state]; rfl
  have N0 := Fr.nil n0
  have pre0 : ∀ t, Steps p.tables e below (s₁.setTop (mkF m 0 #[.val (.int s0), .val (.int e0_), .val (.int w0), .val (.int b0), .unset, .unset, .unset, .unset, .unset, .unset, .unset, .unset, .unset, .unset, .unset, .unset, .unset] [])) t → Steps p.tables e below (s₁.setTop (entryFrame m #[(.int s0), (.int e0_), (.int w0), (.int b0)] maxLocals)) t := fun t k => castTop (ef_0 m s0 e0_ w0 b0) k
  have pre1 : ∀ t, Steps p.tables e below (s₁.setTop (mkF m 4 #[.val (.int s0), .val (.int e0_), .val (.int w0), .val (.int b0), .unset, .unset, .unset, .unset, .unset, .unset, .unset, .unset, .unset, .unset, .unset, .unset, .unset] [(.int (s0 &&& (65535 : Int32)))])) t → Steps p.tables e below (s₁.setTop (entryFrame m #[(.int s0), (.int e0_), (.int w0), (.int b0)] maxLocals)) t := by
    intro t kt
    refine pre0 _ ?_
    show Steps p.tables e below (s₁.setTop (mkF m 0 #[.val (.int s0), .val (.int e0_), .val (.int w0), .val (.int b0), .unset, .unset, .unset, .unset, .unset, .unset, .unset, .unset, .unset, .unset, .unset, .unset, .unset] [])) _
    refine XS.iloadN X0.here hx rfl (hb hby at_0) rfl ?_
    show Steps p.tables e below (s₁.setTop (mkF m 1 #[.val (.int s0), .val (.int e0_), .val (.int w0), .val (.int b0), .unset, .unset, .unset, .unset, .unset, .unset, .unset, .unset, .unset, .unset, .unset, .unset, .unset] [(.int s0)])) _
    refine Stand.ldcI (g := (mkF m 1 #[.val (.int s0), .val (.int e0_), .val (.int w0), .val (.int b0), .unset, .unset, .unset, .unset, .unset, .unset, .unset, .unset, .unset, .unset, .unset, .unset, .unset] [(.int s0)])) X0 hx hown (mvT hZ (hw _ (List.mem_of_getElem? (i := 0) rfl))) rfl (hb hby at_1) ?_
    show Steps p.tables e below (s₁.setTop (mkF m 3 #[.val (.int s0), .val (.int e0_), .val (.int w0), .val (.int b0), .unset, .unset, .unset, .unset, .unset, .unset, .unset, .unset, .unset, .unset, .unset, .unset, .unset] [(.int (65535 : Int32)), (.int s0)])) _
    refine XS.iand X0.here hx rfl (hb hby at_3) rfl ?_
    exact kt
  obtain ⟨st, h_st⟩ : ∃ z : Int32, z = (s0 &&& (65535 : Int32)) := ⟨_, rfl⟩
  have pre2 : ∀ t, Steps p.tables e below (s₁.setTop (mkF m 4 #[.val (.int s0), .val (.int e0_), .val (.int w0), .val (.int b0), .unset, .unset, .unset, .unset, .unset, .unset, .unset, .unset, .unset, .unset, .unset, .unset, .unset] [(.int st)])) t → Steps p.tables e below (s₁.setTop (entryFrame m #[(.int s0), (.int e0_), (.int w0), (.int b0)] maxLocals)) t := by
    intro t kt
    rw [h_st] at kt
    exact pre1 _ kt
  have pre3 : ∀ t, Steps p.tables e below (s₁.setTop (mkF m 18 #[.val (.int s0), .val (.int e0_), .val (.int w0), .val (.int b0), .val (.int st), .unset, .unset, .unset, .unset, .unset, .unset, .unset, .unset, .unset, .unset, .unset, .unset] [(.int (((e0_ &&& (2147483647 : Int32)) % ((65536 : Int32) - st)) + (1 : Int32)))])) t → Steps p.tables e below (s₁.setTop (entryFrame m #[(.int s0), (.int e0_), (.int w0), (.int b0)] maxLocals)) t := by
    intro t kt
    refine pre2 _ ?_
    show Steps p.tables e below (s₁.setTop (mkF m 4 #[.val (.int s0), .val (.int e0_), .val (.int w0), .val (.int b0), .unset, .unset, .unset, .unset, .unset, .unset, .unset, .unset, .unset, .unset, .unset, .unset, .unset] [(.int st)])) _
    refine XS.istore X0.here hx rfl (hb hby at_4) rfl (l' := #[.val (.int s0), .val (.int e0_), .val (.int w0), .val (.int b0), .val (.int st), .unset, .unset, .unset, .unset, .unset, .unset, .unset, .unset, .unset, .unset, .unset, .unset]) rfl ?_
    show Steps p.tables e below (s₁.setTop (mkF m 6 #[.val (.int s0), .val (.int e0_), .val (.int w0), .val (.int b0), .val (.int st), .unset, .unset, .unset, .unset, .unset, .unset, .unset, .unset, .unset, .unset, .unset, .unset] [])) _
    refine XS.iloadN X0.here hx rfl (hb hby at_6) rfl ?_
    show Steps p.tables e below (s₁.setTop (mkF m 7 #[.val (.int s0), .val (.int e0_), .val (.int w0), .val (.int b0), .val (.int st), .unset, .unset, .unset, .unset, .unset, .unset, .unset, .unset, .unset, .unset, .unset, .unset] [(.int e0_)])) _
    refine Stand.ldcI (g := (mkF m 7 #[.val (.int s0), .val (.int e0_), .val (.int w0), .val (.int b0), .val (.int st), .unset, .unset, .unset, .unset, .unset, .unset, .unset, .unset, .unset, .unset, .unset, .unset] [(.int e0_)])) X0 hx hown (mvT hZ (hw _ (List.mem_of_getElem? (i := 1) rfl))) rfl (hb hby at_7) ?_
    show Steps p.tables e below (s₁.setTop (mkF m 9 #[.val (.int s0), .val (.int e0_), .val (.int w0), .val (.int b0), .val (.int st), .unset, .unset, .unset, .unset, .unset, .unset, .unset, .unset, .unset, .unset, .unset, .unset] [(.int (2147483647 : Int32)), (.int e0_)])) _
    refine XS.iand X0.here hx rfl (hb hby at_9) rfl ?_
    show Steps p.tables e below (s₁.setTop (mkF m 10 #[.val (.int s0), .val (.int e0_), .val (.int w0), .val (.int b0), .val (.int st), .unset, .unset, .unset, .unset, .unset, .unset, .unset, .unset, .unset, .unset, .unset, .unset] [(.int (e0_ &&& (2147483647 : Int32)))])) _
    refine Stand.ldcI (g := (mkF m 10 #[.val (.int s0), .val (.int e0_), .val (.int w0), .val (.int b0), .val (.int st), .unset, .unset, .unset, .unset, .unset, .unset, .unset, .unset, .unset, .unset, .unset, .unset] [(.int (e0_ &&& (2147483647 : Int32)))])) X0 hx hown (mvT hZ (hw _ (List.mem_of_getElem? (i := 2) rfl))) rfl (hb hby at_10) ?_
    show Steps p.tables e below (s₁.setTop (mkF m 12 #[.val (.int s0), .val (.int e0_), .val (.int w0), .val (.int b0), .val (.int st), .unset, .unset, .unset, .unset, .unset, .unset, .unset, .unset, .unset, .unset, .unset, .unset] [(.int (65536 : Int32)), (.int (e0_ &&& (2147483647 : Int32)))])) _
    refine XS.iload X0.here hx rfl (hb hby at_12) rfl ?_
    show Steps p.tables e below (s₁.setTop (mkF m 14 #[.val (.int s0), .val (.int e0_), .val (.int w0), .val (.int b0), .val (.int st), .unset, .unset, .unset, .unset, .unset, .unset, .unset, .unset, .unset, .unset, .unset, .unset] [(.int st), (.int (65536 : Int32)), (.int (e0_ &&& (2147483647 : Int32)))])) _
    refine XS.isub X0.here hx rfl (hb hby at_14) rfl ?_
    show Steps p.tables e below (s₁.setTop (mkF m 15 #[.val (.int s0), .val (.int e0_), .val (.int w0), .val (.int b0), .val (.int st), .unset, .unset, .unset, .unset, .unset, .unset, .unset, .unset, .unset, .unset, .unset, .unset] [(.int ((65536 : Int32) - st)), (.int (e0_ &&& (2147483647 : Int32)))])) _
    refine iremM (g := (mkF m 15 #[.val (.int s0), .val (.int e0_), .val (.int w0), .val (.int b0), .val (.int st), .unset, .unset, .unset, .unset, .unset, .unset, .unset, .unset, .unset, .unset, .unset, .unset] [(.int ((65536 : Int32) - st)), (.int (e0_ &&& (2147483647 : Int32)))])) X0 hx rfl (hb hby at_15) rfl (own_nz1 s0 st h_st) ?_
    show Steps p.tables e below (s₁.setTop (mkF m 16 #[.val (.int s0), .val (.int e0_), .val (.int w0), .val (.int b0), .val (.int st), .unset, .unset, .unset, .unset, .unset, .unset, .unset, .unset, .unset, .unset, .unset, .unset] [(.int ((e0_ &&& (2147483647 : Int32)) % ((65536 : Int32) - st)))])) _
    refine XS.iconst X0.here hx rfl (hb hby at_16) ?_
    show Steps p.tables e below (s₁.setTop (mkF m 17 #[.val (.int s0), .val (.int e0_), .val (.int w0), .val (.int b0), .val (.int st), .unset, .unset, .unset, .unset, .unset, .unset, .unset, .unset, .unset, .unset, .unset, .unset] [(.int (1 : Int32)), (.int ((e0_ &&& (2147483647 : Int32)) % ((65536 : Int32) - st)))])) _
    refine XS.iadd X0.here hx rfl (hb hby at_17) rfl ?_
    exact kt
  obtain ⟨ln, h_ln⟩ : ∃ z : Int32, z = (((e0_ &&& (2147483647 : Int32)) % ((65536 : Int32) - st)) + (1 : Int32)) := ⟨_, rfl⟩
  have pre4 : ∀ t, Steps p.tables e below (s₁.setTop (mkF m 18 #[.val (.int s0), .val (.int e0_), .val (.int w0), .val (.int b0), .val (.int st), .unset, .unset, .unset, .unset, .unset, .unset, .unset, .unset, .unset, .unset, .unset, .unset] [(.int ln)])) t → Steps p.tables e below (s₁.setTop (entryFrame m #[(.int s0), (.int e0_), (.int w0), (.int b0)] maxLocals)) t := by
    intro t kt
    rw [h_ln] at kt
    exact pre3 _ kt
  have pre5 : ∀ t, Steps p.tables e below (s₁.setTop (mkF m 25 #[.val (.int s0), .val (.int e0_), .val (.int w0), .val (.int b0), .val (.int st), .val (.int ln), .unset, .unset, .unset, .unset, .unset, .unset, .unset, .unset, .unset, .unset, .unset] [(.int (st + ln))])) t → Steps p.tables e below (s₁.setTop (entryFrame m #[(.int s0), (.int e0_), (.int w0), (.int b0)] maxLocals)) t := by
    intro t kt
    refine pre4 _ ?_
    show Steps p.tables e below (s₁.setTop (mkF m 18 #[.val (.int s0), .val (.int e0_), .val (.int w0), .val (.int b0), .val (.int st), .unset, .unset, .unset, .unset, .unset, .unset, .unset, .unset, .unset, .unset, .unset, .unset] [(.int ln)])) _
    refine XS.istore X0.here hx rfl (hb hby at_18) rfl (l' := #[.val (.int s0), .val (.int e0_), .val (.int w0), .val (.int b0), .val (.int st), .val (.int ln), .unset, .unset, .unset, .unset, .unset, .unset, .unset, .unset, .unset, .unset, .unset]) rfl ?_
    show Steps p.tables e below (s₁.setTop (mkF m 20 #[.val (.int s0), .val (.int e0_), .val (.int w0), .val (.int b0), .val (.int st), .val (.int ln), .unset, .unset, .unset, .unset, .unset, .unset, .unset, .unset, .unset, .unset, .unset] [])) _
    refine XS.iload X0.here hx rfl (hb hby at_20) rfl ?_
    show Steps p.tables e below (s₁.setTop (mkF m 22 #[.val (.int s0), .val (.int e0_), .val (.int w0), .val (.int b0), .val (.int st), .val (.int ln), .unset, .unset, .unset, .unset, .unset, .unset, .unset, .unset, .unset, .unset, .unset] [(.int st)])) _
    refine XS.iload X0.here hx rfl (hb hby at_22) rfl ?_
    show Steps p.tables e below (s₁.setTop (mkF m 24 #[.val (.int s0), .val (.int e0_), .val (.int w0), .val (.int b0), .val (.int st), .val (.int ln), .unset, .unset, .unset, .unset, .unset, .unset, .unset, .unset, .unset, .unset, .unset] [(.int ln), (.int st)])) _
    refine XS.iadd X0.here hx rfl (hb hby at_24) rfl ?_
    exact kt
  obtain ⟨en, h_en⟩ : ∃ z : Int32, z = (st + ln) := ⟨_, rfl⟩
  have pre6 : ∀ t, Steps p.tables e below (s₁.setTop (mkF m 25 #[.val (.int s0), .val (.int e0_), .val (.int w0), .val (.int b0), .val (.int st), .val (.int ln), .unset, .unset, .unset, .unset, .unset, .unset, .unset, .unset, .unset, .unset, .unset] [(.int en)])) t → Steps p.tables e below (s₁.setTop (entryFrame m #[(.int s0), (.int e0_), (.int w0), (.int b0)] maxLocals)) t := by
    intro t kt
    rw [h_en] at kt
    exact pre5 _ kt
  have pre7 : ∀ t, Steps p.tables e below (s₁.setTop (mkF m 32 #[.val (.int s0), .val (.int e0_), .val (.int w0), .val (.int b0), .val (.int st), .val (.int ln), .val (.int en), .unset, .unset, .unset, .unset, .unset, .unset, .unset, .unset, .unset, .unset] [(.int ((st.toUInt32 >>> ((6 : Int32) &&& 31).toUInt32).toInt32))])) t → Steps p.tables e below (s₁.setTop (entryFrame m #[(.int s0), (.int e0_), (.int w0), (.int b0)] maxLocals)) t := by
    intro t kt
    refine pre6 _ ?_
    show Steps p.tables e below (s₁.setTop (mkF m 25 #[.val (.int s0), .val (.int e0_), .val (.int w0), .val (.int b0), .val (.int st), .val (.int ln), .unset, .unset, .unset, .unset, .unset, .unset, .unset, .unset, .unset, .unset, .unset] [(.int en)])) _
    refine XS.istore X0.here hx rfl (hb hby at_25) rfl (l' := #[.val (.int s0), .val (.int e0_), .val (.int w0), .val (.int b0), .val (.int st), .val (.int ln), .val (.int en), .unset, .unset, .unset, .unset, .unset, .unset, .unset, .unset, .unset, .unset]) rfl ?_
    show Steps p.tables e below (s₁.setTop (mkF m 27 #[.val (.int s0), .val (.int e0_), .val (.int w0), .val (.int b0), .val (.int st), .val (.int ln), .val (.int en), .unset, .unset, .unset, .unset, .unset, .unset, .unset, .unset, .unset, .unset] [])) _
    refine XS.iload X0.here hx rfl (hb hby at_27) rfl ?_
    show Steps p.tables e below (s₁.setTop (mkF m 29 #[.val (.int s0), .val (.int e0_), .val (.int w0), .val (.int b0), .val (.int st), .val (.int ln), .val (.int en), .unset, .unset, .unset, .unset, .unset, .unset, .unset, .unset, .unset, .unset] [(.int st)])) _
    refine XS.bipush X0.here hx rfl (hb hby at_29) ?_
    show Steps p.tables e below (s₁.setTop (mkF m 31 #[.val (.int s0), .val (.int e0_), .val (.int w0), .val (.int b0), .val (.int st), .val (.int ln), .val (.int en), .unset, .unset, .unset, .unset, .unset, .unset, .unset, .unset, .unset, .unset] [(.int (6 : Int32)), (.int st)])) _
    refine XS.iushr X0.here hx rfl (hb hby at_31) rfl ?_
    exact kt
  obtain ⟨fw, h_fw⟩ : ∃ z : Int32, z = ((st.toUInt32 >>> ((6 : Int32) &&& 31).toUInt32).toInt32) := ⟨_, rfl⟩
  have pre8 : ∀ t, Steps p.tables e below (s₁.setTop (mkF m 32 #[.val (.int s0), .val (.int e0_), .val (.int w0), .val (.int b0), .val (.int st), .val (.int ln), .val (.int en), .unset, .unset, .unset, .unset, .unset, .unset, .unset, .unset, .unset, .unset] [(.int fw)])) t → Steps p.tables e below (s₁.setTop (entryFrame m #[(.int s0), (.int e0_), (.int w0), (.int b0)] maxLocals)) t := by
    intro t kt
    rw [h_fw] at kt
    exact pre7 _ kt
  have pre9 : ∀ t, Steps p.tables e below (s₁.setTop (mkF m 41 #[.val (.int s0), .val (.int e0_), .val (.int w0), .val (.int b0), .val (.int st), .val (.int ln), .val (.int en), .val (.int fw), .unset, .unset, .unset, .unset, .unset, .unset, .unset, .unset, .unset] [(.int (((en - (1 : Int32)).toUInt32 >>> ((6 : Int32) &&& 31).toUInt32).toInt32))])) t → Steps p.tables e below (s₁.setTop (entryFrame m #[(.int s0), (.int e0_), (.int w0), (.int b0)] maxLocals)) t := by
    intro t kt
    refine pre8 _ ?_
    show Steps p.tables e below (s₁.setTop (mkF m 32 #[.val (.int s0), .val (.int e0_), .val (.int w0), .val (.int b0), .val (.int st), .val (.int ln), .val (.int en), .unset, .unset, .unset, .unset, .unset, .unset, .unset, .unset, .unset, .unset] [(.int fw)])) _
    refine XS.istore X0.here hx rfl (hb hby at_32) rfl (l' := #[.val (.int s0), .val (.int e0_), .val (.int w0), .val (.int b0), .val (.int st), .val (.int ln), .val (.int en), .val (.int fw), .unset, .unset, .unset, .unset, .unset, .unset, .unset, .unset, .unset]) rfl ?_
    show Steps p.tables e below (s₁.setTop (mkF m 34 #[.val (.int s0), .val (.int e0_), .val (.int w0), .val (.int b0), .val (.int st), .val (.int ln), .val (.int en), .val (.int fw), .unset, .unset, .unset, .unset, .unset, .unset, .unset, .unset, .unset] [])) _
    refine XS.iload X0.here hx rfl (hb hby at_34) rfl ?_
    show Steps p.tables e below (s₁.setTop (mkF m 36 #[.val (.int s0), .val (.int e0_), .val (.int w0), .val (.int b0), .val (.int st), .val (.int ln), .val (.int en), .val (.int fw), .unset, .unset, .unset, .unset, .unset, .unset, .unset, .unset, .unset] [(.int en)])) _
    refine XS.iconst X0.here hx rfl (hb hby at_36) ?_
    show Steps p.tables e below (s₁.setTop (mkF m 37 #[.val (.int s0), .val (.int e0_), .val (.int w0), .val (.int b0), .val (.int st), .val (.int ln), .val (.int en), .val (.int fw), .unset, .unset, .unset, .unset, .unset, .unset, .unset, .unset, .unset] [(.int (1 : Int32)), (.int en)])) _
    refine XS.isub X0.here hx rfl (hb hby at_37) rfl ?_
    show Steps p.tables e below (s₁.setTop (mkF m 38 #[.val (.int s0), .val (.int e0_), .val (.int w0), .val (.int b0), .val (.int st), .val (.int ln), .val (.int en), .val (.int fw), .unset, .unset, .unset, .unset, .unset, .unset, .unset, .unset, .unset] [(.int (en - (1 : Int32)))])) _
    refine XS.bipush X0.here hx rfl (hb hby at_38) ?_
    show Steps p.tables e below (s₁.setTop (mkF m 40 #[.val (.int s0), .val (.int e0_), .val (.int w0), .val (.int b0), .val (.int st), .val (.int ln), .val (.int en), .val (.int fw), .unset, .unset, .unset, .unset, .unset, .unset, .unset, .unset, .unset] [(.int (6 : Int32)), (.int (en - (1 : Int32)))])) _
    refine XS.iushr X0.here hx rfl (hb hby at_40) rfl ?_
    exact kt
  obtain ⟨lw, h_lw⟩ : ∃ z : Int32, z = (((en - (1 : Int32)).toUInt32 >>> ((6 : Int32) &&& 31).toUInt32).toInt32) := ⟨_, rfl⟩
  have pre10 : ∀ t, Steps p.tables e below (s₁.setTop (mkF m 41 #[.val (.int s0), .val (.int e0_), .val (.int w0), .val (.int b0), .val (.int st), .val (.int ln), .val (.int en), .val (.int fw), .unset, .unset, .unset, .unset, .unset, .unset, .unset, .unset, .unset] [(.int lw)])) t → Steps p.tables e below (s₁.setTop (entryFrame m #[(.int s0), (.int e0_), (.int w0), (.int b0)] maxLocals)) t := by
    intro t kt
    rw [h_lw] at kt
    exact pre9 _ kt
  have pre11 : ∀ t, Steps p.tables e below (s₁.setTop (mkF m 46 #[.val (.int s0), .val (.int e0_), .val (.int w0), .val (.int b0), .val (.int st), .val (.int ln), .val (.int en), .val (.int fw), .val (.int lw), .unset, .unset, .unset, .unset, .unset, .unset, .unset, .unset] [(.int (w0 &&& (3 : Int32)))])) t → Steps p.tables e below (s₁.setTop (entryFrame m #[(.int s0), (.int e0_), (.int w0), (.int b0)] maxLocals)) t := by
    intro t kt
    refine pre10 _ ?_
    show Steps p.tables e below (s₁.setTop (mkF m 41 #[.val (.int s0), .val (.int e0_), .val (.int w0), .val (.int b0), .val (.int st), .val (.int ln), .val (.int en), .val (.int fw), .unset, .unset, .unset, .unset, .unset, .unset, .unset, .unset, .unset] [(.int lw)])) _
    refine XS.istore X0.here hx rfl (hb hby at_41) rfl (l' := #[.val (.int s0), .val (.int e0_), .val (.int w0), .val (.int b0), .val (.int st), .val (.int ln), .val (.int en), .val (.int fw), .val (.int lw), .unset, .unset, .unset, .unset, .unset, .unset, .unset, .unset]) rfl ?_
    show Steps p.tables e below (s₁.setTop (mkF m 43 #[.val (.int s0), .val (.int e0_), .val (.int w0), .val (.int b0), .val (.int st), .val (.int ln), .val (.int en), .val (.int fw), .val (.int lw), .unset, .unset, .unset, .unset, .unset, .unset, .unset, .unset] [])) _
    refine XS.iloadN X0.here hx rfl (hb hby at_43) rfl ?_
    show Steps p.tables e below (s₁.setTop (mkF m 44 #[.val (.int s0), .val (.int e0_), .val (.int w0), .val (.int b0), .val (.int st), .val (.int ln), .val (.int en), .val (.int fw), .val (.int lw), .unset, .unset, .unset, .unset, .unset, .unset, .unset, .unset] [(.int w0)])) _
    refine XS.iconst X0.here hx rfl (hb hby at_44) ?_
    show Steps p.tables e below (s₁.setTop (mkF m 45 #[.val (.int s0), .val (.int e0_), .val (.int w0), .val (.int b0), .val (.int st), .val (.int ln), .val (.int en), .val (.int fw), .val (.int lw), .unset, .unset, .unset, .unset, .unset, .unset, .unset, .unset] [(.int (3 : Int32)), (.int w0)])) _
    refine XS.iand X0.here hx rfl (hb hby at_45) rfl ?_
    exact kt
  obtain ⟨pk, h_pk⟩ : ∃ z : Int32, z = (w0 &&& (3 : Int32)) := ⟨_, rfl⟩
  have pre12 : ∀ t, Steps p.tables e below (s₁.setTop (mkF m 46 #[.val (.int s0), .val (.int e0_), .val (.int w0), .val (.int b0), .val (.int st), .val (.int ln), .val (.int en), .val (.int fw), .val (.int lw), .unset, .unset, .unset, .unset, .unset, .unset, .unset, .unset] [(.int pk)])) t → Steps p.tables e below (s₁.setTop (entryFrame m #[(.int s0), (.int e0_), (.int w0), (.int b0)] maxLocals)) t := by
    intro t kt
    rw [h_pk] at kt
    exact pre11 _ kt
  have pre13 : ∀ t, Steps p.tables e below (s₁.setTop (mkF m 50 #[.val (.int s0), .val (.int e0_), .val (.int w0), .val (.int b0), .val (.int st), .val (.int ln), .val (.int en), .val (.int fw), .val (.int lw), .val (.int pk), .unset, .unset, .unset, .unset, .unset, .unset, .unset] [(.int pk)])) t → Steps p.tables e below (s₁.setTop (entryFrame m #[(.int s0), (.int e0_), (.int w0), (.int b0)] maxLocals)) t := by
    intro t kt
    refine pre12 _ ?_
    show Steps p.tables e below (s₁.setTop (mkF m 46 #[.val (.int s0), .val (.int e0_), .val (.int w0), .val (.int b0), .val (.int st), .val (.int ln), .val (.int en), .val (.int fw), .val (.int lw), .unset, .unset, .unset, .unset, .unset, .unset, .unset, .unset] [(.int pk)])) _
    refine XS.istore X0.here hx rfl (hb hby at_46) rfl (l' := #[.val (.int s0), .val (.int e0_), .val (.int w0), .val (.int b0), .val (.int st), .val (.int ln), .val (.int en), .val (.int fw), .val (.int lw), .val (.int pk), .unset, .unset, .unset, .unset, .unset, .unset, .unset]) rfl ?_
    show Steps p.tables e below (s₁.setTop (mkF m 48 #[.val (.int s0), .val (.int e0_), .val (.int w0), .val (.int b0), .val (.int st), .val (.int ln), .val (.int en), .val (.int fw), .val (.int lw), .val (.int pk), .unset, .unset, .unset, .unset, .unset, .unset, .unset] [])) _
    refine XS.iload X0.here hx rfl (hb hby at_48) rfl ?_
    exact kt
  obtain ⟨wd, h_wd⟩ : ∃ z : Int32, z = (if pk = (0 : Int32) then fw else (if pk = (1 : Int32) then lw else (fw + (((w0.toUInt32 >>> ((2 : Int32) &&& 31).toUInt32).toInt32) % ((lw - fw) + (1 : Int32)))))) := ⟨_, rfl⟩
  have pre16 : ∀ t, Steps p.tables e below (s₁.setTop (mkF m 89 #[.val (.int s0), .val (.int e0_), .val (.int w0), .val (.int b0), .val (.int st), .val (.int ln), .val (.int en), .val (.int fw), .val (.int lw), .val (.int pk), .val (.int wd), .unset, .unset, .unset, .unset, .unset, .unset] [])) t → Steps p.tables e below (s₁.setTop (entryFrame m #[(.int s0), (.int e0_), (.int w0), (.int b0)] maxLocals)) t := by
    intro t kt
    refine pre13 _ ?_
    by_cases hc50_14 : pk = (0 : Int32)
    · skip
      have q_wd : wd = fw := by rw [h_wd, if_pos hc50_14]
      rw [q_wd] at kt
      show Steps p.tables e below (s₁.setTop (mkF m 50 #[.val (.int s0), .val (.int e0_), .val (.int w0), .val (.int b0), .val (.int st), .val (.int ln), .val (.int en), .val (.int fw), .val (.int lw), .val (.int pk), .unset, .unset, .unset, .unset, .unset, .unset, .unset] [(.int pk)])) _
      refine XS.ifNo X0.here hx rfl (hb hby at_50) rfl (XT.i0_ne_f hc50_14) ?_
      show Steps p.tables e below (s₁.setTop (mkF m 53 #[.val (.int s0), .val (.int e0_), .val (.int w0), .val (.int b0), .val (.int st), .val (.int ln), .val (.int en), .val (.int fw), .val (.int lw), .val (.int pk), .unset, .unset, .unset, .unset, .unset, .unset, .unset] [])) _
      refine XS.iload X0.here hx rfl (hb hby at_53) rfl ?_
      show Steps p.tables e below (s₁.setTop (mkF m 55 #[.val (.int s0), .val (.int e0_), .val (.int w0), .val (.int b0), .val (.int st), .val (.int ln), .val (.int en), .val (.int fw), .val (.int lw), .val (.int pk), .unset, .unset, .unset, .unset, .unset, .unset, .unset] [(.int fw)])) _
      refine XS.istore X0.here hx rfl (hb hby at_55) rfl (l' := #[.val (.int s0), .val (.int e0_), .val (.int w0), .val (.int b0), .val (.int st), .val (.int ln), .val (.int en), .val (.int fw), .val (.int lw), .val (.int pk), .val (.int fw), .unset, .unset, .unset, .unset, .unset, .unset]) rfl ?_
      show Steps p.tables e below (s₁.setTop (mkF m 57 #[.val (.int s0), .val (.int e0_), .val (.int w0), .val (.int b0), .val (.int st), .val (.int ln), .val (.int en), .val (.int fw), .val (.int lw), .val (.int pk), .val (.int fw), .unset, .unset, .unset, .unset, .unset, .unset] [])) _
      refine XS.goto X0.here hx rfl (pc0 := 57) (pc' := 89) rfl (hb hby at_57) (by decide) (by decide) ?_
      exact kt
    · skip
      show Steps p.tables e below (s₁.setTop (mkF m 50 #[.val (.int s0), .val (.int e0_), .val (.int w0), .val (.int b0), .val (.int st), .val (.int ln), .val (.int en), .val (.int fw), .val (.int lw), .val (.int pk), .unset, .unset, .unset, .unset, .unset, .unset, .unset] [(.int pk)])) _
      refine XS.ifYes X0.here hx rfl (pc0 := 50) (pc' := 60) rfl (hb hby at_50) rfl (XT.i0_ne_t hc50_14) (by decide) (by decide) ?_
      show Steps p.tables e below (s₁.setTop (mkF m 60 #[.val (.int s0), .val (.int e0_), .val (.int w0), .val (.int b0), .val (.int st), .val (.int ln), .val (.int en), .val (.int fw), .val (.int lw), .val (.int pk), .unset, .unset, .unset, .unset, .unset, .unset, .unset] [])) _
      refine XS.iload X0.here hx rfl (hb hby at_60) rfl ?_
      show Steps p.tables e below (s₁.setTop (mkF m 62 #[.val (.int s0), .val (.int e0_), .val (.int w0), .val (.int b0), .val (.int st), .val (.int ln), .val (.int en), .val (.int fw), .val (.int lw), .val (.int pk), .unset, .unset, .unset, .unset, .unset, .unset, .unset] [(.int pk)])) _
      refine XS.iconst X0.here hx rfl (hb hby at_62) ?_
      by_cases hc63_15 : pk = (1 : Int32)
      · skip
        have q_wd : wd = lw := by rw [h_wd, if_neg hc50_14, if_pos hc63_15]
        rw [q_wd] at kt
        show Steps p.tables e below (s₁.setTop (mkF m 63 #[.val (.int s0), .val (.int e0_), .val (.int w0), .val (.int b0), .val (.int st), .val (.int ln), .val (.int en), .val (.int fw), .val (.int lw), .val (.int pk), .unset, .unset, .unset, .unset, .unset, .unset, .unset] [(.int (1 : Int32)), (.int pk)])) _
        refine XS.icmpNo X0.here hx rfl (hb hby at_63) rfl (XT.ii_ne_f hc63_15) ?_
        show Steps p.tables e below (s₁.setTop (mkF m 66 #[.val (.int s0), .val (.int e0_), .val (.int w0), .val (.int b0), .val (.int st), .val (.int ln), .val (.int en), .val (.int fw), .val (.int lw), .val (.int pk), .unset, .unset, .unset, .unset, .unset, .unset, .unset] [])) _
        refine XS.iload X0.here hx rfl (hb hby at_66) rfl ?_
        show Steps p.tables e below (s₁.setTop (mkF m 68 #[.val (.int s0), .val (.int e0_), .val (.int w0), .val (.int b0), .val (.int st), .val (.int ln), .val (.int en), .val (.int fw), .val (.int lw), .val (.int pk), .unset, .unset, .unset, .unset, .unset, .unset, .unset] [(.int lw)])) _
        refine XS.istore X0.here hx rfl (hb hby at_68) rfl (l' := #[.val (.int s0), .val (.int e0_), .val (.int w0), .val (.int b0), .val (.int st), .val (.int ln), .val (.int en), .val (.int fw), .val (.int lw), .val (.int pk), .val (.int lw), .unset, .unset, .unset, .unset, .unset, .unset]) rfl ?_
        show Steps p.tables e below (s₁.setTop (mkF m 70 #[.val (.int s0), .val (.int e0_), .val (.int w0), .val (.int b0), .val (.int st), .val (.int ln), .val (.int en), .val (.int fw), .val (.int lw), .val (.int pk), .val (.int lw), .unset, .unset, .unset, .unset, .unset, .unset] [])) _
        refine XS.goto X0.here hx rfl (pc0 := 70) (pc' := 89) rfl (hb hby at_70) (by decide) (by decide) ?_
        exact kt
      · skip
        have q_wd : wd = (fw + (((w0.toUInt32 >>> ((2 : Int32) &&& 31).toUInt32).toInt32) % ((lw - fw) + (1 : Int32)))) := by rw [h_wd, if_neg hc50_14, if_neg hc63_15]
        rw [q_wd] at kt
        show Steps p.tables e below (s₁.setTop (mkF m 63 #[.val (.int s0), .val (.int e0_), .val (.int w0), .val (.int b0), .val (.int st), .val (.int ln), .val (.int en), .val (.int fw), .val (.int lw), .val (.int pk), .unset, .unset, .unset, .unset, .unset, .unset, .unset] [(.int (1 : Int32)), (.int pk)])) _
        refine XS.icmpYes X0.here hx rfl (pc0 := 63) (pc' := 73) rfl (hb hby at_63) rfl (XT.ii_ne_t hc63_15) (by decide) (by decide) ?_
        show Steps p.tables e below (s₁.setTop (mkF m 73 #[.val (.int s0), .val (.int e0_), .val (.int w0), .val (.int b0), .val (.int st), .val (.int ln), .val (.int en), .val (.int fw), .val (.int lw), .val (.int pk), .unset, .unset, .unset, .unset, .unset, .unset, .unset] [])) _
        refine XS.iload X0.here hx rfl (hb hby at_73) rfl ?_
        show Steps p.tables e below (s₁.setTop (mkF m 75 #[.val (.int s0), .val (.int e0_), .val (.int w0), .val (.int b0), .val (.int st), .val (.int ln), .val (.int en), .val (.int fw), .val (.int lw), .val (.int pk), .unset, .unset, .unset, .unset, .unset, .unset, .unset] [(.int fw)])) _
        refine XS.iloadN X0.here hx rfl (hb hby at_75) rfl ?_
        show Steps p.tables e below (s₁.setTop (mkF m 76 #[.val (.int s0), .val (.int e0_), .val (.int w0), .val (.int b0), .val (.int st), .val (.int ln), .val (.int en), .val (.int fw), .val (.int lw), .val (.int pk), .unset, .unset, .unset, .unset, .unset, .unset, .unset] [(.int w0), (.int fw)])) _
        refine XS.iconst X0.here hx rfl (hb hby at_76) ?_
        show Steps p.tables e below (s₁.setTop (mkF m 77 #[.val (.int s0), .val (.int e0_), .val (.int w0), .val (.int b0), .val (.int st), .val (.int ln), .val (.int en), .val (.int fw), .val (.int lw), .val (.int pk), .unset, .unset, .unset, .unset, .unset, .unset, .unset] [(.int (2 : Int32)), (.int w0), (.int fw)])) _
        refine XS.iushr X0.here hx rfl (hb hby at_77) rfl ?_
        show Steps p.tables e below (s₁.setTop (mkF m 78 #[.val (.int s0), .val (.int e0_), .val (.int w0), .val (.int b0), .val (.int st), .val (.int ln), .val (.int en), .val (.int fw), .val (.int lw), .val (.int pk), .unset, .unset, .unset, .unset, .unset, .unset, .unset] [(.int ((w0.toUInt32 >>> ((2 : Int32) &&& 31).toUInt32).toInt32)), (.int fw)])) _
        refine XS.iload X0.here hx rfl (hb hby at_78) rfl ?_
        show Steps p.tables e below (s₁.setTop (mkF m 80 #[.val (.int s0), .val (.int e0_), .val (.int w0), .val (.int b0), .val (.int st), .val (.int ln), .val (.int en), .val (.int fw), .val (.int lw), .val (.int pk), .unset, .unset, .unset, .unset, .unset, .unset, .unset] [(.int lw), (.int ((w0.toUInt32 >>> ((2 : Int32) &&& 31).toUInt32).toInt32)), (.int fw)])) _
        refine XS.iload X0.here hx rfl (hb hby at_80) rfl ?_
        show Steps p.tables e below (s₁.setTop (mkF m 82 #[.val (.int s0), .val (.int e0_), .val (.int w0), .val (.int b0), .val (.int st), .val (.int ln), .val (.int en), .val (.int fw), .val (.int lw), .val (.int pk), .unset, .unset, .unset, .unset, .unset, .unset, .unset] [(.int fw), (.int lw), (.int ((w0.toUInt32 >>> ((2 : Int32) &&& 31).toUInt32).toInt32)), (.int fw)])) _
        refine XS.isub X0.here hx rfl (hb hby at_82) rfl ?_
        show Steps p.tables e below (s₁.setTop (mkF m 83 #[.val (.int s0), .val (.int e0_), .val (.int w0), .val (.int b0), .val (.int st), .val (.int ln), .val (.int en), .val (.int fw), .val (.int lw), .val (.int pk), .unset, .unset, .unset, .unset, .unset, .unset, .unset] [(.int (lw - fw)), (.int ((w0.toUInt32 >>> ((2 : Int32) &&& 31).toUInt32).toInt32)), (.int fw)])) _
        refine XS.iconst X0.here hx rfl (hb hby at_83) ?_
        show Steps p.tables e below (s₁.setTop (mkF m 84 #[.val (.int s0), .val (.int e0_), .val (.int w0), .val (.int b0), .val (.int st), .val (.int ln), .val (.int en), .val (.int fw), .val (.int lw), .val (.int pk), .unset, .unset, .unset, .unset, .unset, .unset, .unset] [(.int (1 : Int32)), (.int (lw - fw)), (.int ((w0.toUInt32 >>> ((2 : Int32) &&& 31).toUInt32).toInt32)), (.int fw)])) _
        refine XS.iadd X0.here hx rfl (hb hby at_84) rfl ?_
        show Steps p.tables e below (s₁.setTop (mkF m 85 #[.val (.int s0), .val (.int e0_), .val (.int w0), .val (.int b0), .val (.int st), .val (.int ln), .val (.int en), .val (.int fw), .val (.int lw), .val (.int pk), .unset, .unset, .unset, .unset, .unset, .unset, .unset] [(.int ((lw - fw) + (1 : Int32))), (.int ((w0.toUInt32 >>> ((2 : Int32) &&& 31).toUInt32).toInt32)), (.int fw)])) _
        refine iremM (g := (mkF m 85 #[.val (.int s0), .val (.int e0_), .val (.int w0), .val (.int b0), .val (.int st), .val (.int ln), .val (.int en), .val (.int fw), .val (.int lw), .val (.int pk), .unset, .unset, .unset, .unset, .unset, .unset, .unset] [(.int ((lw - fw) + (1 : Int32))), (.int ((w0.toUInt32 >>> ((2 : Int32) &&& 31).toUInt32).toInt32)), (.int fw)])) X0 hx rfl (hb hby at_85) rfl (own_nz2 s0 e0_ st ln en fw lw h_st h_ln h_en h_fw h_lw) ?_
        show Steps p.tables e below (s₁.setTop (mkF m 86 #[.val (.int s0), .val (.int e0_), .val (.int w0), .val (.int b0), .val (.int st), .val (.int ln), .val (.int en), .val (.int fw), .val (.int lw), .val (.int pk), .unset, .unset, .unset, .unset, .unset, .unset, .unset] [(.int (((w0.toUInt32 >>> ((2 : Int32) &&& 31).toUInt32).toInt32) % ((lw - fw) + (1 : Int32)))), (.int fw)])) _
        refine XS.iadd X0.here hx rfl (hb hby at_86) rfl ?_
        show Steps p.tables e below (s₁.setTop (mkF m 87 #[.val (.int s0), .val (.int e0_), .val (.int w0), .val (.int b0), .val (.int st), .val (.int ln), .val (.int en), .val (.int fw), .val (.int lw), .val (.int pk), .unset, .unset, .unset, .unset, .unset, .unset, .unset] [(.int (fw + (((w0.toUInt32 >>> ((2 : Int32) &&& 31).toUInt32).toInt32) % ((lw - fw) + (1 : Int32)))))])) _
        refine XS.istore X0.here hx rfl (hb hby at_87) rfl (l' := #[.val (.int s0), .val (.int e0_), .val (.int w0), .val (.int b0), .val (.int st), .val (.int ln), .val (.int en), .val (.int fw), .val (.int lw), .val (.int pk), .val (.int (fw + (((w0.toUInt32 >>> ((2 : Int32) &&& 31).toUInt32).toInt32) % ((lw - fw) + (1 : Int32))))), .unset, .unset, .unset, .unset, .unset, .unset]) rfl ?_
        exact kt
  have pre17 : ∀ t, Steps p.tables e below (s₁.setTop (mkF m 93 #[.val (.int s0), .val (.int e0_), .val (.int w0), .val (.int b0), .val (.int st), .val (.int ln), .val (.int en), .val (.int fw), .val (.int lw), .val (.int pk), .val (.int wd), .unset, .unset, .unset, .unset, .unset, .unset] [(.int (b0 &&& (63 : Int32)))])) t → Steps p.tables e below (s₁.setTop (entryFrame m #[(.int s0), (.int e0_), (.int w0), (.int b0)] maxLocals)) t := by
    intro t kt
    refine pre16 _ ?_
    show Steps p.tables e below (s₁.setTop (mkF m 89 #[.val (.int s0), .val (.int e0_), .val (.int w0), .val (.int b0), .val (.int st), .val (.int ln), .val (.int en), .val (.int fw), .val (.int lw), .val (.int pk), .val (.int wd), .unset, .unset, .unset, .unset, .unset, .unset] [])) _
    refine XS.iloadN X0.here hx rfl (hb hby at_89) rfl ?_
    show Steps p.tables e below (s₁.setTop (mkF m 90 #[.val (.int s0), .val (.int e0_), .val (.int w0), .val (.int b0), .val (.int st), .val (.int ln), .val (.int en), .val (.int fw), .val (.int lw), .val (.int pk), .val (.int wd), .unset, .unset, .unset, .unset, .unset, .unset] [(.int b0)])) _
    refine XS.bipush X0.here hx rfl (hb hby at_90) ?_
    show Steps p.tables e below (s₁.setTop (mkF m 92 #[.val (.int s0), .val (.int e0_), .val (.int w0), .val (.int b0), .val (.int st), .val (.int ln), .val (.int en), .val (.int fw), .val (.int lw), .val (.int pk), .val (.int wd), .unset, .unset, .unset, .unset, .unset, .unset] [(.int (63 : Int32)), (.int b0)])) _
    refine XS.iand X0.here hx rfl (hb hby at_92) rfl ?_
    exact kt
  obtain ⟨bt, h_bt⟩ : ∃ z : Int32, z = (b0 &&& (63 : Int32)) := ⟨_, rfl⟩
  have pre18 : ∀ t, Steps p.tables e below (s₁.setTop (mkF m 93 #[.val (.int s0), .val (.int e0_), .val (.int w0), .val (.int b0), .val (.int st), .val (.int ln), .val (.int en), .val (.int fw), .val (.int lw), .val (.int pk), .val (.int wd), .unset, .unset, .unset, .unset, .unset, .unset] [(.int bt)])) t → Steps p.tables e below (s₁.setTop (entryFrame m #[(.int s0), (.int e0_), (.int w0), (.int b0)] maxLocals)) t := by
    intro t kt
    rw [h_bt] at kt
    exact pre17 _ kt
  obtain ⟨_, _, ⟨T19, L19, k19, n19⟩, -, X19, ⟨Lc19, hQ19, l19, y19, z19⟩, st19⟩ := Jvm.LawKit.callS X0 hx (y := (⟨"com/example/bitweight/bitweight/chunk/WordChunk", "bitsInRange", "(III)J"⟩ : MethodName)) hown (mvT hZ (hw _ (List.mem_of_getElem? (i := 3) rfl))) (mvT hZ (hw _ (List.mem_of_getElem? (i := 4) rfl))) (mvT hZ (hw _ (List.mem_of_getElem? (i := 5) rfl))) (mvT hZ (hw _ (List.mem_of_getElem? (i := 6) rfl))) (by decide) (backOf (W := 0) (rm1 l Z a0 hw [] wd st en h0 n0 Z0) hZ (hw _ (List.mem_of_getElem? (i := 6) rfl)) (hw _ (List.mem_of_getElem? (i := 5) rfl)) (by decide) (by decide)) (g := (mkF m 101 #[.val (.int s0), .val (.int e0_), .val (.int w0), .val (.int b0), .val (.int st), .val (.int ln), .val (.int en), .val (.int fw), .val (.int lw), .val (.int pk), .val (.int wd), .val (.int bt), .unset, .unset, .unset, .unset, .unset] [(.int en), (.int st), (.int wd)])) rfl (by rw [hml]; rfl) (argsL := [(.int wd), (.int st), (.int en)]) (rest := []) (lenOf pd_0 rfl) rfl (by show 2 * 0 + _ ≤ _; exact Nat.le_of_eq rfl) (hb hby at_101) (fun _ _ => ⟨rfl, e0, (by decide : 0 + 0 ≤ _), (by decide : 0 + 0 ≤ _)⟩)
  dsimp only [Pt.U, Pt.locs, Pt.cells, Pt.slots] at X19 l19 y19 z19 st19 hQ19
  subst l19 y19 z19
  obtain ⟨rfl, N19q, hE19⟩ := hQ19
  have N19 := Fr.app N0 N19q
  have pre20 : ∀ t, Steps p.tables e below (T19.setTop (mkF m 104 #[.val (.int s0), .val (.int e0_), .val (.int w0), .val (.int b0), .val (.int st), .val (.int ln), .val (.int en), .val (.int fw), .val (.int lw), .val (.int pk), .val (.int wd), .val (.int bt), .unset, .unset, .unset, .unset, .unset] [(.long (fn1 wd st en))])) t → Steps p.tables e below (s₁.setTop (entryFrame m #[(.int s0), (.int e0_), (.int w0), (.int b0)] maxLocals)) t := by
    intro t kt
    refine pre18 _ ?_
    show Steps p.tables e below (s₁.setTop (mkF m 93 #[.val (.int s0), .val (.int e0_), .val (.int w0), .val (.int b0), .val (.int st), .val (.int ln), .val (.int en), .val (.int fw), .val (.int lw), .val (.int pk), .val (.int wd), .unset, .unset, .unset, .unset, .unset, .unset] [(.int bt)])) _
    refine XS.istore X0.here hx rfl (hb hby at_93) rfl (l' := #[.val (.int s0), .val (.int e0_), .val (.int w0), .val (.int b0), .val (.int st), .val (.int ln), .val (.int en), .val (.int fw), .val (.int lw), .val (.int pk), .val (.int wd), .val (.int bt), .unset, .unset, .unset, .unset, .unset]) rfl ?_
    show Steps p.tables e below (s₁.setTop (mkF m 95 #[.val (.int s0), .val (.int e0_), .val (.int w0), .val (.int b0), .val (.int st), .val (.int ln), .val (.int en), .val (.int fw), .val (.int lw), .val (.int pk), .val (.int wd), .val (.int bt), .unset, .unset, .unset, .unset, .unset] [])) _
    refine XS.iload X0.here hx rfl (hb hby at_95) rfl ?_
    show Steps p.tables e below (s₁.setTop (mkF m 97 #[.val (.int s0), .val (.int e0_), .val (.int w0), .val (.int b0), .val (.int st), .val (.int ln), .val (.int en), .val (.int fw), .val (.int lw), .val (.int pk), .val (.int wd), .val (.int bt), .unset, .unset, .unset, .unset, .unset] [(.int wd)])) _
    refine XS.iload X0.here hx rfl (hb hby at_97) rfl ?_
    show Steps p.tables e below (s₁.setTop (mkF m 99 #[.val (.int s0), .val (.int e0_), .val (.int w0), .val (.int b0), .val (.int st), .val (.int ln), .val (.int en), .val (.int fw), .val (.int lw), .val (.int pk), .val (.int wd), .val (.int bt), .unset, .unset, .unset, .unset, .unset] [(.int st), (.int wd)])) _
    refine XS.iload X0.here hx rfl (hb hby at_99) rfl ?_
    show Steps p.tables e below (s₁.setTop (mkF m 101 #[.val (.int s0), .val (.int e0_), .val (.int w0), .val (.int b0), .val (.int st), .val (.int ln), .val (.int en), .val (.int fw), .val (.int lw), .val (.int pk), .val (.int wd), .val (.int bt), .unset, .unset, .unset, .unset, .unset] [(.int en), (.int st), (.int wd)])) _
    refine st19 _ ?_
    exact kt
  obtain ⟨bits, h_bits⟩ : ∃ z : Int64, z = (fn1 wd st en) := ⟨_, rfl⟩
  have pre21 : ∀ t, Steps p.tables e below (T19.setTop (mkF m 104 #[.val (.int s0), .val (.int e0_), .val (.int w0), .val (.int b0), .val (.int st), .val (.int ln), .val (.int en), .val (.int fw), .val (.int lw), .val (.int pk), .val (.int wd), .val (.int bt), .unset, .unset, .unset, .unset, .unset] [(.long bits)])) t → Steps p.tables e below (s₁.setTop (entryFrame m #[(.int s0), (.int e0_), (.int w0), (.int b0)] maxLocals)) t := by
    intro t kt
    rw [h_bits] at kt
    exact pre20 _ kt
  have pre22 : ∀ t, Steps p.tables e below (T19.setTop (mkF m 115 #[.val (.int s0), .val (.int e0_), .val (.int w0), .val (.int b0), .val (.int st), .val (.int ln), .val (.int en), .val (.int fw), .val (.int lw), .val (.int pk), .val (.int wd), .val (.int bt), .val (.long bits), .second, .unset, .unset, .unset] [(.int (XT.cmpL (((bits.toUInt64 >>> (bt &&& 0x3f).toInt64.toUInt64).toInt64) &&& (1 : Int64)) (0 : Int64)))])) t → Steps p.tables e below (s₁.setTop (entryFrame m #[(.int s0), (.int e0_), (.int w0), (.int b0)] maxLocals)) t := by
    intro t kt
    refine pre21 _ ?_
    show Steps p.tables e below (T19.setTop (mkF m 104 #[.val (.int s0), .val (.int e0_), .val (.int w0), .val (.int b0), .val (.int st), .val (.int ln), .val (.int en), .val (.int fw), .val (.int lw), .val (.int pk), .val (.int wd), .val (.int bt), .unset, .unset, .unset, .unset, .unset] [(.long bits)])) _
    refine XS.lstore X19.here hx rfl (hb hby at_104) rfl (l' := #[.val (.int s0), .val (.int e0_), .val (.int w0), .val (.int b0), .val (.int st), .val (.int ln), .val (.int en), .val (.int fw), .val (.int lw), .val (.int pk), .val (.int wd), .val (.int bt), .val (.long bits), .second, .unset, .unset, .unset]) rfl ?_
    show Steps p.tables e below (T19.setTop (mkF m 106 #[.val (.int s0), .val (.int e0_), .val (.int w0), .val (.int b0), .val (.int st), .val (.int ln), .val (.int en), .val (.int fw), .val (.int lw), .val (.int pk), .val (.int wd), .val (.int bt), .val (.long bits), .second, .unset, .unset, .unset] [])) _
    refine XS.lload X19.here hx rfl (hb hby at_106) rfl ?_
    show Steps p.tables e below (T19.setTop (mkF m 108 #[.val (.int s0), .val (.int e0_), .val (.int w0), .val (.int b0), .val (.int st), .val (.int ln), .val (.int en), .val (.int fw), .val (.int lw), .val (.int pk), .val (.int wd), .val (.int bt), .val (.long bits), .second, .unset, .unset, .unset] [(.long bits)])) _
    refine XS.iload X19.here hx rfl (hb hby at_108) rfl ?_
    show Steps p.tables e below (T19.setTop (mkF m 110 #[.val (.int s0), .val (.int e0_), .val (.int w0), .val (.int b0), .val (.int st), .val (.int ln), .val (.int en), .val (.int fw), .val (.int lw), .val (.int pk), .val (.int wd), .val (.int bt), .val (.long bits), .second, .unset, .unset, .unset] [(.int bt), (.long bits)])) _
    refine XS.lushr X19.here hx rfl (hb hby at_110) rfl ?_
    show Steps p.tables e below (T19.setTop (mkF m 111 #[.val (.int s0), .val (.int e0_), .val (.int w0), .val (.int b0), .val (.int st), .val (.int ln), .val (.int en), .val (.int fw), .val (.int lw), .val (.int pk), .val (.int wd), .val (.int bt), .val (.long bits), .second, .unset, .unset, .unset] [(.long ((bits.toUInt64 >>> (bt &&& 0x3f).toInt64.toUInt64).toInt64))])) _
    refine XS.lconst X19.here hx rfl (hb hby at_111) ?_
    show Steps p.tables e below (T19.setTop (mkF m 112 #[.val (.int s0), .val (.int e0_), .val (.int w0), .val (.int b0), .val (.int st), .val (.int ln), .val (.int en), .val (.int fw), .val (.int lw), .val (.int pk), .val (.int wd), .val (.int bt), .val (.long bits), .second, .unset, .unset, .unset] [(.long (1 : Int64)), (.long ((bits.toUInt64 >>> (bt &&& 0x3f).toInt64.toUInt64).toInt64))])) _
    refine XS.land X19.here hx rfl (hb hby at_112) rfl ?_
    show Steps p.tables e below (T19.setTop (mkF m 113 #[.val (.int s0), .val (.int e0_), .val (.int w0), .val (.int b0), .val (.int st), .val (.int ln), .val (.int en), .val (.int fw), .val (.int lw), .val (.int pk), .val (.int wd), .val (.int bt), .val (.long bits), .second, .unset, .unset, .unset] [(.long (((bits.toUInt64 >>> (bt &&& 0x3f).toInt64.toUInt64).toInt64) &&& (1 : Int64)))])) _
    refine XS.lconst X19.here hx rfl (hb hby at_113) ?_
    show Steps p.tables e below (T19.setTop (mkF m 114 #[.val (.int s0), .val (.int e0_), .val (.int w0), .val (.int b0), .val (.int st), .val (.int ln), .val (.int en), .val (.int fw), .val (.int lw), .val (.int pk), .val (.int wd), .val (.int bt), .val (.long bits), .second, .unset, .unset, .unset] [(.long (0 : Int64)), (.long (((bits.toUInt64 >>> (bt &&& 0x3f).toInt64.toUInt64).toInt64) &&& (1 : Int64)))])) _
    refine XT.lcmp X19.here hx rfl (hb hby at_114) rfl ?_
    exact kt
  obtain ⟨ac, h_ac⟩ : ∃ z : Int32, z = (if (((bits.toUInt64 >>> (bt &&& 0x3f).toInt64.toUInt64).toInt64) &&& (1 : Int64)) = (0 : Int64) then (0 : Int32) else (1 : Int32)) := ⟨_, rfl⟩
  have pre24 : ∀ t, Steps p.tables e below (T19.setTop (mkF m 123 #[.val (.int s0), .val (.int e0_), .val (.int w0), .val (.int b0), .val (.int st), .val (.int ln), .val (.int en), .val (.int fw), .val (.int lw), .val (.int pk), .val (.int wd), .val (.int bt), .val (.long bits), .second, .unset, .unset, .unset] [(.int ac)])) t → Steps p.tables e below (s₁.setTop (entryFrame m #[(.int s0), (.int e0_), (.int w0), (.int b0)] maxLocals)) t := by
    intro t kt
    refine pre22 _ ?_
    by_cases hc115_23 : (((bits.toUInt64 >>> (bt &&& 0x3f).toInt64.toUInt64).toInt64) &&& (1 : Int64)) = (0 : Int64)
    · skip
      have q_ac : ac = (0 : Int32) := by rw [h_ac, if_pos hc115_23]
      rw [q_ac] at kt
      show Steps p.tables e below (T19.setTop (mkF m 115 #[.val (.int s0), .val (.int e0_), .val (.int w0), .val (.int b0), .val (.int st), .val (.int ln), .val (.int en), .val (.int fw), .val (.int lw), .val (.int pk), .val (.int wd), .val (.int bt), .val (.long bits), .second, .unset, .unset, .unset] [(.int (XT.cmpL (((bits.toUInt64 >>> (bt &&& 0x3f).toInt64.toUInt64).toInt64) &&& (1 : Int64)) (0 : Int64)))])) _
      refine XS.ifYes X19.here hx rfl (pc0 := 115) (pc' := 122) rfl (hb hby at_115) rfl (XT.ll_eq_t hc115_23) (by decide) (by decide) ?_
      show Steps p.tables e below (T19.setTop (mkF m 122 #[.val (.int s0), .val (.int e0_), .val (.int w0), .val (.int b0), .val (.int st), .val (.int ln), .val (.int en), .val (.int fw), .val (.int lw), .val (.int pk), .val (.int wd), .val (.int bt), .val (.long bits), .second, .unset, .unset, .unset] [])) _
      refine XS.iconst X19.here hx rfl (hb hby at_122) ?_
      exact kt
    · skip
      have q_ac : ac = (1 : Int32) := by rw [h_ac, if_neg hc115_23]
      rw [q_ac] at kt
      show Steps p.tables e below (T19.setTop (mkF m 115 #[.val (.int s0), .val (.int e0_), .val (.int w0), .val (.int b0), .val (.int st), .val (.int ln), .val (.int en), .val (.int fw), .val (.int lw), .val (.int pk), .val (.int wd), .val (.int bt), .val (.long bits), .second, .unset, .unset, .unset] [(.int (XT.cmpL (((bits.toUInt64 >>> (bt &&& 0x3f).toInt64.toUInt64).toInt64) &&& (1 : Int64)) (0 : Int64)))])) _
      refine XS.ifNo X19.here hx rfl (hb hby at_115) rfl (XT.ll_eq_f hc115_23) ?_
      show Steps p.tables e below (T19.setTop (mkF m 118 #[.val (.int s0), .val (.int e0_), .val (.int w0), .val (.int b0), .val (.int st), .val (.int ln), .val (.int en), .val (.int fw), .val (.int lw), .val (.int pk), .val (.int wd), .val (.int bt), .val (.long bits), .second, .unset, .unset, .unset] [])) _
      refine XS.iconst X19.here hx rfl (hb hby at_118) ?_
      show Steps p.tables e below (T19.setTop (mkF m 119 #[.val (.int s0), .val (.int e0_), .val (.int w0), .val (.int b0), .val (.int st), .val (.int ln), .val (.int en), .val (.int fw), .val (.int lw), .val (.int pk), .val (.int wd), .val (.int bt), .val (.long bits), .second, .unset, .unset, .unset] [(.int (1 : Int32))])) _
      refine XS.goto X19.here hx rfl (pc0 := 119) (pc' := 123) rfl (hb hby at_119) (by decide) (by decide) ?_
      exact kt
  have pre25 : ∀ t, Steps p.tables e below (T19.setTop (mkF m 133 #[.val (.int s0), .val (.int e0_), .val (.int w0), .val (.int b0), .val (.int st), .val (.int ln), .val (.int en), .val (.int fw), .val (.int lw), .val (.int pk), .val (.int wd), .val (.int bt), .val (.long bits), .second, .val (.int ac), .unset, .unset] [(.int ((wd * (64 : Int32)) + bt))])) t → Steps p.tables e below (s₁.setTop (entryFrame m #[(.int s0), (.int e0_), (.int w0), (.int b0)] maxLocals)) t := by
    intro t kt
    refine pre24 _ ?_
    show Steps p.tables e below (T19.setTop (mkF m 123 #[.val (.int s0), .val (.int e0_), .val (.int w0), .val (.int b0), .val (.int st), .val (.int ln), .val (.int en), .val (.int fw), .val (.int lw), .val (.int pk), .val (.int wd), .val (.int bt), .val (.long bits), .second, .unset, .unset, .unset] [(.int ac)])) _
    refine XS.istore X19.here hx rfl (hb hby at_123) rfl (l' := #[.val (.int s0), .val (.int e0_), .val (.int w0), .val (.int b0), .val (.int st), .val (.int ln), .val (.int en), .val (.int fw), .val (.int lw), .val (.int pk), .val (.int wd), .val (.int bt), .val (.long bits), .second, .val (.int ac), .unset, .unset]) rfl ?_
    show Steps p.tables e below (T19.setTop (mkF m 125 #[.val (.int s0), .val (.int e0_), .val (.int w0), .val (.int b0), .val (.int st), .val (.int ln), .val (.int en), .val (.int fw), .val (.int lw), .val (.int pk), .val (.int wd), .val (.int bt), .val (.long bits), .second, .val (.int ac), .unset, .unset] [])) _
    refine XS.iload X19.here hx rfl (hb hby at_125) rfl ?_
    show Steps p.tables e below (T19.setTop (mkF m 127 #[.val (.int s0), .val (.int e0_), .val (.int w0), .val (.int b0), .val (.int st), .val (.int ln), .val (.int en), .val (.int fw), .val (.int lw), .val (.int pk), .val (.int wd), .val (.int bt), .val (.long bits), .second, .val (.int ac), .unset, .unset] [(.int wd)])) _
    refine XS.bipush X19.here hx rfl (hb hby at_127) ?_
    show Steps p.tables e below (T19.setTop (mkF m 129 #[.val (.int s0), .val (.int e0_), .val (.int w0), .val (.int b0), .val (.int st), .val (.int ln), .val (.int en), .val (.int fw), .val (.int lw), .val (.int pk), .val (.int wd), .val (.int bt), .val (.long bits), .second, .val (.int ac), .unset, .unset] [(.int (64 : Int32)), (.int wd)])) _
    refine XS.imul X19.here hx rfl (hb hby at_129) rfl ?_
    show Steps p.tables e below (T19.setTop (mkF m 130 #[.val (.int s0), .val (.int e0_), .val (.int w0), .val (.int b0), .val (.int st), .val (.int ln), .val (.int en), .val (.int fw), .val (.int lw), .val (.int pk), .val (.int wd), .val (.int bt), .val (.long bits), .second, .val (.int ac), .unset, .unset] [(.int (wd * (64 : Int32)))])) _
    refine XS.iload X19.here hx rfl (hb hby at_130) rfl ?_
    show Steps p.tables e below (T19.setTop (mkF m 132 #[.val (.int s0), .val (.int e0_), .val (.int w0), .val (.int b0), .val (.int st), .val (.int ln), .val (.int en), .val (.int fw), .val (.int lw), .val (.int pk), .val (.int wd), .val (.int bt), .val (.long bits), .second, .val (.int ac), .unset, .unset] [(.int bt), (.int (wd * (64 : Int32)))])) _
    refine XS.iadd X19.here hx rfl (hb hby at_132) rfl ?_
    exact kt
  obtain ⟨va, h_va⟩ : ∃ z : Int32, z = ((wd * (64 : Int32)) + bt) := ⟨_, rfl⟩
  have pre26 : ∀ t, Steps p.tables e below (T19.setTop (mkF m 133 #[.val (.int s0), .val (.int e0_), .val (.int w0), .val (.int b0), .val (.int st), .val (.int ln), .val (.int en), .val (.int fw), .val (.int lw), .val (.int pk), .val (.int wd), .val (.int bt), .val (.long bits), .second, .val (.int ac), .unset, .unset] [(.int va)])) t → Steps p.tables e below (s₁.setTop (entryFrame m #[(.int s0), (.int e0_), (.int w0), (.int b0)] maxLocals)) t := by
    intro t kt
    rw [h_va] at kt
    exact pre25 _ kt
  have pre27 : ∀ t, Steps p.tables e below (T19.setTop (mkF m 139 #[.val (.int s0), .val (.int e0_), .val (.int w0), .val (.int b0), .val (.int st), .val (.int ln), .val (.int en), .val (.int fw), .val (.int lw), .val (.int pk), .val (.int wd), .val (.int bt), .val (.long bits), .second, .val (.int ac), .val (.int va), .unset] [(.int va), (.int st)])) t → Steps p.tables e below (s₁.setTop (entryFrame m #[(.int s0), (.int e0_), (.int w0), (.int b0)] maxLocals)) t := by
    intro t kt
    refine pre26 _ ?_
    show Steps p.tables e below (T19.setTop (mkF m 133 #[.val (.int s0), .val (.int e0_), .val (.int w0), .val (.int b0), .val (.int st), .val (.int ln), .val (.int en), .val (.int fw), .val (.int lw), .val (.int pk), .val (.int wd), .val (.int bt), .val (.long bits), .second, .val (.int ac), .unset, .unset] [(.int va)])) _
    refine XS.istore X19.here hx rfl (hb hby at_133) rfl (l' := #[.val (.int s0), .val (.int e0_), .val (.int w0), .val (.int b0), .val (.int st), .val (.int ln), .val (.int en), .val (.int fw), .val (.int lw), .val (.int pk), .val (.int wd), .val (.int bt), .val (.long bits), .second, .val (.int ac), .val (.int va), .unset]) rfl ?_
    show Steps p.tables e below (T19.setTop (mkF m 135 #[.val (.int s0), .val (.int e0_), .val (.int w0), .val (.int b0), .val (.int st), .val (.int ln), .val (.int en), .val (.int fw), .val (.int lw), .val (.int pk), .val (.int wd), .val (.int bt), .val (.long bits), .second, .val (.int ac), .val (.int va), .unset] [])) _
    refine XS.iload X19.here hx rfl (hb hby at_135) rfl ?_
    show Steps p.tables e below (T19.setTop (mkF m 137 #[.val (.int s0), .val (.int e0_), .val (.int w0), .val (.int b0), .val (.int st), .val (.int ln), .val (.int en), .val (.int fw), .val (.int lw), .val (.int pk), .val (.int wd), .val (.int bt), .val (.long bits), .second, .val (.int ac), .val (.int va), .unset] [(.int st)])) _
    refine XS.iload X19.here hx rfl (hb hby at_137) rfl ?_
    exact kt
  obtain ⟨ex, h_ex⟩ : ∃ z : Int32, z = (if va < st then (0 : Int32) else (if va < en then (1 : Int32) else (0 : Int32))) := ⟨_, rfl⟩
  have pre30 : ∀ t, Steps p.tables e below (T19.setTop (mkF m 154 #[.val (.int s0), .val (.int e0_), .val (.int w0), .val (.int b0), .val (.int st), .val (.int ln), .val (.int en), .val (.int fw), .val (.int lw), .val (.int pk), .val (.int wd), .val (.int bt), .val (.long bits), .second, .val (.int ac), .val (.int va), .unset] [(.int ex)])) t → Steps p.tables e below (s₁.setTop (entryFrame m #[(.int s0), (.int e0_), (.int w0), (.int b0)] maxLocals)) t := by
    intro t kt
    refine pre27 _ ?_
    by_cases hc139_28 : va < st
    · skip
      have q_ex : ex = (0 : Int32) := by rw [h_ex, if_pos hc139_28]
      rw [q_ex] at kt
      show Steps p.tables e below (T19.setTop (mkF m 139 #[.val (.int s0), .val (.int e0_), .val (.int w0), .val (.int b0), .val (.int st), .val (.int ln), .val (.int en), .val (.int fw), .val (.int lw), .val (.int pk), .val (.int wd), .val (.int bt), .val (.long bits), .second, .val (.int ac), .val (.int va), .unset] [(.int va), (.int st)])) _
      refine XS.icmpYes X19.here hx rfl (pc0 := 139) (pc' := 153) rfl (hb hby at_139) rfl (XT.ii_gt_t hc139_28) (by decide) (by decide) ?_
      show Steps p.tables e below (T19.setTop (mkF m 153 #[.val (.int s0), .val (.int e0_), .val (.int w0), .val (.int b0), .val (.int st), .val (.int ln), .val (.int en), .val (.int fw), .val (.int lw), .val (.int pk), .val (.int wd), .val (.int bt), .val (.long bits), .second, .val (.int ac), .val (.int va), .unset] [])) _
      refine XS.iconst X19.here hx rfl (hb hby at_153) ?_
      exact kt
    · skip
      show Steps p.tables e below (T19.setTop (mkF m 139 #[.val (.int s0), .val (.int e0_), .val (.int w0), .val (.int b0), .val (.int st), .val (.int ln), .val (.int en), .val (.int fw), .val (.int lw), .val (.int pk), .val (.int wd), .val (.int bt), .val (.long bits), .second, .val (.int ac), .val (.int va), .unset] [(.int va), (.int st)])) _
      refine XS.icmpNo X19.here hx rfl (hb hby at_139) rfl (XT.ii_gt_f hc139_28) ?_
      show Steps p.tables e below (T19.setTop (mkF m 142 #[.val (.int s0), .val (.int e0_), .val (.int w0), .val (.int b0), .val (.int st), .val (.int ln), .val (.int en), .val (.int fw), .val (.int lw), .val (.int pk), .val (.int wd), .val (.int bt), .val (.long bits), .second, .val (.int ac), .val (.int va), .unset] [])) _
      refine XS.iload X19.here hx rfl (hb hby at_142) rfl ?_
      show Steps p.tables e below (T19.setTop (mkF m 144 #[.val (.int s0), .val (.int e0_), .val (.int w0), .val (.int b0), .val (.int st), .val (.int ln), .val (.int en), .val (.int fw), .val (.int lw), .val (.int pk), .val (.int wd), .val (.int bt), .val (.long bits), .second, .val (.int ac), .val (.int va), .unset] [(.int va)])) _
      refine XS.iload X19.here hx rfl (hb hby at_144) rfl ?_
      by_cases hc146_29 : va < en
      · skip
        have q_ex : ex = (1 : Int32) := by rw [h_ex, if_neg hc139_28, if_pos hc146_29]
        rw [q_ex] at kt
        show Steps p.tables e below (T19.setTop (mkF m 146 #[.val (.int s0), .val (.int e0_), .val (.int w0), .val (.int b0), .val (.int st), .val (.int ln), .val (.int en), .val (.int fw), .val (.int lw), .val (.int pk), .val (.int wd), .val (.int bt), .val (.long bits), .second, .val (.int ac), .val (.int va), .unset] [(.int en), (.int va)])) _
        refine XS.icmpNo X19.here hx rfl (hb hby at_146) rfl (XT.ii_ge_f hc146_29) ?_
        show Steps p.tables e below (T19.setTop (mkF m 149 #[.val (.int s0), .val (.int e0_), .val (.int w0), .val (.int b0), .val (.int st), .val (.int ln), .val (.int en), .val (.int fw), .val (.int lw), .val (.int pk), .val (.int wd), .val (.int bt), .val (.long bits), .second, .val (.int ac), .val (.int va), .unset] [])) _
        refine XS.iconst X19.here hx rfl (hb hby at_149) ?_
        show Steps p.tables e below (T19.setTop (mkF m 150 #[.val (.int s0), .val (.int e0_), .val (.int w0), .val (.int b0), .val (.int st), .val (.int ln), .val (.int en), .val (.int fw), .val (.int lw), .val (.int pk), .val (.int wd), .val (.int bt), .val (.long bits), .second, .val (.int ac), .val (.int va), .unset] [(.int (1 : Int32))])) _
        refine XS.goto X19.here hx rfl (pc0 := 150) (pc' := 154) rfl (hb hby at_150) (by decide) (by decide) ?_
        exact kt
      · skip
        have q_ex : ex = (0 : Int32) := by rw [h_ex, if_neg hc139_28, if_neg hc146_29]
        rw [q_ex] at kt
        show Steps p.tables e below (T19.setTop (mkF m 146 #[.val (.int s0), .val (.int e0_), .val (.int w0), .val (.int b0), .val (.int st), .val (.int ln), .val (.int en), .val (.int fw), .val (.int lw), .val (.int pk), .val (.int wd), .val (.int bt), .val (.long bits), .second, .val (.int ac), .val (.int va), .unset] [(.int en), (.int va)])) _
        refine XS.icmpYes X19.here hx rfl (pc0 := 146) (pc' := 153) rfl (hb hby at_146) rfl (XT.ii_ge_t hc146_29) (by decide) (by decide) ?_
        show Steps p.tables e below (T19.setTop (mkF m 153 #[.val (.int s0), .val (.int e0_), .val (.int w0), .val (.int b0), .val (.int st), .val (.int ln), .val (.int en), .val (.int fw), .val (.int lw), .val (.int pk), .val (.int wd), .val (.int bt), .val (.long bits), .second, .val (.int ac), .val (.int va), .unset] [])) _
        refine XS.iconst X19.here hx rfl (hb hby at_153) ?_
        exact kt
  have pre31 : ∀ t, Steps p.tables e below (T19.setTop (mkF m 160 #[.val (.int s0), .val (.int e0_), .val (.int w0), .val (.int b0), .val (.int st), .val (.int ln), .val (.int en), .val (.int fw), .val (.int lw), .val (.int pk), .val (.int wd), .val (.int bt), .val (.long bits), .second, .val (.int ac), .val (.int va), .val (.int ex)] [(.int ex), (.int ac)])) t → Steps p.tables e below (s₁.setTop (entryFrame m #[(.int s0), (.int e0_), (.int w0), (.int b0)] maxLocals)) t := by
    intro t kt
    refine pre30 _ ?_
    show Steps p.tables e below (T19.setTop (mkF m 154 #[.val (.int s0), .val (.int e0_), .val (.int w0), .val (.int b0), .val (.int st), .val (.int ln), .val (.int en), .val (.int fw), .val (.int lw), .val (.int pk), .val (.int wd), .val (.int bt), .val (.long bits), .second, .val (.int ac), .val (.int va), .unset] [(.int ex)])) _
    refine XS.istore X19.here hx rfl (hb hby at_154) rfl (l' := #[.val (.int s0), .val (.int e0_), .val (.int w0), .val (.int b0), .val (.int st), .val (.int ln), .val (.int en), .val (.int fw), .val (.int lw), .val (.int pk), .val (.int wd), .val (.int bt), .val (.long bits), .second, .val (.int ac), .val (.int va), .val (.int ex)]) rfl ?_
    show Steps p.tables e below (T19.setTop (mkF m 156 #[.val (.int s0), .val (.int e0_), .val (.int w0), .val (.int b0), .val (.int st), .val (.int ln), .val (.int en), .val (.int fw), .val (.int lw), .val (.int pk), .val (.int wd), .val (.int bt), .val (.long bits), .second, .val (.int ac), .val (.int va), .val (.int ex)] [])) _
    refine XS.iload X19.here hx rfl (hb hby at_156) rfl ?_
    show Steps p.tables e below (T19.setTop (mkF m 158 #[.val (.int s0), .val (.int e0_), .val (.int w0), .val (.int b0), .val (.int st), .val (.int ln), .val (.int en), .val (.int fw), .val (.int lw), .val (.int pk), .val (.int wd), .val (.int bt), .val (.long bits), .second, .val (.int ac), .val (.int va), .val (.int ex)] [(.int ac)])) _
    refine XS.iload X19.here hx rfl (hb hby at_158) rfl ?_
    exact kt
  by_cases hc160_32 : ac = ex
  · skip
    have pre33 : ∀ t, Steps p.tables e below (T19.setTop (mkF m 168 #[.val (.int s0), .val (.int e0_), .val (.int w0), .val (.int b0), .val (.int st), .val (.int ln), .val (.int en), .val (.int fw), .val (.int lw), .val (.int pk), .val (.int wd), .val (.int bt), .val (.long bits), .second, .val (.int ac), .val (.int va), .val (.int ex)] [(.int (1 : Int32))])) t → Steps p.tables e below (s₁.setTop (entryFrame m #[(.int s0), (.int e0_), (.int w0), (.int b0)] maxLocals)) t := by
      intro t kt
      refine pre31 _ ?_
      show Steps p.tables e below (T19.setTop (mkF m 160 #[.val (.int s0), .val (.int e0_), .val (.int w0), .val (.int b0), .val (.int st), .val (.int ln), .val (.int en), .val (.int fw), .val (.int lw), .val (.int pk), .val (.int wd), .val (.int bt), .val (.long bits), .second, .val (.int ac), .val (.int va), .val (.int ex)] [(.int ex), (.int ac)])) _
      refine XS.icmpNo X19.here hx rfl (hb hby at_160) rfl (XT.ii_ne_f hc160_32) ?_
      show Steps p.tables e below (T19.setTop (mkF m 163 #[.val (.int s0), .val (.int e0_), .val (.int w0), .val (.int b0), .val (.int st), .val (.int ln), .val (.int en), .val (.int fw), .val (.int lw), .val (.int pk), .val (.int wd), .val (.int bt), .val (.long bits), .second, .val (.int ac), .val (.int va), .val (.int ex)] [])) _
      refine XS.iconst X19.here hx rfl (hb hby at_163) ?_
      show Steps p.tables e below (T19.setTop (mkF m 164 #[.val (.int s0), .val (.int e0_), .val (.int w0), .val (.int b0), .val (.int st), .val (.int ln), .val (.int en), .val (.int fw), .val (.int lw), .val (.int pk), .val (.int wd), .val (.int bt), .val (.long bits), .second, .val (.int ac), .val (.int va), .val (.int ex)] [(.int (1 : Int32))])) _
      refine XS.goto X19.here hx rfl (pc0 := 164) (pc' := 168) rfl (hb hby at_164) (by decide) (by decide) ?_
      exact kt
    obtain ⟨fs, hr, hrun, hended, hW, hsame⟩ := X19.leave (v := some (.int (1 : Int32))) (fun h => by rw [Bd.returns] at h; cases h)
    refine ⟨_, _, pre33 _ ?_, hrun, hended, _, _, rfl, ?_, ⟨_, rfl⟩, hW, hsame.mono (by decide) (by decide)⟩
    · show Steps p.tables e below (T19.setTop (mkF m 168 #[.val (.int s0), .val (.int e0_), .val (.int w0), .val (.int b0), .val (.int st), .val (.int ln), .val (.int en), .val (.int fw), .val (.int lw), .val (.int pk), .val (.int wd), .val (.int bt), .val (.long bits), .second, .val (.int ac), .val (.int va), .val (.int ex)] [(.int (1 : Int32))])) _
      exact retN X19 hx (t := .boolean) Bd.returns (by simp) (hb hby at_168) hr
    · show Q0 Z s0 e0_ w0 b0 h0 n0 _ T19.heap _
      rw [hE19]
      exact ⟨rfl, N19⟩
  · skip
    exact absurd (own_law s0 e0_ w0 b0 st ln en fw lw pk wd bt bits ac va ex h_st h_ln h_en h_fw h_lw h_pk h_wd h_bt h_bits h_ac h_va h_ex) hc160_32
set_option maxRecDepth 65536 in
set_option maxHeartbeats 40000000 in
theorem comes_1 {Post : Tables → Env → Array Value → State → Outcome → State → Prop} (hpost : ∀ tb e args s v u, (limb_1_1.after args s (.returned v) u = true ∧ limb_1_2.after args s (.returned v) u = true ∧ True) → FrameEnd s (.returned v) u (Jvm.fieldLocs frame_1_writes args s ++ Jvm.arrayLocs frame_1_arrays args s ++ Jvm.staticLocs frame_1_statics s) 0 0 → Post tb e args s (.returned v) u) :
    ArmFor flags0 classFile x code maxLocals ret World_1 tables_1 room_1 Calls_1 rest_1 Pre_1 Post := by
  intro l hfl _ _ p e ha hc hk s m args below hf hA hF happ hP
  obtain ⟨hcalls, hrest, hpre⟩ := hP
  obtain ⟨-, -, -, hnamed, -, -, -, hat⟩ := (Spec.applies_iff hf).mp happ
  obtain ⟨hg, hn⟩ := and_e (Cond.before_iff.mp (show (Jvm.Cond.and given_1 narrow_1).before args s = true from hpre))
  obtain ⟨g1, g2⟩ := and_e hg
  obtain ⟨g3, g4⟩ := and_e g2
  obtain ⟨g5, g6⟩ := and_e g4
  obtain ⟨g7, g8⟩ := and_e g6
  obtain ⟨w0, w1, w2, w3, rfl⟩ : ∃ w0 w1 w2 w3 : Value, args = #[w0, w1, w2, w3] := by
    have hs : args.size = 4 := by simpa [Cond.value, given_1] using g1
    obtain ⟨L⟩ := args
    match L, hs with
    | [w0, w1, w2, w3], _ => exact ⟨w0, w1, w2, w3, rfl⟩
  have hw := fun d (hd : d ∈ tables_1) => atoms_spec (ws := Jvm.Cond.code x code maxLocals ret :: tables_1) hat d (List.mem_cons_of_mem _ hd)
  have hfit : Fit s := fun {y c} hc i hi => by
    obtain ⟨ha, rfl⟩ := Array.getElem?_eq_some_iff.mp hc
    have q := List.all_eq_true.mp ((Array.all_eq_true_iff_forall_mem.mp hF) _ (Array.getElem_mem ha)) i (List.mem_range.mpr hi)
    simpa [Array.getElem?_eq_getElem hi] using q
  obtain ⟨i0, ei0⟩ := is_v g3
  obtain rfl : w0 = (.int i0) := Option.some.inj ei0
  obtain ⟨i1, ei1⟩ := is_v g5
  obtain rfl : w1 = (.int i1) := Option.some.inj ei1
  obtain ⟨i2, ei2⟩ := is_v g7
  obtain rfl : w2 = (.int i2) := Option.some.inj ei2
  obtain ⟨i3, ei3⟩ := is_v g8
  obtain rfl : w3 = (.int i3) := Option.some.inj ei3
  obtain ⟨n, o, h1, h2, h3, _, L, rfl, ⟨rfl, N⟩, hq⟩ := rm0 l s _ hw tables_1 i0 i1 i2 i3 s.heap s.heap.size (Nat.le_refl _) p e ha hc hk s m _ below hf ((Spec.applies_iff_loose hf).mp happ).1 ⟨rfl, State.Warmed39.refl s, rfl⟩ trivial
  refine ⟨n, _, h1, h2, h3, hpost _ _ _ _ _ _ ⟨Cond.after_iff.mpr rfl, Cond.after_iff.mpr (eq_i res_at (Term.int_eval (1)) rfl), trivial⟩ ⟨hq.1, hq.2.1, (hq.2.2.sift fun y hy => Or.inr (N y hy)).mono (by decide) (by decide)⟩⟩
theorem main_1_1 : Claimed_1_1 := comes_1 fun _ _ _ _ _ _ h hF => ⟨h.1, hF⟩
theorem main_1_2 : Claimed_1_2 := comes_1 fun _ _ _ _ _ _ h hF => ⟨h.2.1, hF⟩
end Jvm.Pilot.@@N@@
namespace Jvm.Pilot.@@N@@
open Jvm Jvm.ClassFile Sem Op Lib Jvm.Free Jvm.Stand Jvm.Pilot.@@N@@.Jvm.D
/-! MADE BY PROGRAM (witnessworld.py) out of the Statement's table words and the real class files: 11 classes; the members and pool entries that the words name. The judged class is class 1, her method 1. -/
namespace start1
open Jvm.ClassFile
def u (s : String) : CpInfo := .utf8 (stringToUtf16 s)
/-- a pool by its gaps: so many unusable entries, then the entry; so many at the end -/
def gap : Nat → List CpInfo → List CpInfo
  | 0, r => r
  | n + 1, r => .unusable :: gap n r
def poolList (es : List (Nat × CpInfo)) (last : Nat) : List CpInfo := es.foldr (fun e r => gap e.1 (e.2 :: r)) (gap last [])
def pool (es : List (Nat × CpInfo)) (last : Nat) : Array CpInfo := ⟨poolList es last⟩
def fileOf (pool : Array CpInfo) (this : Nat) (attrs : Array Attribute := #[]) (ms : Array MethodInfo := #[]) (fl : Nat := 33) (sup : Nat := 0) (ifs : Array Nat := #[]) (fds : Array FieldInfo := #[]) : ClassFile where
  minorVersion := 0
  majorVersion := 65
  constantPool := pool
  accessFlags := fl
  thisClass := this
  superClass := sup
  interfaces := ifs
  fields := fds
  methods := ms
  attributes := attrs
def plain (name : String) (sup : Option ClassId) : Class where
  name := name
  kind := .ordinary
  loader := none
  accessFlags := 33
  super := sup
  interfaces := #[]
  cf := none
  fields := #[]
  methods := #[]
  instanceTypes := #[]
  staticTypes := #[]
  resolved := #[]
  callSites := []
  init := .initialized
  statics := none
  mirror := none

def pool0 : Array CpInfo := pool [(5, u "<init>"), (0, u "()V"), (1, .class_ 10), (1, u "java/lang/Object")] 113

def k0m0 : Method := { name := "<init>", desc := "()V", sig := { parameters := [], returnType := none }, accessFlags := 1, code := none }
/-- java/lang/Object -/
def k0 : Class := { plain "java/lang/Object" none with
  accessFlags := 33
  interfaces := #[]
  cf := some (fileOf pool0 8 #[] #[{ accessFlags := 1, nameIndex := 5, descriptorIndex := 6, attributes := #[] }] 33 0 #[] #[])
  fields := #[]
  methods := #[k0m0]
  instanceTypes := #[]
  staticTypes := #[]
  resolved := Array.replicate 124 none
  statics := none }

def pool1 : Array CpInfo := pool [(2, .class_ 4), (1, u "java/lang/Object"), (0, u "<init>"), (0, u "()V"), (0, .integer 65535), (0, .integer 2147483647), (0, .integer 65536), (0, .methodref 11 12), (0, .class_ 13), (0, .nameAndType 14 15), (0, u "com/example/bitweight/bitweight/chunk/WordChunk"), (0, u "bitsInRange"), (0, u "(III)J"), (0, .class_ 17), (0, u "com/example/bitweight/bitweight/chunk/WordChunkBitsInRangePinLaw"), (2, u "law"), (0, u "(IIII)Z")] 3

def k1m0 : Method := { name := "<init>", desc := "()V", sig := { parameters := [], returnType := none }, accessFlags := 2, code := none }
def k1c1 : Code := { maxStack := 4, maxLocals := 17, code := code, exceptionTable := #[], attributes := #[] }
def k1m1 : Method := { name := "law", desc := "(IIII)Z", sig := { parameters := [.int, .int, .int, .int], returnType := some .boolean }, accessFlags := 9, code := some k1c1 }
/-- com/example/bitweight/bitweight/chunk/WordChunkBitsInRangePinLaw -/
def k1 : Class := { plain "com/example/bitweight/bitweight/chunk/WordChunkBitsInRangePinLaw" (some 0) with
  accessFlags := 49
  interfaces := #[]
  cf := some (fileOf pool1 16 #[] #[{ accessFlags := 2, nameIndex := 5, descriptorIndex := 6, attributes := #[] }, { accessFlags := 9, nameIndex := 20, descriptorIndex := 21, attributes := #[] }] 49 2 #[] #[])
  fields := #[]
  methods := #[k1m0, k1m1]
  instanceTypes := #[]
  staticTypes := #[]
  resolved := Array.replicate 25 none
  statics := none }

def pool2 : Array CpInfo := pool [(6, .class_ 8), (1, u "java/lang/Object"), (0, u "<init>"), (0, u "()V"), (18, .class_ 31), (1, u "com/example/bitweight/bitweight/chunk/Chunk"), (3, .class_ 37), (1, u "com/example/bitweight/bitweight/chunk/Chunk$Form"), (235, u "VALUES"), (0, u "I"), (1, u "NO_RUN"), (0, u "J"), (0, u "SLACK"), (1, u "MANY_RUNS"), (1, u "INTO_WORDS_FROM"), (1, u "BYTES_A_VALUE_ADDED"), (1, u "VALUES_ADDED_AT_LEAST"), (0, u "AND"), (0, u "OR"), (1, u "XOR"), (1, u "AND_NOT"), (1, u "ONLY_THEIRS"), (62, .class_ 358), (0, u "com/example/bitweight/bitweight/chunk/Chunk$HeldConsumer")] 23

def k2m0 : Method := { name := "<init>", desc := "()V", sig := { parameters := [], returnType := none }, accessFlags := 0, code := none }
/-- com/example/bitweight/bitweight/chunk/Chunk -/
def k2 : Class := { plain "com/example/bitweight/bitweight/chunk/Chunk" (some 0) with
  accessFlags := 1057
  interfaces := #[]
  cf := some (fileOf pool2 29 #[.nestMembers #[35, 357]] #[{ accessFlags := 0, nameIndex := 9, descriptorIndex := 10, attributes := #[] }] 1057 6 #[] #[{ accessFlags := 25, nameIndex := 273, descriptorIndex := 274, attributes := #[] }, { accessFlags := 25, nameIndex := 276, descriptorIndex := 277, attributes := #[] }, { accessFlags := 26, nameIndex := 278, descriptorIndex := 274, attributes := #[] }, { accessFlags := 24, nameIndex := 280, descriptorIndex := 274, attributes := #[] }, { accessFlags := 24, nameIndex := 282, descriptorIndex := 274, attributes := #[] }, { accessFlags := 26, nameIndex := 284, descriptorIndex := 274, attributes := #[] }, { accessFlags := 26, nameIndex := 286, descriptorIndex := 274, attributes := #[] }, { accessFlags := 24, nameIndex := 287, descriptorIndex := 274, attributes := #[] }, { accessFlags := 24, nameIndex := 288, descriptorIndex := 274, attributes := #[] }, { accessFlags := 24, nameIndex := 290, descriptorIndex := 274, attributes := #[] }, { accessFlags := 24, nameIndex := 292, descriptorIndex := 274, attributes := #[] }, { accessFlags := 24, nameIndex := 294, descriptorIndex := 274, attributes := #[] }])
  fields := #[{ name := "VALUES", type := .int, accessFlags := 25, slot := 0, constantValue := 0 }, { name := "NO_RUN", type := .long, accessFlags := 25, slot := 1, constantValue := 0 }, { name := "SLACK", type := .int, accessFlags := 26, slot := 2, constantValue := 0 }, { name := "MANY_RUNS", type := .int, accessFlags := 24, slot := 3, constantValue := 0 }, { name := "INTO_WORDS_FROM", type := .int, accessFlags := 24, slot := 4, constantValue := 0 }, { name := "BYTES_A_VALUE_ADDED", type := .int, accessFlags := 26, slot := 5, constantValue := 0 }, { name := "VALUES_ADDED_AT_LEAST", type := .int, accessFlags := 26, slot := 6, constantValue := 0 }, { name := "AND", type := .int, accessFlags := 24, slot := 7, constantValue := 0 }, { name := "OR", type := .int, accessFlags := 24, slot := 8, constantValue := 0 }, { name := "XOR", type := .int, accessFlags := 24, slot := 9, constantValue := 0 }, { name := "AND_NOT", type := .int, accessFlags := 24, slot := 10, constantValue := 0 }, { name := "ONLY_THEIRS", type := .int, accessFlags := 24, slot := 11, constantValue := 0 }]
  methods := #[k2m0]
  instanceTypes := #[]
  staticTypes := #[.int, .long, .int, .int, .int, .int, .int, .int, .int, .int, .int, .int]
  resolved := Array.replicate 382 none
  statics := none }

def pool3 : Array CpInfo := pool [(1, .class_ 2), (0, u "com/example/bitweight/bitweight/chunk/WordEntries"), (0, .class_ 4), (0, u "java/lang/Object")] 11

/-- com/example/bitweight/bitweight/chunk/WordEntries -/
def k3 : Class := { plain "com/example/bitweight/bitweight/chunk/WordEntries" (some 0) with
  accessFlags := 1536
  interfaces := #[]
  cf := some (fileOf pool3 1 #[] #[] 1536 3 #[] #[])
  fields := #[]
  methods := #[]
  instanceTypes := #[]
  staticTypes := #[]
  resolved := Array.replicate 16 none
  statics := none }

def pool4 : Array CpInfo := pool [(1, .class_ 2), (0, u "com/example/bitweight/bitweight/chunk/Chunk"), (6, .class_ 10), (0, u "com/example/bitweight/bitweight/chunk/WordChunk"), (2, u "<init>"), (3, u "()V"), (2, u "words"), (0, u "[J"), (2, u "cardinality"), (0, u "I"), (2, u "runs"), (28, .long 18446744073709551615), (15, u "bitsInRange"), (0, u "(III)J"), (13, .class_ 90), (1, u "com/example/bitweight/bitweight/chunk/WordEntries"), (34, u "WORDS"), (72, u "LISTS"), (0, u "Ljava/lang/ThreadLocal;"), (101, u "BYTES"), (3, u "UNCOUNTED"), (1, u "STRETCH"), (1, u "UNROLLED"), (1, u "PACE"), (0, u "LIKELY_LISTED"), (1, u "LISTED_STRETCH"), (1, u "LISTED")] 87

def k4m0 : Method := { name := "<init>", desc := "()V", sig := { parameters := [], returnType := none }, accessFlags := 0, code := none }
def k4c1 : Code := { maxStack := 5, maxLocals := 5, code := prog_39_method_13_code, exceptionTable := #[], attributes := #[] }
def k4m1 : Method := { name := "bitsInRange", desc := "(III)J", sig := { parameters := [.int, .int, .int], returnType := some .long }, accessFlags := 8, code := some k4c1 }
/-- com/example/bitweight/bitweight/chunk/WordChunk -/
def k4 : Class := { plain "com/example/bitweight/bitweight/chunk/WordChunk" (some 2) with
  accessFlags := 48
  interfaces := #[3]
  cf := some (fileOf pool4 9 #[] #[{ accessFlags := 0, nameIndex := 13, descriptorIndex := 17, attributes := #[] }, { accessFlags := 8, nameIndex := 73, descriptorIndex := 74, attributes := #[] }] 48 1 #[88] #[{ accessFlags := 24, nameIndex := 301, descriptorIndex := 25, attributes := #[] }, { accessFlags := 24, nameIndex := 125, descriptorIndex := 25, attributes := #[] }, { accessFlags := 26, nameIndex := 305, descriptorIndex := 25, attributes := #[] }, { accessFlags := 26, nameIndex := 307, descriptorIndex := 25, attributes := #[] }, { accessFlags := 26, nameIndex := 309, descriptorIndex := 25, attributes := #[] }, { accessFlags := 26, nameIndex := 311, descriptorIndex := 25, attributes := #[] }, { accessFlags := 26, nameIndex := 312, descriptorIndex := 25, attributes := #[] }, { accessFlags := 26, nameIndex := 314, descriptorIndex := 25, attributes := #[] }, { accessFlags := 26, nameIndex := 316, descriptorIndex := 25, attributes := #[] }, { accessFlags := 26, nameIndex := 198, descriptorIndex := 199, attributes := #[] }, { accessFlags := 18, nameIndex := 20, descriptorIndex := 21, attributes := #[] }, { accessFlags := 2, nameIndex := 24, descriptorIndex := 25, attributes := #[] }, { accessFlags := 2, nameIndex := 28, descriptorIndex := 25, attributes := #[] }])
  fields := #[{ name := "BYTES", type := .int, accessFlags := 24, slot := 0, constantValue := 0 }, { name := "WORDS", type := .int, accessFlags := 24, slot := 1, constantValue := 0 }, { name := "UNCOUNTED", type := .int, accessFlags := 26, slot := 2, constantValue := 0 }, { name := "STRETCH", type := .int, accessFlags := 26, slot := 3, constantValue := 0 }, { name := "UNROLLED", type := .int, accessFlags := 26, slot := 4, constantValue := 0 }, { name := "PACE", type := .int, accessFlags := 26, slot := 5, constantValue := 0 }, { name := "LIKELY_LISTED", type := .int, accessFlags := 26, slot := 6, constantValue := 0 }, { name := "LISTED_STRETCH", type := .int, accessFlags := 26, slot := 7, constantValue := 0 }, { name := "LISTED", type := .int, accessFlags := 26, slot := 8, constantValue := 0 }, { name := "LISTS", type := (.object "java/lang/ThreadLocal"), accessFlags := 26, slot := 9, constantValue := 0 }, { name := "words", type := (.array .long), accessFlags := 18, slot := 0, constantValue := 0 }, { name := "cardinality", type := .int, accessFlags := 2, slot := 1, constantValue := 0 }, { name := "runs", type := .int, accessFlags := 2, slot := 2, constantValue := 0 }]
  methods := #[k4m0, k4m1]
  instanceTypes := #[(.array .long), .int, .int]
  staticTypes := #[.int, .int, .int, .int, .int, .int, .int, .int, .int, (.object "java/lang/ThreadLocal")]
  resolved := Array.replicate 404 none
  statics := none }

def pool5 : Array CpInfo := pool [(1, u "java/lang/Cloneable"), (0, .class_ 1), (0, u "java/lang/Object"), (0, .class_ 3)] 3

/-- java/lang/Cloneable -/
def k5 : Class := { plain "java/lang/Cloneable" (some 0) with
  accessFlags := 1537
  interfaces := #[]
  cf := some (fileOf pool5 2 #[] #[] 1537 4 #[] #[])
  fields := #[]
  methods := #[]
  instanceTypes := #[]
  staticTypes := #[]
  resolved := Array.replicate 8 none
  statics := none }

def pool6 : Array CpInfo := pool [(1, u "java/io/Serializable"), (0, .class_ 1), (0, u "java/lang/Object"), (0, .class_ 3)] 3

/-- java/io/Serializable -/
def k6 : Class := { plain "java/io/Serializable" (some 0) with
  accessFlags := 1537
  interfaces := #[]
  cf := some (fileOf pool6 2 #[] #[] 1537 4 #[] #[])
  fields := #[]
  methods := #[]
  instanceTypes := #[]
  staticTypes := #[]
  resolved := Array.replicate 8 none
  statics := none }

/-- the primitive byte -/
def k7 : Class := { plain "byte" none with kind := .primitive 'B', accessFlags := 0x411 }
/-- [B -/
def k8 : Class := { plain "[B" (some 0) with kind := .array 7 .byte, interfaces := #[5, 6], accessFlags := 1041 }

/-- the primitive int -/
def k9 : Class := { plain "int" none with kind := .primitive 'I', accessFlags := 0x411 }
/-- [I -/
def k10 : Class := { plain "[I" (some 0) with kind := .array 9 .int, interfaces := #[5, 6], accessFlags := 1041 }

def heap : Heap := #[]
def classes : Array Class := #[k0, k1, k2, k3, k4, k5, k6, k7, k8, k9, k10]
def interned : List (Array UInt16 × Addr) := []
def slotsUsed : Nat := 0
def theMethod : MethodId := ⟨1, 1⟩
def args0 : Array Value := #[.int 5, .int 6, .int 7, .int 8]
def aboutOver (below : List Frame) : State where
  vm := { classes := classes, interned := interned.toArray }
  heap := heap
  slotsUsed := slotsUsed
  threads := #[{ frames := .invoking theMethod args0 :: below }]
def below0 : List Frame := [.native { method := ⟨0, 0⟩, args := #[] }]
def about1 : State := aboutOver below0
def p0 : Program := .bare "" "" ""
def e0 : Env := launch0.env 0 0 0
theorem w_frames : about1.frames = Frame.invoking theMethod args0 :: below0 := rfl
set_option maxRecDepth 65536 in
theorem w_args : argsFit about1.vm theMethod args0 = true := by decide +kernel
set_option maxRecDepth 65536 in
theorem w_heap : heapFits about1 = true := by decide +kernel
set_option maxRecDepth 65536 in
theorem w_runnable : about1.curStatus? = some .runnable := by decide +kernel
set_option maxRecDepth 65536 in
theorem w_alone : about1.alone = true := by decide +kernel
set_option maxRecDepth 65536 in
theorem w_named : about1.methodNamed? x = some theMethod := by decide +kernel
set_option maxRecDepth 65536 in
theorem w_hears : about1.hears theMethod below0 = true := by decide +kernel
set_option maxRecDepth 65536 in
theorem w_ripe : about1.ripe theMethod args0 below0 = true := by decide +kernel
theorem w_running : about1.status = .running := rfl
set_option maxRecDepth 65536 in
theorem w_room : about1.hasRoom e0.platform room_1 = true :=
  launch0.hasRoom_least _ room_1 (by decide +kernel) (by decide +kernel) (by decide +kernel) (by decide +kernel) (by decide +kernel) (by decide +kernel)
theorem allAtoms_all (ts : List Jvm.Cond) (a : Array Jvm.Value) (st : Jvm.State) : (allAtoms ts).before a st = ts.all (fun c => c.before a st) := by
  induction ts with
  | nil => rfl
  | cons c t ih =>
    show (Jvm.Cond.and c (allAtoms t)).before a st = _
    rw [Jvm.Cond.before_and, ih, List.all_cons]
def words1 : List Jvm.Cond := Jvm.Cond.code x code maxLocals ret :: tables_1
/-- a 'code' word, met by the world's own term for the bytes: nothing is compared byte by byte -/
theorem code_word {y : MethodName} {bytes : ByteArray} {mx : Nat} {rt : Option FieldType} {a : Array Value} {s : State} {m : MethodId} {meth : Method} {c : Code} (h1 : s.methodNamed? y = some m) (h2 : s.vm.method? m = some meth) (h3 : meth.code = some c) (h4 : c.code = bytes)
    (h5 : (c.maxLocals == mx && c.exceptionTable.isEmpty && decide (c.maxStack ≤ mostOperands) && decide (meth.sig.returnType = rt) && !meth.locks && decide (parseMethodDescriptor y.desc = some meth.sig)) = true) : (Jvm.Cond.code y bytes mx rt).before a s = true := by
  simp only [Bool.and_eq_true, beq_iff_eq, Bool.not_eq_true', decide_eq_true_eq] at h5
  obtain ⟨⟨⟨⟨⟨g1, g2⟩, g3⟩, g4⟩, g5⟩, g6⟩ := h5
  simp [Cond.before, Cond.holds, Cond.value, h1, h2, h3, h4, g1, g2, g3, g4, g5, g6]
def isCode : Jvm.Cond → Bool
  | .code _ _ _ _ => true
  | _ => false
theorem all_split {L : List Jvm.Cond} {P : Jvm.Cond → Bool} (h1 : L.all (fun c => isCode c || P c) = true) (h2 : ∀ c ∈ L.filter isCode, P c = true) : L.all P = true := by
  refine List.all_eq_true.mpr fun c hc => ?_
  have h := List.all_eq_true.mp h1 c hc
  rcases Bool.eq_false_or_eq_true (isCode c) with hi | hi
  · exact h2 c (List.mem_filter.mpr ⟨hc, hi⟩)
  · simpa [hi] using h
set_option maxRecDepth 65536 in
theorem w_c0 : (Jvm.Cond.code x code maxLocals ret).before args0 about1 = true := code_word (m := ⟨1, 1⟩) (meth := k1m1) (c := k1c1) (by decide +kernel) rfl rfl rfl (by decide +kernel)
set_option maxRecDepth 65536 in
theorem w_c1 : (Jvm.Cond.code ({ cls := "com/example/bitweight/bitweight/chunk/WordChunk", name := "bitsInRange", desc := "(III)J" } : Jvm.MethodName) prog_39_method_13_code (5 : Nat) (Option.some Jvm.ClassFile.FieldType.long)).before args0 about1 = true := code_word (m := ⟨4, 1⟩) (meth := k4m1) (c := k4c1) (by decide +kernel) rfl rfl rfl (by decide +kernel)
def codes1 : List Jvm.Cond := [Jvm.Cond.code x code maxLocals ret, Jvm.Cond.code ({ cls := "com/example/bitweight/bitweight/chunk/WordChunk", name := "bitsInRange", desc := "(III)J" } : Jvm.MethodName) prog_39_method_13_code (5 : Nat) (Option.some Jvm.ClassFile.FieldType.long)]
set_option maxRecDepth 65536 in
theorem codes_eq : words1.filter isCode = codes1 := rfl
theorem w_codes : ∀ c ∈ words1.filter isCode, c.before args0 about1 = true := by
  rw [codes_eq]
  intro c hc
  simp only [codes1, List.mem_cons, List.not_mem_nil, or_false] at hc
  rcases hc with rfl | rfl
  · exact w_c0
  · exact w_c1
set_option maxRecDepth 65536 in
theorem w_t1 : words1.all (fun c => isCode c || c.before args0 about1) = true := by decide +kernel
theorem w_tables : (allAtoms (Jvm.Cond.code x code maxLocals ret :: tables_1)).before args0 about1 = true := by
  rw [allAtoms_all]
  show words1.all (fun c => c.before args0 about1) = true
  refine all_split ?_ w_codes
  rw [w_t1]
set_option maxRecDepth 65536 in
theorem w_case : (Jvm.Cond.and given_1 narrow_1).before args0 about1 = true := by decide +kernel
theorem w_applies : (headSpec (Jvm.Cond.code x code maxLocals ret :: tables_1) room_1).applies x e0.platform about1 = true :=
  (Spec.applies_iff w_frames).mpr ⟨w_running, w_runnable, w_alone, w_named, w_hears, w_ripe, w_room, w_tables⟩
theorem atStart : AtStart classFile x code maxLocals ret World_1 tables_1 room_1 Calls_1 rest_1 Pre_1 launch0 p0 e0 about1 theMethod args0 below0 :=
  ⟨lists_1, trivial, launch0.admits_env _ _ _, launch0.least_env, fairChoices_fair.cas, fairChoices_fair.clock, w_frames, w_args, w_heap, w_applies, trivial, trivial, w_case⟩
end start1
theorem witness_1 : WitnessClaimed_1 := ⟨start1.p0, start1.e0, start1.about1, start1.theMethod, start1.args0, start1.below0, start1.atStart⟩
end Jvm.Pilot.@@N@@
