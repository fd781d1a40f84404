import JvmDerived
import JvmDerived.Pilot.@@N@@Statement
import JvmDerived.Pilot.@@N@@Code
set_option linter.unusedVariables false
set_option linter.unusedSimpArgs false
namespace Jvm.Pilot.@@N@@
open Jvm Jvm.ClassFile Sem Op Lib Jvm.Free Jvm.Stand Jvm.LawKit Jvm.RoadKit Bundle Jvm.Pilot.@@N@@.Jvm.D
section Own
variable {p : Program} {l : Launch} {e : Env} {R : Room} {s : State} {m : MethodId} {args : Array Value} {below : List Frame} {meth : Method} {c : Code} {T : State} {locs : List Loc} {cells slots : Nat} {Z : State} {h h' : Heap} {a b : Addr} {n k : Nat}
/-- a function with one place turned -/
def owUp {α : Type} (f : Nat → α) (k : Nat) (v : α) : Nat → α := fun i => if i = k then v else f i
theorem owUp_at {α : Type} {f : Nat → α} {k : Nat} {v : α} : owUp f k v k = v := if_pos rfl
theorem owUp_ne {α : Type} {f : Nat → α} {k i : Nat} {v : α} (q : i ≠ k) : owUp f k v i = f i := if_neg q
theorem owUpP {α : Type} {P : α → Prop} {f : Nat → α} {k : Nat} {v : α} (hf : ∀ i, P (f i)) (hv : P v) : ∀ i, P (owUp f k v i) := fun i => by
  by_cases q : i = k
  · rw [q, owUp_at]; exact hv
  · rw [owUp_ne q]; exact hf i
theorem owIdx {j : Int32} {k : Nat} (hj : j.toInt = (k : Int)) : j.toNatClampNeg = k := by
  have q : j.toNatClampNeg = j.toInt.toNat := rfl
  rw [q, hj]; rfl
theorem owIn {j : Int32} {k n sz : Nat} (hj : j.toInt = (k : Int)) (hk : k < n) (hs : sz = n) : ¬ (j < 0 ∨ sz ≤ j.toNatClampNeg) := by
  rw [owIdx hj, Int32.lt_iff_toInt_lt, hj, hs]
  have q : (0 : Int32).toInt = 0 := rfl
  omega
theorem owSlot {cl : Cell} {k i : Nat} {v : Value} (hk : k < cl.slots.size) : (cl.setSlot k v).slots[i]? = if i = k then some v else cl.slots[i]? := by
  by_cases q : i = k
  · subst q; rw [if_pos rfl]; simp [Cell.setSlot, hk]
  · rw [if_neg q]; exact Array.getElem?_setIfInBounds_ne (Ne.symm q)
/-- an array of ints (bytes, chars ..) whose components a function tells -/
def owAI (Z : State) (h : Heap) (a : Addr) (ty : FieldType) (n : Nat) (f : Nat → Int32) : Prop := ∃ c : Cell, Arr Z h a c ty ∧ c.slots.size = n ∧ ∀ i, i < n → c.slots[i]? = some (.int (f i))
/-- an array of longs -/
def owAJ (Z : State) (h : Heap) (a : Addr) (ty : FieldType) (n : Nat) (f : Nat → Int64) : Prop := ∃ c : Cell, Arr Z h a c ty ∧ c.slots.size = n ∧ ∀ i, i < n → c.slots[i]? = some (.long (f i))
theorem owAI.lt {ty : FieldType} {f : Nat → Int32} (F : owAI Z h a ty n f) : a < h.size := by obtain ⟨c, A, -⟩ := F; exact A.lt
theorem owAI.ext {ty : FieldType} {f : Nat → Int32} (F : owAI Z h a ty n f) (E : Ext h h') : owAI Z h' a ty n f := by obtain ⟨c, A, r⟩ := F; exact ⟨c, A.ext E, r⟩
theorem owAI.other {ty : FieldType} {f : Nat → Int32} {sl : Nat} {v : Value} (F : owAI Z h b ty n f) (W : Wr h h' a sl v) (q : b ≠ a) : owAI Z h' b ty n f := by obtain ⟨c, A, r⟩ := F; exact ⟨c, A.other W q, r⟩
theorem owAI.keep {ty : FieldType} {f : Nat → Int32} {ws : List Addr} (F : owAI Z h a ty n f) (K : Keep h h' ws) (q : a ∉ ws) : owAI Z h' a ty n f := by obtain ⟨c, A, r⟩ := F; exact ⟨c, ⟨K.2.1 a c A.1 q, A.2⟩, r⟩
theorem owAJ.lt {ty : FieldType} {f : Nat → Int64} (F : owAJ Z h a ty n f) : a < h.size := by obtain ⟨c, A, -⟩ := F; exact A.lt
theorem owAJ.ext {ty : FieldType} {f : Nat → Int64} (F : owAJ Z h a ty n f) (E : Ext h h') : owAJ Z h' a ty n f := by obtain ⟨c, A, r⟩ := F; exact ⟨c, A.ext E, r⟩
theorem owAJ.other {ty : FieldType} {f : Nat → Int64} {sl : Nat} {v : Value} (F : owAJ Z h b ty n f) (W : Wr h h' a sl v) (q : b ≠ a) : owAJ Z h' b ty n f := by obtain ⟨c, A, r⟩ := F; exact ⟨c, A.other W q, r⟩
theorem owAJ.keep {ty : FieldType} {f : Nat → Int64} {ws : List Addr} (F : owAJ Z h a ty n f) (K : Keep h h' ws) (q : a ∉ ws) : owAJ Z h' a ty n f := by obtain ⟨c, A, r⟩ := F; exact ⟨c, ⟨K.2.1 a c A.1 q, A.2⟩, r⟩
theorem owAI.new {ty : FieldType} {k : ClassId} {z : Int32} (A : Arr Z h a (newA k ty z) ty) (hz : z.toInt = (n : Int)) (hd : defaultValue ty = .int 0) : owAI Z h a ty n (fun _ => 0) :=
  ⟨_, A, by rw [sz_new]; exact owIdx hz, fun i hi => by rw [← hd]; simp [newA, owIdx hz, hi]⟩
theorem owAJ.new {ty : FieldType} {k : ClassId} {z : Int32} (A : Arr Z h a (newA k ty z) ty) (hz : z.toInt = (n : Int)) (hd : defaultValue ty = .long 0) : owAJ Z h a ty n (fun _ => 0) :=
  ⟨_, A, by rw [sz_new]; exact owIdx hz, fun i hi => by rw [← hd]; simp [newA, owIdx hz, hi]⟩
theorem owAI.to {ty : FieldType} {f g : Nat → Int32} (F : owAI Z h a ty n f) (q : ∀ i, i < n → f i = g i) : owAI Z h a ty n g := by
  obtain ⟨c, A, S, H⟩ := F; exact ⟨c, A, S, fun i hi => by rw [H i hi, q i hi]⟩
theorem owAJ.to {ty : FieldType} {f g : Nat → Int64} (F : owAJ Z h a ty n f) (q : ∀ i, i < n → f i = g i) : owAJ Z h a ty n g := by
  obtain ⟨c, A, S, H⟩ := F; exact ⟨c, A, S, fun i hi => by rw [H i hi, q i hi]⟩
theorem owLdB (X : Stand p l e R s m args below meth c T locs cells slots) (hx : p.tables.exec = Jvm.exec) (hZ : Z.Warmed39 s.vm) (eT : T.heap = h) {f : Nat → Int32} (A : owAI Z h a .byte n f) {j : Int32} (hj : j.toInt = (k : Int)) (hk : k < n) {g : JFrame} (hg : g.method = m) {rest : List Value} (hs : g.stack = .int j :: .ref a :: rest) (hd : decode c.code g.pc = .ok (.baload, 1)) (target : State) (kt : Steps p.tables e below (T.setTop { g with pc := g.pc + 1, stack := .int (f k) :: rest }) target) : Steps p.tables e below (T.setTop g) target := by
  obtain ⟨cl, Ar, S, H⟩ := A
  exact X.baloadBytes hx (by rw [eT]; exact Ar.1) (State.isArrayOf_alike hZ.alike Ar.2.1) Ar.2.2 (owIn hj hk S) (by rw [owIdx hj]; exact H k hk) hg hs hd target kt
theorem owLdC (X : Stand p l e R s m args below meth c T locs cells slots) (hx : p.tables.exec = Jvm.exec) (hZ : Z.Warmed39 s.vm) (eT : T.heap = h) {f : Nat → Int32} (A : owAI Z h a .char n f) {j : Int32} (hj : j.toInt = (k : Int)) (hk : k < n) {g : JFrame} (hg : g.method = m) {rest : List Value} (hs : g.stack = .int j :: .ref a :: rest) (hd : decode c.code g.pc = .ok (.caload, 1)) (target : State) (kt : Steps p.tables e below (T.setTop { g with pc := g.pc + 1, stack := .int (f k) :: rest }) target) : Steps p.tables e below (T.setTop g) target := by
  obtain ⟨cl, Ar, S, H⟩ := A
  exact X.caload hx (by rw [eT]; exact Ar.1) (State.isArrayOf_alike hZ.alike Ar.2.1) Ar.2.2 (owIn hj hk S) (by rw [owIdx hj]; exact H k hk) hg hs hd target kt
theorem owLdI (X : Stand p l e R s m args below meth c T locs cells slots) (hx : p.tables.exec = Jvm.exec) (hZ : Z.Warmed39 s.vm) (eT : T.heap = h) {f : Nat → Int32} (A : owAI Z h a .int n f) {j : Int32} (hj : j.toInt = (k : Int)) (hk : k < n) {g : JFrame} (hg : g.method = m) {rest : List Value} (hs : g.stack = .int j :: .ref a :: rest) (hd : decode c.code g.pc = .ok (.iaload, 1)) (target : State) (kt : Steps p.tables e below (T.setTop { g with pc := g.pc + 1, stack := .int (f k) :: rest }) target) : Steps p.tables e below (T.setTop g) target := by
  obtain ⟨cl, Ar, S, H⟩ := A
  exact X.iaload hx (by rw [eT]; exact Ar.1) (State.isArrayOf_alike hZ.alike Ar.2.1) Ar.2.2 (owIn hj hk S) (by rw [owIdx hj]; exact H k hk) hg hs hd target kt
theorem owLdJ (X : Stand p l e R s m args below meth c T locs cells slots) (hx : p.tables.exec = Jvm.exec) (hZ : Z.Warmed39 s.vm) (eT : T.heap = h) {f : Nat → Int64} (A : owAJ Z h a .long n f) {j : Int32} (hj : j.toInt = (k : Int)) (hk : k < n) {g : JFrame} (hg : g.method = m) {rest : List Value} (hs : g.stack = .int j :: .ref a :: rest) (hd : decode c.code g.pc = .ok (.laload, 1)) (target : State) (kt : Steps p.tables e below (T.setTop { g with pc := g.pc + 1, stack := .long (f k) :: rest }) target) : Steps p.tables e below (T.setTop g) target := by
  obtain ⟨cl, Ar, S, H⟩ := A
  exact X.laload hx (by rw [eT]; exact Ar.1) (State.isArrayOf_alike hZ.alike Ar.2.1) Ar.2.2 (owIn hj hk S) (by rw [owIdx hj]; exact H k hk) hg hs hd target kt
/-- an array of objects -/
def owAR (Z : State) (h : Heap) (a : Addr) (ty : FieldType) (n : Nat) (f : Nat → Addr) : Prop := ∃ c : Cell, Arr Z h a c ty ∧ c.slots.size = n ∧ ∀ i, i < n → c.slots[i]? = some (.ref (f i))
theorem owAR.lt {ty : FieldType} {f : Nat → Addr} (F : owAR Z h a ty n f) : a < h.size := by obtain ⟨c, A, -⟩ := F; exact A.lt
theorem owAR.ext {ty : FieldType} {f : Nat → Addr} (F : owAR Z h a ty n f) (E : Ext h h') : owAR Z h' a ty n f := by obtain ⟨c, A, r⟩ := F; exact ⟨c, A.ext E, r⟩
theorem owLdR (X : Stand p l e R s m args below meth c T locs cells slots) (hx : p.tables.exec = Jvm.exec) (hZ : Z.Warmed39 s.vm) (eT : T.heap = h) {ty : FieldType} {f : Nat → Addr} (A : owAR Z h a ty n f) (hty : ty.isReference = true) {j : Int32} (hj : j.toInt = (k : Int)) (hk : k < n) {g : JFrame} (hg : g.method = m) {rest : List Value} (hs : g.stack = .int j :: .ref a :: rest) (hd : decode c.code g.pc = .ok (.aaload, 1)) (target : State) (kt : Steps p.tables e below (T.setTop { g with pc := g.pc + 1, stack := .ref (f k) :: rest }) target) : Steps p.tables e below (T.setTop g) target := by
  obtain ⟨cl, Ar, S, H⟩ := A
  exact X.aaload hx (by rw [eT]; exact Ar.1) (State.isArrayOf_alike hZ.alike Ar.2.1) hty Ar.2.2 (owIn hj hk S) (by rw [owIdx hj]; exact H k hk) hg hs hd target kt
theorem owLenI (X : Stand p l e R s m args below meth c T locs cells slots) (hx : p.tables.exec = Jvm.exec) (hZ : Z.Warmed39 s.vm) (eT : T.heap = h) {ty : FieldType} {f : Nat → Int32} (A : owAI Z h a ty n f) {z : Int32} (hz : n.toInt32 = z) {g : JFrame} (hg : g.method = m) {rest : List Value} (hs : g.stack = .ref a :: rest) (hd : decode c.code g.pc = .ok (.arraylength, 1)) (target : State) (kt : Steps p.tables e below (T.setTop { g with pc := g.pc + 1, stack := .int z :: rest }) target) : Steps p.tables e below (T.setTop g) target := by
  obtain ⟨cl, Ar, S, H⟩ := A
  exact X.arraylength hx (by rw [eT]; exact Ar.1) (State.isArrayOf_alike hZ.alike Ar.2.1) hg hs hd target (by rw [S, hz]; exact kt)
theorem owLenJ (X : Stand p l e R s m args below meth c T locs cells slots) (hx : p.tables.exec = Jvm.exec) (hZ : Z.Warmed39 s.vm) (eT : T.heap = h) {ty : FieldType} {f : Nat → Int64} (A : owAJ Z h a ty n f) {z : Int32} (hz : n.toInt32 = z) {g : JFrame} (hg : g.method = m) {rest : List Value} (hs : g.stack = .ref a :: rest) (hd : decode c.code g.pc = .ok (.arraylength, 1)) (target : State) (kt : Steps p.tables e below (T.setTop { g with pc := g.pc + 1, stack := .int z :: rest }) target) : Steps p.tables e below (T.setTop g) target := by
  obtain ⟨cl, Ar, S, H⟩ := A
  exact X.arraylength hx (by rw [eT]; exact Ar.1) (State.isArrayOf_alike hZ.alike Ar.2.1) hg hs hd target (by rw [S, hz]; exact kt)
theorem owSetI {ty : FieldType} {f : Nat → Int32} {cl : Cell} {x : Int32} (Ar : Arr Z h a cl ty) (S : cl.slots.size = n) (H : ∀ i, i < n → cl.slots[i]? = some (.int (f i))) (hk : k < n) (W : Wr h h' a k (.int x)) : owAI Z h' a ty n (owUp f k x) :=
  ⟨cl.setSlot k (.int x), Ar.same W, by rw [sz_set]; exact S, fun i hi => by
    rw [owSlot (by omega)]
    by_cases q : i = k
    · rw [if_pos q, q, owUp_at]
    · rw [if_neg q, owUp_ne q]; exact H i hi⟩
theorem owSetJ {ty : FieldType} {f : Nat → Int64} {cl : Cell} {x : Int64} (Ar : Arr Z h a cl ty) (S : cl.slots.size = n) (H : ∀ i, i < n → cl.slots[i]? = some (.long (f i))) (hk : k < n) (W : Wr h h' a k (.long x)) : owAJ Z h' a ty n (owUp f k x) :=
  ⟨cl.setSlot k (.long x), Ar.same W, by rw [sz_set]; exact S, fun i hi => by
    rw [owSlot (by omega)]
    by_cases q : i = k
    · rw [if_pos q, q, owUp_at]
    · rw [if_neg q, owUp_ne q]; exact H i hi⟩
theorem owStB (X : Stand p l e R s m args below meth c T locs cells slots) (hx : p.tables.exec = Jvm.exec) (hZ : Z.Warmed39 s.vm) (eT : T.heap = h) {f : Nat → Int32} (A : owAI Z h a .byte n f) {j x : Int32} (hj : j.toInt = (k : Int)) (hk : k < n) {g : JFrame} (hg : g.method = m) {rest : List Value} (hs : g.stack = .int x :: .int j :: .ref a :: rest) (hd : decode c.code g.pc = .ok (.bastore, 1)) :
    ∃ T' h', Stand p l e R s m args below meth c T' (locs ++ [⟨a, k⟩]) cells slots ∧ T'.heap = h' ∧ Wr h h' a k (.int x.toInt8.toInt32) ∧ owAI Z h' a .byte n (owUp f k x.toInt8.toInt32) ∧ ∀ target, Steps p.tables e below (T'.setTop { g with pc := g.pc + 1, stack := rest }) target → Steps p.tables e below (T.setTop g) target := by
  obtain ⟨cl, Ar, S, H⟩ := A
  have st := stB X hx hZ eT Ar (j := j) (owIn hj hk S) hg hs hd
  rw [owIdx hj] at st
  obtain ⟨T', h', X', e', W, st⟩ := st
  exact ⟨T', h', X', e', W, owSetI Ar S H hk W, st⟩
theorem owStC (X : Stand p l e R s m args below meth c T locs cells slots) (hx : p.tables.exec = Jvm.exec) (hZ : Z.Warmed39 s.vm) (eT : T.heap = h) {f : Nat → Int32} (A : owAI Z h a .char n f) {j x : Int32} (hj : j.toInt = (k : Int)) (hk : k < n) {g : JFrame} (hg : g.method = m) {rest : List Value} (hs : g.stack = .int x :: .int j :: .ref a :: rest) (hd : decode c.code g.pc = .ok (.castore, 1)) :
    ∃ T' h', Stand p l e R s m args below meth c T' (locs ++ [⟨a, k⟩]) cells slots ∧ T'.heap = h' ∧ Wr h h' a k (.int x.toUInt32.toUInt16.toUInt32.toInt32) ∧ owAI Z h' a .char n (owUp f k x.toUInt32.toUInt16.toUInt32.toInt32) ∧ ∀ target, Steps p.tables e below (T'.setTop { g with pc := g.pc + 1, stack := rest }) target → Steps p.tables e below (T.setTop g) target := by
  obtain ⟨cl, Ar, S, H⟩ := A
  have st := stC X hx hZ eT Ar (j := j) (owIn hj hk S) hg hs hd
  rw [owIdx hj] at st
  obtain ⟨T', h', X', e', W, st⟩ := st
  exact ⟨T', h', X', e', W, owSetI Ar S H hk W, st⟩
theorem owStI (X : Stand p l e R s m args below meth c T locs cells slots) (hx : p.tables.exec = Jvm.exec) (hZ : Z.Warmed39 s.vm) (eT : T.heap = h) {f : Nat → Int32} (A : owAI Z h a .int n f) {j x : Int32} (hj : j.toInt = (k : Int)) (hk : k < n) {g : JFrame} (hg : g.method = m) {rest : List Value} (hs : g.stack = .int x :: .int j :: .ref a :: rest) (hd : decode c.code g.pc = .ok (.iastore, 1)) :
    ∃ T' h', Stand p l e R s m args below meth c T' (locs ++ [⟨a, k⟩]) cells slots ∧ T'.heap = h' ∧ Wr h h' a k (.int x) ∧ owAI Z h' a .int n (owUp f k x) ∧ ∀ target, Steps p.tables e below (T'.setTop { g with pc := g.pc + 1, stack := rest }) target → Steps p.tables e below (T.setTop g) target := by
  obtain ⟨cl, Ar, S, H⟩ := A
  have st := stI X hx hZ eT Ar (j := j) (owIn hj hk S) hg hs hd
  rw [owIdx hj] at st
  obtain ⟨T', h', X', e', W, st⟩ := st
  exact ⟨T', h', X', e', W, owSetI Ar S H hk W, st⟩
theorem owStJ (X : Stand p l e R s m args below meth c T locs cells slots) (hx : p.tables.exec = Jvm.exec) (hZ : Z.Warmed39 s.vm) (eT : T.heap = h) {f : Nat → Int64} (A : owAJ Z h a .long n f) {j : Int32} {x : Int64} (hj : j.toInt = (k : Int)) (hk : k < n) {g : JFrame} (hg : g.method = m) {rest : List Value} (hs : g.stack = .long x :: .int j :: .ref a :: rest) (hd : decode c.code g.pc = .ok (.lastore, 1)) :
    ∃ T' h', Stand p l e R s m args below meth c T' (locs ++ [⟨a, k⟩]) cells slots ∧ T'.heap = h' ∧ Wr h h' a k (.long x) ∧ owAJ Z h' a .long n (owUp f k x) ∧ ∀ target, Steps p.tables e below (T'.setTop { g with pc := g.pc + 1, stack := rest }) target → Steps p.tables e below (T.setTop g) target := by
  obtain ⟨cl, Ar, S, H⟩ := A
  have st := stJ X hx hZ eT Ar (j := j) (owIn hj hk S) hg hs hd
  rw [owIdx hj] at st
  obtain ⟨T', h', X', e', W, st⟩ := st
  exact ⟨T', h', X', e', W, owSetJ Ar S H hk W, st⟩
theorem owSel {s : State} {args : Array Value} {y : MethodName} {n : Nat} (hi : (Cond.instantiable y.cls n).before args s = true) (hpriv : s.PrivateAt y) (hinst : (Cond.instanceMethod y).before args s = true) (hy : y.cls ≠ "java/lang/invoke/MethodHandle" ∧ y.cls ≠ "java/lang/invoke/VarHandle") : (Cond.selects y.cls y y).before args s = true := by
  obtain ⟨c, k, h1, h2, -, h4, -⟩ := Cond.instantiable_spec hi
  have h5 : k.isInterface = false := by cases hq : k.isInterface <;> simp_all
  exact selects_self_of_private h1 h2 h5 hpriv hinst hy
theorem owRetI (X : Stand p l e R s m args below meth c T locs cells slots) (hx : p.tables.exec = Jvm.exec) {pc : Nat} {Ls : Array Slot} {z : Int32} (hret : meth.sig.returnType = some .int) (hd : decode c.code pc = .ok (.ireturn, 1)) {fs : List Frame}
    (hl : ∀ (f : JFrame) (acts : List Action), f.method = m → f.locked = none → f.entered = [] → (doReturn e (T.setTop f) acts (some (.int z))).1 = T.setFrames fs) : Steps p.tables e below (T.setTop (mkF m pc Ls [.int z])) (T.setFrames fs) :=
  X.ireturnOut hx hret rfl (Or.inl rfl) hd hl
end Own

theorem d1_0 : decode jdk_29_method_69_code 0 = .ok (.iload_n 0, 1) := by decide +kernel
theorem d1_1 : decode jdk_29_method_69_code 1 = .ok (.iload_n 1, 1) := by decide +kernel
theorem d1_2 : decode jdk_29_method_69_code 2 = .ok (.if_icmp .gt 7, 3) := by decide +kernel
theorem d1_5 : decode jdk_29_method_69_code 5 = .ok (.iload_n 0, 1) := by decide +kernel
theorem d1_6 : decode jdk_29_method_69_code 6 = .ok (.goto 4, 3) := by decide +kernel
theorem d1_9 : decode jdk_29_method_69_code 9 = .ok (.iload_n 1, 1) := by decide +kernel
theorem d1_10 : decode jdk_29_method_69_code 10 = .ok (.ireturn, 1) := by decide +kernel
theorem ef_1 (m : MethodId) (x0 : Int32) (x1 : Int32) : entryFrame m #[(.int x0), (.int x1)] 2 = mkF m 0 #[.val (.int x0), .val (.int x1)] [] := by first | (simp [entryFrame, mkF, argsToLocals, Value.category]; done) | rfl
def fn1 (p1 : Int32) (p2 : Int32) : Int32 := (if p2 < p1 then p2 else p1)
def Q1 (Z : State) (p1 : Int32) (p2 : Int32) (h0 : Heap) (n0 : Nat) (v : Option Value) (h : Heap) (L : List Loc) : Prop := v = some (.int (fn1 p1 p2)) ∧ Fr n0 L ∧ h = h0
set_option maxRecDepth 65536 in
set_option maxHeartbeats 40000000 in
theorem rm1 (l : Launch) (Z : State) (a0 : Array Value) (hw : ∀ d ∈ tables_1, d.before a0 Z = true) (ws : List Jvm.Cond) (p1 : Int32) (p2 : Int32) (h0 : Heap) (n0 : Nat) (Z0 : n0 ≤ h0.size) :
    MetFree l (⟨"java/lang/Math", "min", "(II)I"⟩ : MethodName) (head1 (Jvm.Cond.code (⟨"java/lang/Math", "min", "(II)I"⟩ : MethodName) jdk_29_method_69_code 2 (some .int) :: ws) ({ frames := 0, cells := 0, slots := 0, locals := 0 } : Room)) (fun a U => a = #[(.int p1), (.int p2)] ∧ Z.Warmed39 U.vm ∧ U.heap = h0) (fun _ _ _ _ _ => True) (fun _ U o U' => ∃ v L, o = .returned v ∧ Q1 Z p1 p2 h0 n0 v U'.heap L ∧ FrameEnd U o U' L ({ frames := 0, cells := 0, slots := 0, locals := 0 } : Room).cells ({ frames := 0, cells := 0, slots := 0, locals := 0 } : Room).slots) := by
  refine MetFree.of_bodySF (Jvm.Free.JP.mathPlain rfl (by decide +kernel)) hisR ?_
  intro p e s m args below meth c s₁ Bd hml0 hP hK
  obtain ⟨rfl, hZ, hh⟩ := hP
  have hx := Bd.exec
  have hby := Bd.bytes
  have hml : c.maxLocals = 2 := hml0
  have hown : s.vm.findClass "java/lang/Math" = some m.cls := findClass_of_methodNamed Bd.named
  have hnm := (name_of_methodNamed Bd.named Bd.method).1
  have X0 : Stand p l e ({ frames := 0, cells := 0, slots := 0, locals := 0 } : Room) s m #[(.int p1), (.int p2)] below meth c s₁ [] 0 0 := Stand.of_body Bd
  have e0 : s₁.heap = h0 := by rw [← hh, Bd.state]; rfl
  have N0 := Fr.nil n0
  have pre0 : ∀ t, Steps p.tables e below (s₁.setTop (mkF m 0 #[.val (.int p1), .val (.int p2)] [])) t → Steps p.tables e below (s₁.setTop (entryFrame m #[(.int p1), (.int p2)] 2)) t := fun t k => castTop (ef_1 m p1 p2) k
  have pre1 : ∀ t, Steps p.tables e below (s₁.setTop (mkF m 2 #[.val (.int p1), .val (.int p2)] [(.int p2), (.int p1)])) t → Steps p.tables e below (s₁.setTop (entryFrame m #[(.int p1), (.int p2)] 2)) t := by
    intro t kt
    refine pre0 _ ?_
    show Steps p.tables e below (s₁.setTop (mkF m 0 #[.val (.int p1), .val (.int p2)] [])) _
    refine XS.iloadN X0.here hx rfl (hb hby d1_0) rfl ?_
    show Steps p.tables e below (s₁.setTop (mkF m 1 #[.val (.int p1), .val (.int p2)] [(.int p1)])) _
    refine XS.iloadN X0.here hx rfl (hb hby d1_1) rfl ?_
    exact kt
  by_cases hc2_2 : p2 < p1
  · skip
    have pre3 : ∀ t, Steps p.tables e below (s₁.setTop (mkF m 10 #[.val (.int p1), .val (.int p2)] [(.int p2)])) t → Steps p.tables e below (s₁.setTop (entryFrame m #[(.int p1), (.int p2)] 2)) t := by
      intro t kt
      refine pre1 _ ?_
      show Steps p.tables e below (s₁.setTop (mkF m 2 #[.val (.int p1), .val (.int p2)] [(.int p2), (.int p1)])) _
      refine XS.icmpYes X0.here hx rfl (pc0 := 2) (pc' := 9) rfl (hb hby d1_2) rfl (XT.ii_gt_t hc2_2) (by decide) (by decide) ?_
      show Steps p.tables e below (s₁.setTop (mkF m 9 #[.val (.int p1), .val (.int p2)] [])) _
      refine XS.iloadN X0.here hx rfl (hb hby d1_9) rfl ?_
      exact kt
    obtain ⟨fs, hr, hrun, hended, hW, hsame⟩ := X0.leave (v := some (.int p2)) (fun h => by rw [Bd.returns] at h; cases h)
    refine ⟨_, _, pre3 _ ?_, hrun, hended, _, _, rfl, ?_, ⟨_, rfl⟩, hW, hsame.mono (by decide) (by decide)⟩
    · show Steps p.tables e below (s₁.setTop (mkF m 10 #[.val (.int p1), .val (.int p2)] [(.int p2)])) _
      exact owRetI X0 hx Bd.returns (hb hby d1_10) hr
    · show Q1 Z p1 p2 h0 n0 _ s₁.heap _
      rw [e0]
      exact ⟨by unfold fn1; rw [if_pos hc2_2], N0, rfl⟩
  · skip
    have pre4 : ∀ t, Steps p.tables e below (s₁.setTop (mkF m 10 #[.val (.int p1), .val (.int p2)] [(.int p1)])) t → Steps p.tables e below (s₁.setTop (entryFrame m #[(.int p1), (.int p2)] 2)) t := by
      intro t kt
      refine pre1 _ ?_
      show Steps p.tables e below (s₁.setTop (mkF m 2 #[.val (.int p1), .val (.int p2)] [(.int p2), (.int p1)])) _
      refine XS.icmpNo X0.here hx rfl (hb hby d1_2) rfl (XT.ii_gt_f hc2_2) ?_
      show Steps p.tables e below (s₁.setTop (mkF m 5 #[.val (.int p1), .val (.int p2)] [])) _
      refine XS.iloadN X0.here hx rfl (hb hby d1_5) rfl ?_
      show Steps p.tables e below (s₁.setTop (mkF m 6 #[.val (.int p1), .val (.int p2)] [(.int p1)])) _
      refine XS.goto X0.here hx rfl (pc0 := 6) (pc' := 10) rfl (hb hby d1_6) (by decide) (by decide) ?_
      exact kt
    obtain ⟨fs, hr, hrun, hended, hW, hsame⟩ := X0.leave (v := some (.int p1)) (fun h => by rw [Bd.returns] at h; cases h)
    refine ⟨_, _, pre4 _ ?_, hrun, hended, _, _, rfl, ?_, ⟨_, rfl⟩, hW, hsame.mono (by decide) (by decide)⟩
    · show Steps p.tables e below (s₁.setTop (mkF m 10 #[.val (.int p1), .val (.int p2)] [(.int p1)])) _
      exact owRetI X0 hx Bd.returns (hb hby d1_10) hr
    · show Q1 Z p1 p2 h0 n0 _ s₁.heap _
      rw [e0]
      exact ⟨by unfold fn1; rw [if_neg hc2_2], N0, rfl⟩
theorem d2_0 : decode jdk_29_method_65_code 0 = .ok (.iload_n 0, 1) := by decide +kernel
theorem d2_1 : decode jdk_29_method_65_code 1 = .ok (.iload_n 1, 1) := by decide +kernel
theorem d2_2 : decode jdk_29_method_65_code 2 = .ok (.if_icmp .lt 7, 3) := by decide +kernel
theorem d2_5 : decode jdk_29_method_65_code 5 = .ok (.iload_n 0, 1) := by decide +kernel
theorem d2_6 : decode jdk_29_method_65_code 6 = .ok (.goto 4, 3) := by decide +kernel
theorem d2_9 : decode jdk_29_method_65_code 9 = .ok (.iload_n 1, 1) := by decide +kernel
theorem d2_10 : decode jdk_29_method_65_code 10 = .ok (.ireturn, 1) := by decide +kernel
theorem ef_2 (m : MethodId) (x0 : Int32) (x1 : Int32) : entryFrame m #[(.int x0), (.int x1)] 2 = mkF m 0 #[.val (.int x0), .val (.int x1)] [] := by first | (simp [entryFrame, mkF, argsToLocals, Value.category]; done) | rfl
def fn2 (p1 : Int32) (p2 : Int32) : Int32 := (if p1 < p2 then p2 else p1)
def Q2 (Z : State) (p1 : Int32) (p2 : Int32) (h0 : Heap) (n0 : Nat) (v : Option Value) (h : Heap) (L : List Loc) : Prop := v = some (.int (fn2 p1 p2)) ∧ Fr n0 L ∧ h = h0
set_option maxRecDepth 65536 in
set_option maxHeartbeats 40000000 in
theorem rm2 (l : Launch) (Z : State) (a0 : Array Value) (hw : ∀ d ∈ tables_1, d.before a0 Z = true) (ws : List Jvm.Cond) (p1 : Int32) (p2 : Int32) (h0 : Heap) (n0 : Nat) (Z0 : n0 ≤ h0.size) :
    MetFree l (⟨"java/lang/Math", "max", "(II)I"⟩ : MethodName) (head1 (Jvm.Cond.code (⟨"java/lang/Math", "max", "(II)I"⟩ : MethodName) jdk_29_method_65_code 2 (some .int) :: ws) ({ frames := 0, cells := 0, slots := 0, locals := 0 } : Room)) (fun a U => a = #[(.int p1), (.int p2)] ∧ Z.Warmed39 U.vm ∧ U.heap = h0) (fun _ _ _ _ _ => True) (fun _ U o U' => ∃ v L, o = .returned v ∧ Q2 Z p1 p2 h0 n0 v U'.heap L ∧ FrameEnd U o U' L ({ frames := 0, cells := 0, slots := 0, locals := 0 } : Room).cells ({ frames := 0, cells := 0, slots := 0, locals := 0 } : Room).slots) := by
  refine MetFree.of_bodySF (Jvm.Free.JP.mathPlain rfl (by decide +kernel)) hisR ?_
  intro p e s m args below meth c s₁ Bd hml0 hP hK
  obtain ⟨rfl, hZ, hh⟩ := hP
  have hx := Bd.exec
  have hby := Bd.bytes
  have hml : c.maxLocals = 2 := hml0
  have hown : s.vm.findClass "java/lang/Math" = some m.cls := findClass_of_methodNamed Bd.named
  have hnm := (name_of_methodNamed Bd.named Bd.method).1
  have X0 : Stand p l e ({ frames := 0, cells := 0, slots := 0, locals := 0 } : Room) s m #[(.int p1), (.int p2)] below meth c s₁ [] 0 0 := Stand.of_body Bd
  have e0 : s₁.heap = h0 := by rw [← hh, Bd.state]; rfl
  have N0 := Fr.nil n0
  have pre0 : ∀ t, Steps p.tables e below (s₁.setTop (mkF m 0 #[.val (.int p1), .val (.int p2)] [])) t → Steps p.tables e below (s₁.setTop (entryFrame m #[(.int p1), (.int p2)] 2)) t := fun t k => castTop (ef_2 m p1 p2) k
  have pre1 : ∀ t, Steps p.tables e below (s₁.setTop (mkF m 2 #[.val (.int p1), .val (.int p2)] [(.int p2), (.int p1)])) t → Steps p.tables e below (s₁.setTop (entryFrame m #[(.int p1), (.int p2)] 2)) t := by
    intro t kt
    refine pre0 _ ?_
    show Steps p.tables e below (s₁.setTop (mkF m 0 #[.val (.int p1), .val (.int p2)] [])) _
    refine XS.iloadN X0.here hx rfl (hb hby d2_0) rfl ?_
    show Steps p.tables e below (s₁.setTop (mkF m 1 #[.val (.int p1), .val (.int p2)] [(.int p1)])) _
    refine XS.iloadN X0.here hx rfl (hb hby d2_1) rfl ?_
    exact kt
  by_cases hc2_2 : p1 < p2
  · skip
    have pre3 : ∀ t, Steps p.tables e below (s₁.setTop (mkF m 10 #[.val (.int p1), .val (.int p2)] [(.int p2)])) t → Steps p.tables e below (s₁.setTop (entryFrame m #[(.int p1), (.int p2)] 2)) t := by
      intro t kt
      refine pre1 _ ?_
      show Steps p.tables e below (s₁.setTop (mkF m 2 #[.val (.int p1), .val (.int p2)] [(.int p2), (.int p1)])) _
      refine XS.icmpYes X0.here hx rfl (pc0 := 2) (pc' := 9) rfl (hb hby d2_2) rfl (XT.ii_lt_t hc2_2) (by decide) (by decide) ?_
      show Steps p.tables e below (s₁.setTop (mkF m 9 #[.val (.int p1), .val (.int p2)] [])) _
      refine XS.iloadN X0.here hx rfl (hb hby d2_9) rfl ?_
      exact kt
    obtain ⟨fs, hr, hrun, hended, hW, hsame⟩ := X0.leave (v := some (.int p2)) (fun h => by rw [Bd.returns] at h; cases h)
    refine ⟨_, _, pre3 _ ?_, hrun, hended, _, _, rfl, ?_, ⟨_, rfl⟩, hW, hsame.mono (by decide) (by decide)⟩
    · show Steps p.tables e below (s₁.setTop (mkF m 10 #[.val (.int p1), .val (.int p2)] [(.int p2)])) _
      exact owRetI X0 hx Bd.returns (hb hby d2_10) hr
    · show Q2 Z p1 p2 h0 n0 _ s₁.heap _
      rw [e0]
      exact ⟨by unfold fn2; rw [if_pos hc2_2], N0, rfl⟩
  · skip
    have pre4 : ∀ t, Steps p.tables e below (s₁.setTop (mkF m 10 #[.val (.int p1), .val (.int p2)] [(.int p1)])) t → Steps p.tables e below (s₁.setTop (entryFrame m #[(.int p1), (.int p2)] 2)) t := by
      intro t kt
      refine pre1 _ ?_
      show Steps p.tables e below (s₁.setTop (mkF m 2 #[.val (.int p1), .val (.int p2)] [(.int p2), (.int p1)])) _
      refine XS.icmpNo X0.here hx rfl (hb hby d2_2) rfl (XT.ii_lt_f hc2_2) ?_
      show Steps p.tables e below (s₁.setTop (mkF m 5 #[.val (.int p1), .val (.int p2)] [])) _
      refine XS.iloadN X0.here hx rfl (hb hby d2_5) rfl ?_
      show Steps p.tables e below (s₁.setTop (mkF m 6 #[.val (.int p1), .val (.int p2)] [(.int p1)])) _
      refine XS.goto X0.here hx rfl (pc0 := 6) (pc' := 10) rfl (hb hby d2_6) (by decide) (by decide) ?_
      exact kt
    obtain ⟨fs, hr, hrun, hended, hW, hsame⟩ := X0.leave (v := some (.int p1)) (fun h => by rw [Bd.returns] at h; cases h)
    refine ⟨_, _, pre4 _ ?_, hrun, hended, _, _, rfl, ?_, ⟨_, rfl⟩, hW, hsame.mono (by decide) (by decide)⟩
    · show Steps p.tables e below (s₁.setTop (mkF m 10 #[.val (.int p1), .val (.int p2)] [(.int p1)])) _
      exact owRetI X0 hx Bd.returns (hb hby d2_10) hr
    · show Q2 Z p1 p2 h0 n0 _ s₁.heap _
      rw [e0]
      exact ⟨by unfold fn2; rw [if_neg hc2_2], N0, rfl⟩
def csum (fb : Nat → Int32) : Nat → Nat → Int32 → Int32
  | _, 0, z => z
  | k, d + 1, z => csum fb (k + 1) d (z + ((fb k) &&& (255 : Int32)))
theorem own_ge {i q : Int32} {k : Nat} (h : i.toInt = (k : Int)) (h2 : q.toInt = ((k + 0 : Nat) : Int)) : i = q := Int32.toInt_inj.mp (by omega)
theorem own_lt {i q : Int32} {k d : Nat} (h : i.toInt = (k : Int)) (h2 : q.toInt = ((k + (d + 1) : Nat) : Int)) : i < q := by rw [Int32.lt_iff_toInt_lt]; omega
theorem own_up {i : Int32} {k : Nat} (h : i.toInt = (k : Int)) (h2 : k ≤ 6) : (i + (1 : Int32)).toInt = ((k + 1 : Nat) : Int) := by
  have q := c_iadd i 1
  have r := rng32 (i + 1)
  have o : (1 : Int32).toInt = 1 := rfl
  omega
theorem d3_0 : decode prog_167_method_5_code 0 = .ok (.iconst 0, 1) := by decide +kernel
theorem d3_1 : decode prog_167_method_5_code 1 = .ok (.istore_n 3, 1) := by decide +kernel
theorem d3_2 : decode prog_167_method_5_code 2 = .ok (.iload_n 1, 1) := by decide +kernel
theorem d3_3 : decode prog_167_method_5_code 3 = .ok (.istore 4, 2) := by decide +kernel
theorem d3_5 : decode prog_167_method_5_code 5 = .ok (.iload 4, 2) := by decide +kernel
theorem d3_7 : decode prog_167_method_5_code 7 = .ok (.iload_n 2, 1) := by decide +kernel
theorem d3_8 : decode prog_167_method_5_code 8 = .ok (.if_icmp .ge 20, 3) := by decide +kernel
theorem d3_11 : decode prog_167_method_5_code 11 = .ok (.iload_n 3, 1) := by decide +kernel
theorem d3_12 : decode prog_167_method_5_code 12 = .ok (.aload_n 0, 1) := by decide +kernel
theorem d3_13 : decode prog_167_method_5_code 13 = .ok (.iload 4, 2) := by decide +kernel
theorem d3_15 : decode prog_167_method_5_code 15 = .ok (.baload, 1) := by decide +kernel
theorem d3_16 : decode prog_167_method_5_code 16 = .ok (.sipush 255, 3) := by decide +kernel
theorem d3_19 : decode prog_167_method_5_code 19 = .ok (.iand, 1) := by decide +kernel
theorem d3_20 : decode prog_167_method_5_code 20 = .ok (.iadd, 1) := by decide +kernel
theorem d3_21 : decode prog_167_method_5_code 21 = .ok (.istore_n 3, 1) := by decide +kernel
theorem d3_22 : decode prog_167_method_5_code 22 = .ok (.iinc 4 1, 3) := by decide +kernel
theorem d3_25 : decode prog_167_method_5_code 25 = .ok (.goto (-20), 3) := by decide +kernel
theorem d3_28 : decode prog_167_method_5_code 28 = .ok (.iload_n 3, 1) := by decide +kernel
theorem d3_29 : decode prog_167_method_5_code 29 = .ok (.sipush 255, 3) := by decide +kernel
theorem d3_32 : decode prog_167_method_5_code 32 = .ok (.iand, 1) := by decide +kernel
theorem d3_33 : decode prog_167_method_5_code 33 = .ok (.ireturn, 1) := by decide +kernel
theorem pn_3 : plainName "com/example/benchwire/benchwire/wire/Lis1a" = true := by first | (simp [plainName, overriddenIn]; done) | decide +kernel
theorem ef_3 (m : MethodId) (x0 : Addr) (x1 : Int32) (x2 : Int32) : entryFrame m #[(.ref x0), (.int x1), (.int x2)] 5 = mkF m 0 #[.val (.ref x0), .val (.int x1), .val (.int x2), .unset, .unset] [] := by first | (simp [entryFrame, mkF, argsToLocals, Value.category]; done) | rfl
def Q3 (Z : State) (a1 : Addr) (p2 : Int32) (p3 : Int32) (fb : Nat → Int32) (kl kd : Nat) (h0 : Heap) (n0 : Nat) (v : Option Value) (h : Heap) (L : List Loc) : Prop := v = some (.int ((csum fb kl kd (0 : Int32)) &&& (255 : Int32))) ∧ Fr n0 L ∧ h = h0
set_option maxRecDepth 65536 in
set_option maxHeartbeats 40000000 in
theorem rm3 (l : Launch) (Z : State) (a0 : Array Value) (hw : ∀ d ∈ tables_1, d.before a0 Z = true) (ws : List Jvm.Cond) (a1 : Addr) (p2 : Int32) (p3 : Int32) (fb : Nat → Int32) (kl kd : Nat) (h0 : Heap) (n0 : Nat) (Z0 : n0 ≤ h0.size) (A_ab : owAI Z h0 a1 .byte 6 fb) (hkl : p2.toInt = (kl : Int)) (hkd : p3.toInt = ((kl + kd : Nat) : Int)) (h6 : kl + kd ≤ 6) :
    MetFree l (⟨"com/example/benchwire/benchwire/wire/Lis1a", "checksum", "([BII)I"⟩ : MethodName) (head1 (Jvm.Cond.code (⟨"com/example/benchwire/benchwire/wire/Lis1a", "checksum", "([BII)I"⟩ : MethodName) prog_167_method_5_code 5 (some .int) :: ws) ({ frames := 0, cells := 0, slots := 0, locals := 0 } : Room)) (fun a U => a = #[(.ref a1), (.int p2), (.int p3)] ∧ Z.Warmed39 U.vm ∧ U.heap = h0) (fun _ _ _ _ _ => True) (fun _ U o U' => ∃ v L, o = .returned v ∧ Q3 Z a1 p2 p3 fb kl kd h0 n0 v U'.heap L ∧ FrameEnd U o U' L ({ frames := 0, cells := 0, slots := 0, locals := 0 } : Room).cells ({ frames := 0, cells := 0, slots := 0, locals := 0 } : Room).slots) := by
  refine MetFree.of_bodySF (plainFor_of_name pn_3) hisR ?_
  intro p e s m args below meth c s₁ Bd hml0 hP hK
  obtain ⟨rfl, hZ, hh⟩ := hP
  have hx := Bd.exec
  have hby := Bd.bytes
  have hml : c.maxLocals = 5 := hml0
  have hown : s.vm.findClass "com/example/benchwire/benchwire/wire/Lis1a" = some m.cls := findClass_of_methodNamed Bd.named
  have hnm := (name_of_methodNamed Bd.named Bd.method).1
  have X0 : Stand p l e ({ frames := 0, cells := 0, slots := 0, locals := 0 } : Room) s m #[(.ref a1), (.int p2), (.int p3)] below meth c s₁ [] 0 0 := Stand.of_body Bd
  have e0 : s₁.heap = h0 := by rw [← hh, Bd.state]; rfl
  have N0 := Fr.nil n0
  have pre0 : ∀ t, Steps p.tables e below (s₁.setTop (mkF m 0 #[.val (.ref a1), .val (.int p2), .val (.int p3), .unset, .unset] [])) t → Steps p.tables e below (s₁.setTop (entryFrame m #[(.ref a1), (.int p2), (.int p3)] 5)) t := fun t k => castTop (ef_3 m a1 p2 p3) k
  have pre1 : ∀ t, Steps p.tables e below (s₁.setTop (mkF m 5 #[.val (.ref a1), .val (.int p2), .val (.int p3), .val (.int (0 : Int32)), .val (.int p2)] [])) t → Steps p.tables e below (s₁.setTop (entryFrame m #[(.ref a1), (.int p2), (.int p3)] 5)) t := by
    intro t kt
    refine pre0 _ ?_
    show Steps p.tables e below (s₁.setTop (mkF m 0 #[.val (.ref a1), .val (.int p2), .val (.int p3), .unset, .unset] [])) _
    refine XS.iconst X0.here hx rfl (hb hby d3_0) ?_
    show Steps p.tables e below (s₁.setTop (mkF m 1 #[.val (.ref a1), .val (.int p2), .val (.int p3), .unset, .unset] [(.int (0 : Int32))])) _
    refine XS.istoreN X0.here hx rfl (hb hby d3_1) rfl (l' := #[.val (.ref a1), .val (.int p2), .val (.int p3), .val (.int (0 : Int32)), .unset]) rfl ?_
    show Steps p.tables e below (s₁.setTop (mkF m 2 #[.val (.ref a1), .val (.int p2), .val (.int p3), .val (.int (0 : Int32)), .unset] [])) _
    refine XS.iloadN X0.here hx rfl (hb hby d3_2) rfl ?_
    show Steps p.tables e below (s₁.setTop (mkF m 3 #[.val (.ref a1), .val (.int p2), .val (.int p3), .val (.int (0 : Int32)), .unset] [(.int p2)])) _
    refine XS.istore X0.here hx rfl (hb hby d3_3) rfl (l' := #[.val (.ref a1), .val (.int p2), .val (.int p3), .val (.int (0 : Int32)), .val (.int p2)]) rfl ?_
    exact kt
  have loop : ∀ (d : Nat) (li ls : Int32) (k : Nat), li.toInt = (k : Int) → p3.toInt = ((k + d : Nat) : Int) → k + d ≤ 6 → ∀ t, Steps p.tables e below (s₁.setTop (mkF m 28 #[.val (.ref a1), .val (.int p2), .val (.int p3), .val (.int (csum fb k d ls)), .val (.int p3)] [])) t → Steps p.tables e below (s₁.setTop (mkF m 5 #[.val (.ref a1), .val (.int p2), .val (.int p3), .val (.int ls), .val (.int li)] [])) t := by
    intro d
    induction d with
    | zero =>
      intro li ls k h1 h2 h3 t kt
      rw [own_ge h1 h2]
      have pre2 : ∀ t, Steps p.tables e below (s₁.setTop (mkF m 5 #[.val (.ref a1), .val (.int p2), .val (.int p3), .val (.int ls), .val (.int p3)] [])) t → Steps p.tables e below (s₁.setTop (mkF m 5 #[.val (.ref a1), .val (.int p2), .val (.int p3), .val (.int ls), .val (.int p3)] [])) t := fun _ k => k
      have pre3 : ∀ t, Steps p.tables e below (s₁.setTop (mkF m 28 #[.val (.ref a1), .val (.int p2), .val (.int p3), .val (.int ls), .val (.int p3)] [])) t → Steps p.tables e below (s₁.setTop (mkF m 5 #[.val (.ref a1), .val (.int p2), .val (.int p3), .val (.int ls), .val (.int p3)] [])) t := by
        intro t kt
        refine pre2 _ ?_
        show Steps p.tables e below (s₁.setTop (mkF m 5 #[.val (.ref a1), .val (.int p2), .val (.int p3), .val (.int ls), .val (.int p3)] [])) _
        refine XS.iload X0.here hx rfl (hb hby d3_5) rfl ?_
        show Steps p.tables e below (s₁.setTop (mkF m 7 #[.val (.ref a1), .val (.int p2), .val (.int p3), .val (.int ls), .val (.int p3)] [(.int p3)])) _
        refine XS.iloadN X0.here hx rfl (hb hby d3_7) rfl ?_
        show Steps p.tables e below (s₁.setTop (mkF m 8 #[.val (.ref a1), .val (.int p2), .val (.int p3), .val (.int ls), .val (.int p3)] [(.int p3), (.int p3)])) _
        refine XS.icmpYes X0.here hx rfl (pc0 := 8) (pc' := 28) rfl (hb hby d3_8) rfl (XT.ii_ge_t Int32.lt_irrefl) (by decide) (by decide) ?_
        exact kt
      exact pre3 _ kt
    | succ d ih =>
      intro li ls k h1 h2 h3 t kt
      have pre4 : ∀ t, Steps p.tables e below (s₁.setTop (mkF m 5 #[.val (.ref a1), .val (.int p2), .val (.int p3), .val (.int ls), .val (.int li)] [])) t → Steps p.tables e below (s₁.setTop (mkF m 5 #[.val (.ref a1), .val (.int p2), .val (.int p3), .val (.int ls), .val (.int li)] [])) t := fun _ k => k
      have pre5 : ∀ t, Steps p.tables e below (s₁.setTop (mkF m 5 #[.val (.ref a1), .val (.int p2), .val (.int p3), .val (.int (ls + ((fb k) &&& (255 : Int32)))), .val (.int (li + (1 : Int32)))] [])) t → Steps p.tables e below (s₁.setTop (mkF m 5 #[.val (.ref a1), .val (.int p2), .val (.int p3), .val (.int ls), .val (.int li)] [])) t := by
        intro t kt
        refine pre4 _ ?_
        show Steps p.tables e below (s₁.setTop (mkF m 5 #[.val (.ref a1), .val (.int p2), .val (.int p3), .val (.int ls), .val (.int li)] [])) _
        refine XS.iload X0.here hx rfl (hb hby d3_5) rfl ?_
        show Steps p.tables e below (s₁.setTop (mkF m 7 #[.val (.ref a1), .val (.int p2), .val (.int p3), .val (.int ls), .val (.int li)] [(.int li)])) _
        refine XS.iloadN X0.here hx rfl (hb hby d3_7) rfl ?_
        show Steps p.tables e below (s₁.setTop (mkF m 8 #[.val (.ref a1), .val (.int p2), .val (.int p3), .val (.int ls), .val (.int li)] [(.int p3), (.int li)])) _
        refine XS.icmpNo X0.here hx rfl (hb hby d3_8) rfl (XT.ii_ge_f (own_lt h1 h2)) ?_
        show Steps p.tables e below (s₁.setTop (mkF m 11 #[.val (.ref a1), .val (.int p2), .val (.int p3), .val (.int ls), .val (.int li)] [])) _
        refine XS.iloadN X0.here hx rfl (hb hby d3_11) rfl ?_
        show Steps p.tables e below (s₁.setTop (mkF m 12 #[.val (.ref a1), .val (.int p2), .val (.int p3), .val (.int ls), .val (.int li)] [(.int ls)])) _
        refine XS.aloadN X0.here hx rfl (hb hby d3_12) rfl rfl ?_
        show Steps p.tables e below (s₁.setTop (mkF m 13 #[.val (.ref a1), .val (.int p2), .val (.int p3), .val (.int ls), .val (.int li)] [(.ref a1), (.int ls)])) _
        refine XS.iload X0.here hx rfl (hb hby d3_13) rfl ?_
        show Steps p.tables e below (s₁.setTop (mkF m 15 #[.val (.ref a1), .val (.int p2), .val (.int p3), .val (.int ls), .val (.int li)] [(.int li), (.ref a1), (.int ls)])) _
        refine owLdB (k := k) X0 hx hZ e0 A_ab (j := li) h1 (by omega) (g := (mkF m 15 #[.val (.ref a1), .val (.int p2), .val (.int p3), .val (.int ls), .val (.int li)] [(.int li), (.ref a1), (.int ls)])) rfl rfl (hb hby d3_15) _ ?_
        show Steps p.tables e below (s₁.setTop (mkF m 16 #[.val (.ref a1), .val (.int p2), .val (.int p3), .val (.int ls), .val (.int li)] [(.int (fb k)), (.int ls)])) _
        refine XS.sipush X0.here hx rfl (hb hby d3_16) ?_
        show Steps p.tables e below (s₁.setTop (mkF m 19 #[.val (.ref a1), .val (.int p2), .val (.int p3), .val (.int ls), .val (.int li)] [(.int (255 : Int32)), (.int (fb k)), (.int ls)])) _
        refine XS.iand X0.here hx rfl (hb hby d3_19) rfl ?_
        show Steps p.tables e below (s₁.setTop (mkF m 20 #[.val (.ref a1), .val (.int p2), .val (.int p3), .val (.int ls), .val (.int li)] [(.int ((fb k) &&& (255 : Int32))), (.int ls)])) _
        refine XS.iadd X0.here hx rfl (hb hby d3_20) rfl ?_
        show Steps p.tables e below (s₁.setTop (mkF m 21 #[.val (.ref a1), .val (.int p2), .val (.int p3), .val (.int ls), .val (.int li)] [(.int (ls + ((fb k) &&& (255 : Int32))))])) _
        refine XS.istoreN X0.here hx rfl (hb hby d3_21) rfl (l' := #[.val (.ref a1), .val (.int p2), .val (.int p3), .val (.int (ls + ((fb k) &&& (255 : Int32)))), .val (.int li)]) rfl ?_
        show Steps p.tables e below (s₁.setTop (mkF m 22 #[.val (.ref a1), .val (.int p2), .val (.int p3), .val (.int (ls + ((fb k) &&& (255 : Int32)))), .val (.int li)] [])) _
        refine XS.iinc X0.here hx rfl (hb hby d3_22) rfl (l' := #[.val (.ref a1), .val (.int p2), .val (.int p3), .val (.int (ls + ((fb k) &&& (255 : Int32)))), .val (.int (li + (1 : Int32)))]) rfl ?_
        show Steps p.tables e below (s₁.setTop (mkF m 25 #[.val (.ref a1), .val (.int p2), .val (.int p3), .val (.int (ls + ((fb k) &&& (255 : Int32)))), .val (.int (li + (1 : Int32)))] [])) _
        refine XS.goto X0.here hx rfl (pc0 := 25) (pc' := 5) rfl (hb hby d3_25) (by decide) (by decide) ?_
        exact kt
      exact pre5 _ (ih (li + (1 : Int32)) (ls + ((fb k) &&& (255 : Int32))) (k + 1) (own_up h1 (by omega)) (by omega) (by omega) t kt)
  have pre6 : ∀ t, Steps p.tables e below (s₁.setTop (mkF m 28 #[.val (.ref a1), .val (.int p2), .val (.int p3), .val (.int (csum fb kl kd (0 : Int32))), .val (.int p3)] [])) t → Steps p.tables e below (s₁.setTop (entryFrame m #[(.ref a1), (.int p2), (.int p3)] 5)) t := fun t kt => pre1 _ (loop kd p2 (0 : Int32) kl hkl hkd h6 t kt)
  have pre7 : ∀ t, Steps p.tables e below (s₁.setTop (mkF m 33 #[.val (.ref a1), .val (.int p2), .val (.int p3), .val (.int (csum fb kl kd (0 : Int32))), .val (.int p3)] [(.int ((csum fb kl kd (0 : Int32)) &&& (255 : Int32)))])) t → Steps p.tables e below (s₁.setTop (entryFrame m #[(.ref a1), (.int p2), (.int p3)] 5)) t := by
    intro t kt
    refine pre6 _ ?_
    show Steps p.tables e below (s₁.setTop (mkF m 28 #[.val (.ref a1), .val (.int p2), .val (.int p3), .val (.int (csum fb kl kd (0 : Int32))), .val (.int p3)] [])) _
    refine XS.iloadN X0.here hx rfl (hb hby d3_28) rfl ?_
    show Steps p.tables e below (s₁.setTop (mkF m 29 #[.val (.ref a1), .val (.int p2), .val (.int p3), .val (.int (csum fb kl kd (0 : Int32))), .val (.int p3)] [(.int (csum fb kl kd (0 : Int32)))])) _
    refine XS.sipush X0.here hx rfl (hb hby d3_29) ?_
    show Steps p.tables e below (s₁.setTop (mkF m 32 #[.val (.ref a1), .val (.int p2), .val (.int p3), .val (.int (csum fb kl kd (0 : Int32))), .val (.int p3)] [(.int (255 : Int32)), (.int (csum fb kl kd (0 : Int32)))])) _
    refine XS.iand X0.here hx rfl (hb hby d3_32) rfl ?_
    exact kt
  obtain ⟨fs, hr, hrun, hended, hW, hsame⟩ := X0.leave (v := some (.int ((csum fb kl kd (0 : Int32)) &&& (255 : Int32)))) (fun h => by rw [Bd.returns] at h; cases h)
  refine ⟨_, _, pre7 _ ?_, hrun, hended, _, _, rfl, ?_, ⟨_, rfl⟩, hW, hsame.mono (by decide) (by decide)⟩
  · show Steps p.tables e below (s₁.setTop (mkF m 33 #[.val (.ref a1), .val (.int p2), .val (.int p3), .val (.int (csum fb kl kd (0 : Int32))), .val (.int p3)] [(.int ((csum fb kl kd (0 : Int32)) &&& (255 : Int32)))])) _
    exact owRetI X0 hx Bd.returns (hb hby d3_33) hr
  · show Q3 Z a1 p2 p3 fb kl kd h0 n0 _ s₁.heap _
    rw [e0]
    exact ⟨rfl, N0, rfl⟩
theorem own_kk (pr xa ya lo hi : Int32) (h_xa : xa = ((pr &&& (255 : Int32)) % (7 : Int32))) (h_ya : ya = ((((pr.toUInt32 >>> ((8 : Int32) &&& 31).toUInt32).toInt32) &&& (255 : Int32)) % (7 : Int32))) (h_lo : lo = (fn1 xa ya)) (h_hi : hi = (fn2 xa ya)) : ∃ kl kd : Nat, lo.toInt = (kl : Int) ∧ hi.toInt = ((kl + kd : Nat) : Int) ∧ kl + kd ≤ 6 := by
  have h1 := c_mask pr 255 8 (by decide) (by decide)
  have h2 := (c_irem (pr &&& 255) 7 7 rfl).1
  rw [← h_xa] at h2
  have h3 := c_mask ((pr.toUInt32 >>> ((8 : Int32) &&& 31).toUInt32).toInt32) 255 8 (by decide) (by decide)
  have h4 := (c_irem (((pr.toUInt32 >>> ((8 : Int32) &&& 31).toUInt32).toInt32) &&& 255) 7 7 rfl).1
  rw [← h_ya] at h4
  have hx : 0 ≤ xa.toInt ∧ xa.toInt ≤ 6 := by omega
  have hy : 0 ≤ ya.toInt ∧ ya.toInt ≤ 6 := by omega
  refine ⟨lo.toInt.toNat, (hi.toInt - lo.toInt).toNat, ?_⟩
  unfold fn1 at h_lo
  unfold fn2 at h_hi
  split at h_lo <;> split at h_hi <;> rename_i q1 q2 <;> rw [Int32.lt_iff_toInt_lt] at q1 q2 <;> subst h_lo h_hi <;> omega
theorem own_csum (fb fp : Nat → Int32) (hs : ∀ k, k < 6 → ((fp (k + 1)).toInt - ((fp k).toInt + ((fb k) &&& (255 : Int32)).toInt)) % 4294967296 = 0) : ∀ (d k : Nat) (z : Int32), k + d ≤ 6 → ((csum fb k d z).toInt - (z.toInt + (fp (k + d)).toInt - (fp k).toInt)) % 4294967296 = 0 := by
  intro d
  induction d with
  | zero => intro k z h; show (z.toInt - (z.toInt + (fp k).toInt - (fp k).toInt)) % 4294967296 = 0; omega
  | succ d ih =>
    intro k z h
    have h1 := ih (k + 1) (z + ((fb k) &&& (255 : Int32))) (by omega)
    have h2 := hs k (by omega)
    have h3 := c_iadd z ((fb k) &&& (255 : Int32))
    show ((csum fb (k + 1) d (z + ((fb k) &&& (255 : Int32)))).toInt - (z.toInt + (fp (k + (d + 1))).toInt - (fp k).toInt)) % 4294967296 = 0
    have e : k + 1 + d = k + (d + 1) := by omega
    rw [e] at h1
    omega
theorem own_law (fb fp : Nat → Int32) (s1 s2 s3 s4 s5 s6 ex got : Int32) (kl kd : Nat) (h_k6 : kl + kd ≤ 6) (h_s1 : s1 = ((0 : Int32) + ((fb 0) &&& (255 : Int32)))) (h_s2 : s2 = (s1 + ((fb 1) &&& (255 : Int32)))) (h_s3 : s3 = (s2 + ((fb 2) &&& (255 : Int32)))) (h_s4 : s4 = (s3 + ((fb 3) &&& (255 : Int32)))) (h_s5 : s5 = (s4 + ((fb 4) &&& (255 : Int32)))) (h_s6 : s6 = (s5 + ((fb 5) &&& (255 : Int32)))) (h_fp : fp = (owUp (owUp (owUp (owUp (owUp (owUp (owUp (fun _ => 0) 0 (0 : Int32)) 1 s1) 2 s2) 3 s3) 4 s4) 5 s5) 6 s6)) (h_ex : ex = (((fp (kl + kd)) - (fp kl)) &&& (255 : Int32))) (h_got : got = ((csum fb kl kd (0 : Int32)) &&& (255 : Int32))) : got = ex := by
  have hs : ∀ k, k < 6 → ((fp (k + 1)).toInt - ((fp k).toInt + ((fb k) &&& (255 : Int32)).toInt)) % 4294967296 = 0 := by
    intro k hk
    have e : k = 0 ∨ k = 1 ∨ k = 2 ∨ k = 3 ∨ k = 4 ∨ k = 5 := by omega
    have f0 : fp 0 = 0 := by rw [h_fp]; rfl
    have f1 : fp 1 = s1 := by rw [h_fp]; rfl
    have f2 : fp 2 = s2 := by rw [h_fp]; rfl
    have f3 : fp 3 = s3 := by rw [h_fp]; rfl
    have f4 : fp 4 = s4 := by rw [h_fp]; rfl
    have f5 : fp 5 = s5 := by rw [h_fp]; rfl
    have f6 : fp 6 = s6 := by rw [h_fp]; rfl
    rcases e with rfl | rfl | rfl | rfl | rfl | rfl
    · show ((fp 1).toInt - ((fp 0).toInt + _)) % _ = 0; rw [f1, f0, h_s1]; exact c_iadd _ _
    · show ((fp 2).toInt - ((fp 1).toInt + _)) % _ = 0; rw [f2, f1, h_s2]; exact c_iadd _ _
    · show ((fp 3).toInt - ((fp 2).toInt + _)) % _ = 0; rw [f3, f2, h_s3]; exact c_iadd _ _
    · show ((fp 4).toInt - ((fp 3).toInt + _)) % _ = 0; rw [f4, f3, h_s4]; exact c_iadd _ _
    · show ((fp 5).toInt - ((fp 4).toInt + _)) % _ = 0; rw [f5, f4, h_s5]; exact c_iadd _ _
    · show ((fp 6).toInt - ((fp 5).toInt + _)) % _ = 0; rw [f6, f5, h_s6]; exact c_iadd _ _
  have h1 := own_csum fb fp hs kd kl 0 h_k6
  have h2 := c_isub (fp (kl + kd)) (fp kl)
  have h3 := c_mask (fp (kl + kd) - fp kl) 255 8 (by decide) (by decide)
  have h4 := c_mask (csum fb kl kd 0) 255 8 (by decide) (by decide)
  have h5 : (0 : Int32).toInt = 0 := rfl
  rw [h_got, h_ex, ← Int32.toInt_inj]
  omega

theorem pn_0 : plainName "com/example/benchwire/benchwire/wire/Lis1aChecksumPinLaw" = true := by first | (simp [plainName, overriddenIn]; done) | decide +kernel
theorem ef_0 (m : MethodId) (x0 : Int32) (x1 : Int32) (x2 : Int32) : entryFrame m #[(.int x0), (.int x1), (.int x2)] maxLocals = mkF m 0 #[.val (.int x0), .val (.int x1), .val (.int x2), .unset, .unset, .unset, .unset, .unset, .unset, .unset, .unset] [] := by first | (simp [entryFrame, mkF, argsToLocals, Value.category, maxLocals]; done) | rfl
theorem pd_0 : parseMethodDescriptor "(II)I" = some ⟨[.int, .int], some .int⟩ := by decide +kernel
theorem pd_1 : parseMethodDescriptor "([BII)I" = some ⟨[(.array .byte), .int, .int], some .int⟩ := by decide +kernel
def Q0 (Z : State) (pa : Int32) (pb : Int32) (pr : Int32) (h0 : Heap) (n0 : Nat) (v : Option Value) (h : Heap) (L : List Loc) : Prop := v = some (.int 1) ∧ Fr n0 L
set_option maxRecDepth 65536 in
set_option maxHeartbeats 40000000 in
theorem rm0 (l : Launch) (Z : State) (a0 : Array Value) (hw : ∀ d ∈ tables_1, d.before a0 Z = true) (ws : List Jvm.Cond) (pa : Int32) (pb : Int32) (pr : Int32) (h0 : Heap) (n0 : Nat) (Z0 : n0 ≤ h0.size) :
    MetFree l x (head1 (Jvm.Cond.code x code maxLocals ret :: ws) room_1) (fun a U => a = #[(.int pa), (.int pb), (.int pr)] ∧ Z.Warmed39 U.vm ∧ U.heap = h0) (fun _ _ _ _ _ => True) (fun _ U o U' => ∃ v L, o = .returned v ∧ Q0 Z pa pb pr h0 n0 v U'.heap L ∧ FrameEnd U o U' L room_1.cells room_1.slots) := by
  refine MetFree.of_bodySF (plainFor_of_name pn_0) hisR ?_
  intro p e s m args below meth c s₁ Bd hml0 hP hK
  obtain ⟨rfl, hZ, hh⟩ := hP
  have hx := Bd.exec
  have hby := Bd.bytes
  have hml : c.maxLocals = 11 := hml0
  have hown : s.vm.findClass "com/example/benchwire/benchwire/wire/Lis1aChecksumPinLaw" = some m.cls := findClass_of_methodNamed Bd.named
  have hnm := (name_of_methodNamed Bd.named Bd.method).1
  have X0 : Stand p l e room_1 s m #[(.int pa), (.int pb), (.int pr)] below meth c s₁ [] 0 0 := Stand.of_body Bd
  have e0 : s₁.heap = h0 := by rw [← hh, Bd.state]; rfl
  have N0 := Fr.nil n0
  have pre0 : ∀ t, Steps p.tables e below (s₁.setTop (mkF m 0 #[.val (.int pa), .val (.int pb), .val (.int pr), .unset, .unset, .unset, .unset, .unset, .unset, .unset, .unset] [])) t → Steps p.tables e below (s₁.setTop (entryFrame m #[(.int pa), (.int pb), (.int pr)] maxLocals)) t := fun t k => castTop (ef_0 m pa pb pr) k
  obtain ⟨T1, gh1, k1, X1, hE1, E1, A1, st1⟩ := newP X0 hx hZ (hw _ (List.mem_of_getElem? (i := 0) rfl)) e0 (g := (mkF m 2 #[.val (.int pa), .val (.int pb), .val (.int pr), .unset, .unset, .unset, .unset, .unset, .unset, .unset, .unset] [(.int (6 : Int32))])) rfl (hb hby at_2) rfl (by decide) (cap := 6) (by decide) (by decide) (by decide) (by decide)
  obtain ⟨ab, g1⟩ : ∃ z, z = h0.size := ⟨_, rfl⟩
  rw [← g1] at A1 st1
  have g_ab : n0 ≤ ab := Nat.le_trans Z0 (Nat.le_of_eq g1.symm)
  have Z2 := Nat.le_trans Z0 E1.1
  have V1 : owAI Z gh1 ab .byte 6 (fun _ => 0) := owAI.new A1 rfl rfl
  obtain ⟨T3, gh3, X3, hE3, W3, V3, st3⟩ := owStB X1 hx hZ hE1 V1 (k := 0) (j := (0 : Int32)) rfl (by decide) (g := (mkF m 9 #[.val (.int pa), .val (.int pb), .val (.int pr), .val (.ref ab), .unset, .unset, .unset, .unset, .unset, .unset, .unset] [(.int (pa.toInt8.toInt32)), (.int (0 : Int32)), (.ref ab)])) rfl rfl (hb hby at_9)
  have Z5 := Nat.le_trans Z2 (Keep.of_wr W3).1
  have N6 := Fr.snoc X3 N0 g_ab
  obtain ⟨T7, gh7, X7, hE7, W7, V7, st7⟩ := owStB X3 hx hZ hE3 V3 (k := 1) (j := (1 : Int32)) rfl (by decide) (g := (mkF m 17 #[.val (.int pa), .val (.int pb), .val (.int pr), .val (.ref ab), .unset, .unset, .unset, .unset, .unset, .unset, .unset] [(.int (((pa.toUInt32 >>> ((8 : Int32) &&& 31).toUInt32).toInt32).toInt8.toInt32)), (.int (1 : Int32)), (.ref ab)])) rfl rfl (hb hby at_17)
  have Z9 := Nat.le_trans Z5 (Keep.of_wr W7).1
  have N10 := Fr.snoc X7 N6 g_ab
  obtain ⟨T11, gh11, X11, hE11, W11, V11, st11⟩ := owStB X7 hx hZ hE7 V7 (k := 2) (j := (2 : Int32)) rfl (by decide) (g := (mkF m 25 #[.val (.int pa), .val (.int pb), .val (.int pr), .val (.ref ab), .unset, .unset, .unset, .unset, .unset, .unset, .unset] [(.int (((pa.toUInt32 >>> ((16 : Int32) &&& 31).toUInt32).toInt32).toInt8.toInt32)), (.int (2 : Int32)), (.ref ab)])) rfl rfl (hb hby at_25)
  have Z13 := Nat.le_trans Z9 (Keep.of_wr W11).1
  have N14 := Fr.snoc X11 N10 g_ab
  obtain ⟨T15, gh15, X15, hE15, W15, V15, st15⟩ := owStB X11 hx hZ hE11 V11 (k := 3) (j := (3 : Int32)) rfl (by decide) (g := (mkF m 33 #[.val (.int pa), .val (.int pb), .val (.int pr), .val (.ref ab), .unset, .unset, .unset, .unset, .unset, .unset, .unset] [(.int (((pa.toUInt32 >>> ((24 : Int32) &&& 31).toUInt32).toInt32).toInt8.toInt32)), (.int (3 : Int32)), (.ref ab)])) rfl rfl (hb hby at_33)
  have Z17 := Nat.le_trans Z13 (Keep.of_wr W15).1
  have N18 := Fr.snoc X15 N14 g_ab
  obtain ⟨T19, gh19, X19, hE19, W19, V19, st19⟩ := owStB X15 hx hZ hE15 V15 (k := 4) (j := (4 : Int32)) rfl (by decide) (g := (mkF m 38 #[.val (.int pa), .val (.int pb), .val (.int pr), .val (.ref ab), .unset, .unset, .unset, .unset, .unset, .unset, .unset] [(.int (pb.toInt8.toInt32)), (.int (4 : Int32)), (.ref ab)])) rfl rfl (hb hby at_38)
  have Z21 := Nat.le_trans Z17 (Keep.of_wr W19).1
  have N22 := Fr.snoc X19 N18 g_ab
  obtain ⟨T23, gh23, X23, hE23, W23, V23, st23⟩ := owStB X19 hx hZ hE19 V19 (k := 5) (j := (5 : Int32)) rfl (by decide) (g := (mkF m 46 #[.val (.int pa), .val (.int pb), .val (.int pr), .val (.ref ab), .unset, .unset, .unset, .unset, .unset, .unset, .unset] [(.int (((pb.toUInt32 >>> ((8 : Int32) &&& 31).toUInt32).toInt32).toInt8.toInt32)), (.int (5 : Int32)), (.ref ab)])) rfl rfl (hb hby at_46)
  have Z25 := Nat.le_trans Z21 (Keep.of_wr W23).1
  have N26 := Fr.snoc X23 N22 g_ab
  obtain ⟨fb, h_fb⟩ : ∃ g : Nat → Int32, g = (owUp (owUp (owUp (owUp (owUp (owUp (fun _ => 0) 0 ((pa.toInt8.toInt32).toInt8.toInt32)) 1 ((((pa.toUInt32 >>> ((8 : Int32) &&& 31).toUInt32).toInt32).toInt8.toInt32).toInt8.toInt32)) 2 ((((pa.toUInt32 >>> ((16 : Int32) &&& 31).toUInt32).toInt32).toInt8.toInt32).toInt8.toInt32)) 3 ((((pa.toUInt32 >>> ((24 : Int32) &&& 31).toUInt32).toInt32).toInt8.toInt32).toInt8.toInt32)) 4 ((pb.toInt8.toInt32).toInt8.toInt32)) 5 ((((pb.toUInt32 >>> ((8 : Int32) &&& 31).toUInt32).toInt32).toInt8.toInt32).toInt8.toInt32)) := ⟨_, rfl⟩
  rw [← h_fb] at V23
  have pre27 : ∀ t, Steps p.tables e below (T23.setTop (mkF m 55 #[.val (.int pa), .val (.int pb), .val (.int pr), .val (.ref ab), .unset, .unset, .unset, .unset, .unset, .unset, .unset] [(.int ((pr &&& (255 : Int32)) % (7 : Int32)))])) t → Steps p.tables e below (s₁.setTop (entryFrame m #[(.int pa), (.int pb), (.int pr)] maxLocals)) t := by
    intro t kt
    refine pre0 _ ?_
    show Steps p.tables e below (s₁.setTop (mkF m 0 #[.val (.int pa), .val (.int pb), .val (.int pr), .unset, .unset, .unset, .unset, .unset, .unset, .unset, .unset] [])) _
    refine XS.bipush X0.here hx rfl (hb hby at_0) ?_
    show Steps p.tables e below (s₁.setTop (mkF m 2 #[.val (.int pa), .val (.int pb), .val (.int pr), .unset, .unset, .unset, .unset, .unset, .unset, .unset, .unset] [(.int (6 : Int32))])) _
    refine st1 _ ?_
    show Steps p.tables e below (T1.setTop (mkF m 4 #[.val (.int pa), .val (.int pb), .val (.int pr), .unset, .unset, .unset, .unset, .unset, .unset, .unset, .unset] [(.ref ab)])) _
    refine XS.astoreN X1.here hx rfl (hb hby at_4) rfl rfl (l' := #[.val (.int pa), .val (.int pb), .val (.int pr), .val (.ref ab), .unset, .unset, .unset, .unset, .unset, .unset, .unset]) rfl ?_
    show Steps p.tables e below (T1.setTop (mkF m 5 #[.val (.int pa), .val (.int pb), .val (.int pr), .val (.ref ab), .unset, .unset, .unset, .unset, .unset, .unset, .unset] [])) _
    refine XS.aloadN X1.here hx rfl (hb hby at_5) rfl rfl ?_
    show Steps p.tables e below (T1.setTop (mkF m 6 #[.val (.int pa), .val (.int pb), .val (.int pr), .val (.ref ab), .unset, .unset, .unset, .unset, .unset, .unset, .unset] [(.ref ab)])) _
    refine XS.iconst X1.here hx rfl (hb hby at_6) ?_
    show Steps p.tables e below (T1.setTop (mkF m 7 #[.val (.int pa), .val (.int pb), .val (.int pr), .val (.ref ab), .unset, .unset, .unset, .unset, .unset, .unset, .unset] [(.int (0 : Int32)), (.ref ab)])) _
    refine XS.iloadN X1.here hx rfl (hb hby at_7) rfl ?_
    show Steps p.tables e below (T1.setTop (mkF m 8 #[.val (.int pa), .val (.int pb), .val (.int pr), .val (.ref ab), .unset, .unset, .unset, .unset, .unset, .unset, .unset] [(.int pa), (.int (0 : Int32)), (.ref ab)])) _
    refine XS.i2b X1.here hx rfl (hb hby at_8) rfl ?_
    show Steps p.tables e below (T1.setTop (mkF m 9 #[.val (.int pa), .val (.int pb), .val (.int pr), .val (.ref ab), .unset, .unset, .unset, .unset, .unset, .unset, .unset] [(.int (pa.toInt8.toInt32)), (.int (0 : Int32)), (.ref ab)])) _
    refine st3 _ ?_
    show Steps p.tables e below (T3.setTop (mkF m 10 #[.val (.int pa), .val (.int pb), .val (.int pr), .val (.ref ab), .unset, .unset, .unset, .unset, .unset, .unset, .unset] [])) _
    refine XS.aloadN X3.here hx rfl (hb hby at_10) rfl rfl ?_
    show Steps p.tables e below (T3.setTop (mkF m 11 #[.val (.int pa), .val (.int pb), .val (.int pr), .val (.ref ab), .unset, .unset, .unset, .unset, .unset, .unset, .unset] [(.ref ab)])) _
    refine XS.iconst X3.here hx rfl (hb hby at_11) ?_
    show Steps p.tables e below (T3.setTop (mkF m 12 #[.val (.int pa), .val (.int pb), .val (.int pr), .val (.ref ab), .unset, .unset, .unset, .unset, .unset, .unset, .unset] [(.int (1 : Int32)), (.ref ab)])) _
    refine XS.iloadN X3.here hx rfl (hb hby at_12) rfl ?_
    show Steps p.tables e below (T3.setTop (mkF m 13 #[.val (.int pa), .val (.int pb), .val (.int pr), .val (.ref ab), .unset, .unset, .unset, .unset, .unset, .unset, .unset] [(.int pa), (.int (1 : Int32)), (.ref ab)])) _
    refine XS.bipush X3.here hx rfl (hb hby at_13) ?_
    show Steps p.tables e below (T3.setTop (mkF m 15 #[.val (.int pa), .val (.int pb), .val (.int pr), .val (.ref ab), .unset, .unset, .unset, .unset, .unset, .unset, .unset] [(.int (8 : Int32)), (.int pa), (.int (1 : Int32)), (.ref ab)])) _
    refine XS.iushr X3.here hx rfl (hb hby at_15) rfl ?_
    show Steps p.tables e below (T3.setTop (mkF m 16 #[.val (.int pa), .val (.int pb), .val (.int pr), .val (.ref ab), .unset, .unset, .unset, .unset, .unset, .unset, .unset] [(.int ((pa.toUInt32 >>> ((8 : Int32) &&& 31).toUInt32).toInt32)), (.int (1 : Int32)), (.ref ab)])) _
    refine XS.i2b X3.here hx rfl (hb hby at_16) rfl ?_
    show Steps p.tables e below (T3.setTop (mkF m 17 #[.val (.int pa), .val (.int pb), .val (.int pr), .val (.ref ab), .unset, .unset, .unset, .unset, .unset, .unset, .unset] [(.int (((pa.toUInt32 >>> ((8 : Int32) &&& 31).toUInt32).toInt32).toInt8.toInt32)), (.int (1 : Int32)), (.ref ab)])) _
    refine st7 _ ?_
    show Steps p.tables e below (T7.setTop (mkF m 18 #[.val (.int pa), .val (.int pb), .val (.int pr), .val (.ref ab), .unset, .unset, .unset, .unset, .unset, .unset, .unset] [])) _
    refine XS.aloadN X7.here hx rfl (hb hby at_18) rfl rfl ?_
    show Steps p.tables e below (T7.setTop (mkF m 19 #[.val (.int pa), .val (.int pb), .val (.int pr), .val (.ref ab), .unset, .unset, .unset, .unset, .unset, .unset, .unset] [(.ref ab)])) _
    refine XS.iconst X7.here hx rfl (hb hby at_19) ?_
    show Steps p.tables e below (T7.setTop (mkF m 20 #[.val (.int pa), .val (.int pb), .val (.int pr), .val (.ref ab), .unset, .unset, .unset, .unset, .unset, .unset, .unset] [(.int (2 : Int32)), (.ref ab)])) _
    refine XS.iloadN X7.here hx rfl (hb hby at_20) rfl ?_
    show Steps p.tables e below (T7.setTop (mkF m 21 #[.val (.int pa), .val (.int pb), .val (.int pr), .val (.ref ab), .unset, .unset, .unset, .unset, .unset, .unset, .unset] [(.int pa), (.int (2 : Int32)), (.ref ab)])) _
    refine XS.bipush X7.here hx rfl (hb hby at_21) ?_
    show Steps p.tables e below (T7.setTop (mkF m 23 #[.val (.int pa), .val (.int pb), .val (.int pr), .val (.ref ab), .unset, .unset, .unset, .unset, .unset, .unset, .unset] [(.int (16 : Int32)), (.int pa), (.int (2 : Int32)), (.ref ab)])) _
    refine XS.iushr X7.here hx rfl (hb hby at_23) rfl ?_
    show Steps p.tables e below (T7.setTop (mkF m 24 #[.val (.int pa), .val (.int pb), .val (.int pr), .val (.ref ab), .unset, .unset, .unset, .unset, .unset, .unset, .unset] [(.int ((pa.toUInt32 >>> ((16 : Int32) &&& 31).toUInt32).toInt32)), (.int (2 : Int32)), (.ref ab)])) _
    refine XS.i2b X7.here hx rfl (hb hby at_24) rfl ?_
    show Steps p.tables e below (T7.setTop (mkF m 25 #[.val (.int pa), .val (.int pb), .val (.int pr), .val (.ref ab), .unset, .unset, .unset, .unset, .unset, .unset, .unset] [(.int (((pa.toUInt32 >>> ((16 : Int32) &&& 31).toUInt32).toInt32).toInt8.toInt32)), (.int (2 : Int32)), (.ref ab)])) _
    refine st11 _ ?_
    show Steps p.tables e below (T11.setTop (mkF m 26 #[.val (.int pa), .val (.int pb), .val (.int pr), .val (.ref ab), .unset, .unset, .unset, .unset, .unset, .unset, .unset] [])) _
    refine XS.aloadN X11.here hx rfl (hb hby at_26) rfl rfl ?_
    show Steps p.tables e below (T11.setTop (mkF m 27 #[.val (.int pa), .val (.int pb), .val (.int pr), .val (.ref ab), .unset, .unset, .unset, .unset, .unset, .unset, .unset] [(.ref ab)])) _
    refine XS.iconst X11.here hx rfl (hb hby at_27) ?_
    show Steps p.tables e below (T11.setTop (mkF m 28 #[.val (.int pa), .val (.int pb), .val (.int pr), .val (.ref ab), .unset, .unset, .unset, .unset, .unset, .unset, .unset] [(.int (3 : Int32)), (.ref ab)])) _
    refine XS.iloadN X11.here hx rfl (hb hby at_28) rfl ?_
    show Steps p.tables e below (T11.setTop (mkF m 29 #[.val (.int pa), .val (.int pb), .val (.int pr), .val (.ref ab), .unset, .unset, .unset, .unset, .unset, .unset, .unset] [(.int pa), (.int (3 : Int32)), (.ref ab)])) _
    refine XS.bipush X11.here hx rfl (hb hby at_29) ?_
    show Steps p.tables e below (T11.setTop (mkF m 31 #[.val (.int pa), .val (.int pb), .val (.int pr), .val (.ref ab), .unset, .unset, .unset, .unset, .unset, .unset, .unset] [(.int (24 : Int32)), (.int pa), (.int (3 : Int32)), (.ref ab)])) _
    refine XS.iushr X11.here hx rfl (hb hby at_31) rfl ?_
    show Steps p.tables e below (T11.setTop (mkF m 32 #[.val (.int pa), .val (.int pb), .val (.int pr), .val (.ref ab), .unset, .unset, .unset, .unset, .unset, .unset, .unset] [(.int ((pa.toUInt32 >>> ((24 : Int32) &&& 31).toUInt32).toInt32)), (.int (3 : Int32)), (.ref ab)])) _
    refine XS.i2b X11.here hx rfl (hb hby at_32) rfl ?_
    show Steps p.tables e below (T11.setTop (mkF m 33 #[.val (.int pa), .val (.int pb), .val (.int pr), .val (.ref ab), .unset, .unset, .unset, .unset, .unset, .unset, .unset] [(.int (((pa.toUInt32 >>> ((24 : Int32) &&& 31).toUInt32).toInt32).toInt8.toInt32)), (.int (3 : Int32)), (.ref ab)])) _
    refine st15 _ ?_
    show Steps p.tables e below (T15.setTop (mkF m 34 #[.val (.int pa), .val (.int pb), .val (.int pr), .val (.ref ab), .unset, .unset, .unset, .unset, .unset, .unset, .unset] [])) _
    refine XS.aloadN X15.here hx rfl (hb hby at_34) rfl rfl ?_
    show Steps p.tables e below (T15.setTop (mkF m 35 #[.val (.int pa), .val (.int pb), .val (.int pr), .val (.ref ab), .unset, .unset, .unset, .unset, .unset, .unset, .unset] [(.ref ab)])) _
    refine XS.iconst X15.here hx rfl (hb hby at_35) ?_
    show Steps p.tables e below (T15.setTop (mkF m 36 #[.val (.int pa), .val (.int pb), .val (.int pr), .val (.ref ab), .unset, .unset, .unset, .unset, .unset, .unset, .unset] [(.int (4 : Int32)), (.ref ab)])) _
    refine XS.iloadN X15.here hx rfl (hb hby at_36) rfl ?_
    show Steps p.tables e below (T15.setTop (mkF m 37 #[.val (.int pa), .val (.int pb), .val (.int pr), .val (.ref ab), .unset, .unset, .unset, .unset, .unset, .unset, .unset] [(.int pb), (.int (4 : Int32)), (.ref ab)])) _
    refine XS.i2b X15.here hx rfl (hb hby at_37) rfl ?_
    show Steps p.tables e below (T15.setTop (mkF m 38 #[.val (.int pa), .val (.int pb), .val (.int pr), .val (.ref ab), .unset, .unset, .unset, .unset, .unset, .unset, .unset] [(.int (pb.toInt8.toInt32)), (.int (4 : Int32)), (.ref ab)])) _
    refine st19 _ ?_
    show Steps p.tables e below (T19.setTop (mkF m 39 #[.val (.int pa), .val (.int pb), .val (.int pr), .val (.ref ab), .unset, .unset, .unset, .unset, .unset, .unset, .unset] [])) _
    refine XS.aloadN X19.here hx rfl (hb hby at_39) rfl rfl ?_
    show Steps p.tables e below (T19.setTop (mkF m 40 #[.val (.int pa), .val (.int pb), .val (.int pr), .val (.ref ab), .unset, .unset, .unset, .unset, .unset, .unset, .unset] [(.ref ab)])) _
    refine XS.iconst X19.here hx rfl (hb hby at_40) ?_
    show Steps p.tables e below (T19.setTop (mkF m 41 #[.val (.int pa), .val (.int pb), .val (.int pr), .val (.ref ab), .unset, .unset, .unset, .unset, .unset, .unset, .unset] [(.int (5 : Int32)), (.ref ab)])) _
    refine XS.iloadN X19.here hx rfl (hb hby at_41) rfl ?_
    show Steps p.tables e below (T19.setTop (mkF m 42 #[.val (.int pa), .val (.int pb), .val (.int pr), .val (.ref ab), .unset, .unset, .unset, .unset, .unset, .unset, .unset] [(.int pb), (.int (5 : Int32)), (.ref ab)])) _
    refine XS.bipush X19.here hx rfl (hb hby at_42) ?_
    show Steps p.tables e below (T19.setTop (mkF m 44 #[.val (.int pa), .val (.int pb), .val (.int pr), .val (.ref ab), .unset, .unset, .unset, .unset, .unset, .unset, .unset] [(.int (8 : Int32)), (.int pb), (.int (5 : Int32)), (.ref ab)])) _
    refine XS.iushr X19.here hx rfl (hb hby at_44) rfl ?_
    show Steps p.tables e below (T19.setTop (mkF m 45 #[.val (.int pa), .val (.int pb), .val (.int pr), .val (.ref ab), .unset, .unset, .unset, .unset, .unset, .unset, .unset] [(.int ((pb.toUInt32 >>> ((8 : Int32) &&& 31).toUInt32).toInt32)), (.int (5 : Int32)), (.ref ab)])) _
    refine XS.i2b X19.here hx rfl (hb hby at_45) rfl ?_
    show Steps p.tables e below (T19.setTop (mkF m 46 #[.val (.int pa), .val (.int pb), .val (.int pr), .val (.ref ab), .unset, .unset, .unset, .unset, .unset, .unset, .unset] [(.int (((pb.toUInt32 >>> ((8 : Int32) &&& 31).toUInt32).toInt32).toInt8.toInt32)), (.int (5 : Int32)), (.ref ab)])) _
    refine st23 _ ?_
    show Steps p.tables e below (T23.setTop (mkF m 47 #[.val (.int pa), .val (.int pb), .val (.int pr), .val (.ref ab), .unset, .unset, .unset, .unset, .unset, .unset, .unset] [])) _
    refine XS.iloadN X23.here hx rfl (hb hby at_47) rfl ?_
    show Steps p.tables e below (T23.setTop (mkF m 48 #[.val (.int pa), .val (.int pb), .val (.int pr), .val (.ref ab), .unset, .unset, .unset, .unset, .unset, .unset, .unset] [(.int pr)])) _
    refine XS.sipush X23.here hx rfl (hb hby at_48) ?_
    show Steps p.tables e below (T23.setTop (mkF m 51 #[.val (.int pa), .val (.int pb), .val (.int pr), .val (.ref ab), .unset, .unset, .unset, .unset, .unset, .unset, .unset] [(.int (255 : Int32)), (.int pr)])) _
    refine XS.iand X23.here hx rfl (hb hby at_51) rfl ?_
    show Steps p.tables e below (T23.setTop (mkF m 52 #[.val (.int pa), .val (.int pb), .val (.int pr), .val (.ref ab), .unset, .unset, .unset, .unset, .unset, .unset, .unset] [(.int (pr &&& (255 : Int32)))])) _
    refine XS.bipush X23.here hx rfl (hb hby at_52) ?_
    show Steps p.tables e below (T23.setTop (mkF m 54 #[.val (.int pa), .val (.int pb), .val (.int pr), .val (.ref ab), .unset, .unset, .unset, .unset, .unset, .unset, .unset] [(.int (7 : Int32)), (.int (pr &&& (255 : Int32)))])) _
    refine iremM (g := (mkF m 54 #[.val (.int pa), .val (.int pb), .val (.int pr), .val (.ref ab), .unset, .unset, .unset, .unset, .unset, .unset, .unset] [(.int (7 : Int32)), (.int (pr &&& (255 : Int32)))])) X23 hx rfl (hb hby at_54) rfl (by decide) ?_
    exact kt
  obtain ⟨xa, h_xa⟩ : ∃ z : Int32, z = ((pr &&& (255 : Int32)) % (7 : Int32)) := ⟨_, rfl⟩
  have pre28 : ∀ t, Steps p.tables e below (T23.setTop (mkF m 55 #[.val (.int pa), .val (.int pb), .val (.int pr), .val (.ref ab), .unset, .unset, .unset, .unset, .unset, .unset, .unset] [(.int xa)])) t → Steps p.tables e below (s₁.setTop (entryFrame m #[(.int pa), (.int pb), (.int pr)] maxLocals)) t := by
    intro t kt
    rw [h_xa] at kt
    exact pre27 _ kt
  have pre29 : ∀ t, Steps p.tables e below (T23.setTop (mkF m 68 #[.val (.int pa), .val (.int pb), .val (.int pr), .val (.ref ab), .val (.int xa), .unset, .unset, .unset, .unset, .unset, .unset] [(.int ((((pr.toUInt32 >>> ((8 : Int32) &&& 31).toUInt32).toInt32) &&& (255 : Int32)) % (7 : Int32)))])) t → Steps p.tables e below (s₁.setTop (entryFrame m #[(.int pa), (.int pb), (.int pr)] maxLocals)) t := by
    intro t kt
    refine pre28 _ ?_
    show Steps p.tables e below (T23.setTop (mkF m 55 #[.val (.int pa), .val (.int pb), .val (.int pr), .val (.ref ab), .unset, .unset, .unset, .unset, .unset, .unset, .unset] [(.int xa)])) _
    refine XS.istore X23.here hx rfl (hb hby at_55) rfl (l' := #[.val (.int pa), .val (.int pb), .val (.int pr), .val (.ref ab), .val (.int xa), .unset, .unset, .unset, .unset, .unset, .unset]) rfl ?_
    show Steps p.tables e below (T23.setTop (mkF m 57 #[.val (.int pa), .val (.int pb), .val (.int pr), .val (.ref ab), .val (.int xa), .unset, .unset, .unset, .unset, .unset, .unset] [])) _
    refine XS.iloadN X23.here hx rfl (hb hby at_57) rfl ?_
    show Steps p.tables e below (T23.setTop (mkF m 58 #[.val (.int pa), .val (.int pb), .val (.int pr), .val (.ref ab), .val (.int xa), .unset, .unset, .unset, .unset, .unset, .unset] [(.int pr)])) _
    refine XS.bipush X23.here hx rfl (hb hby at_58) ?_
    show Steps p.tables e below (T23.setTop (mkF m 60 #[.val (.int pa), .val (.int pb), .val (.int pr), .val (.ref ab), .val (.int xa), .unset, .unset, .unset, .unset, .unset, .unset] [(.int (8 : Int32)), (.int pr)])) _
    refine XS.iushr X23.here hx rfl (hb hby at_60) rfl ?_
    show Steps p.tables e below (T23.setTop (mkF m 61 #[.val (.int pa), .val (.int pb), .val (.int pr), .val (.ref ab), .val (.int xa), .unset, .unset, .unset, .unset, .unset, .unset] [(.int ((pr.toUInt32 >>> ((8 : Int32) &&& 31).toUInt32).toInt32))])) _
    refine XS.sipush X23.here hx rfl (hb hby at_61) ?_
    show Steps p.tables e below (T23.setTop (mkF m 64 #[.val (.int pa), .val (.int pb), .val (.int pr), .val (.ref ab), .val (.int xa), .unset, .unset, .unset, .unset, .unset, .unset] [(.int (255 : Int32)), (.int ((pr.toUInt32 >>> ((8 : Int32) &&& 31).toUInt32).toInt32))])) _
    refine XS.iand X23.here hx rfl (hb hby at_64) rfl ?_
    show Steps p.tables e below (T23.setTop (mkF m 65 #[.val (.int pa), .val (.int pb), .val (.int pr), .val (.ref ab), .val (.int xa), .unset, .unset, .unset, .unset, .unset, .unset] [(.int (((pr.toUInt32 >>> ((8 : Int32) &&& 31).toUInt32).toInt32) &&& (255 : Int32)))])) _
    refine XS.bipush X23.here hx rfl (hb hby at_65) ?_
    show Steps p.tables e below (T23.setTop (mkF m 67 #[.val (.int pa), .val (.int pb), .val (.int pr), .val (.ref ab), .val (.int xa), .unset, .unset, .unset, .unset, .unset, .unset] [(.int (7 : Int32)), (.int (((pr.toUInt32 >>> ((8 : Int32) &&& 31).toUInt32).toInt32) &&& (255 : Int32)))])) _
    refine iremM (g := (mkF m 67 #[.val (.int pa), .val (.int pb), .val (.int pr), .val (.ref ab), .val (.int xa), .unset, .unset, .unset, .unset, .unset, .unset] [(.int (7 : Int32)), (.int (((pr.toUInt32 >>> ((8 : Int32) &&& 31).toUInt32).toInt32) &&& (255 : Int32)))])) X23 hx rfl (hb hby at_67) rfl (by decide) ?_
    exact kt
  obtain ⟨ya, h_ya⟩ : ∃ z : Int32, z = ((((pr.toUInt32 >>> ((8 : Int32) &&& 31).toUInt32).toInt32) &&& (255 : Int32)) % (7 : Int32)) := ⟨_, rfl⟩
  have pre30 : ∀ t, Steps p.tables e below (T23.setTop (mkF m 68 #[.val (.int pa), .val (.int pb), .val (.int pr), .val (.ref ab), .val (.int xa), .unset, .unset, .unset, .unset, .unset, .unset] [(.int ya)])) t → Steps p.tables e below (s₁.setTop (entryFrame m #[(.int pa), (.int pb), (.int pr)] maxLocals)) t := by
    intro t kt
    rw [h_ya] at kt
    exact pre29 _ kt
  obtain ⟨_, _, ⟨T31, L31, k31, n31⟩, -, X31, ⟨Lc31, hQ31, l31, y31, z31⟩, st31⟩ := Jvm.LawKit.callS X23 hx (y := (⟨"java/lang/Math", "min", "(II)I"⟩ : MethodName)) hown (mvT hZ (hw _ (List.mem_of_getElem? (i := 1) rfl))) (mvT hZ (hw _ (List.mem_of_getElem? (i := 2) rfl))) (mvT hZ (hw _ (List.mem_of_getElem? (i := 3) rfl))) (mvT hZ (hw _ (List.mem_of_getElem? (i := 4) rfl))) (by decide) (backOf (W := 0) (rm1 l Z a0 hw [] xa ya gh23 n0 Z25) hZ (hw _ (List.mem_of_getElem? (i := 4) rfl)) (hw _ (List.mem_of_getElem? (i := 3) rfl)) (by decide) (by decide)) (g := (mkF m 74 #[.val (.int pa), .val (.int pb), .val (.int pr), .val (.ref ab), .val (.int xa), .val (.int ya), .unset, .unset, .unset, .unset, .unset] [(.int ya), (.int xa)])) rfl (by rw [hml]; rfl) (argsL := [(.int xa), (.int ya)]) (rest := []) (lenOf pd_0 rfl) rfl (by show 2 * 0 + _ ≤ _; exact Nat.le_of_eq rfl) (hb hby at_74) (fun _ _ => ⟨rfl, hE23, (by decide : 1 + 0 ≤ _), (by decide : 6 + 0 ≤ _)⟩)
  dsimp only [Pt.U, Pt.locs, Pt.cells, Pt.slots] at X31 l31 y31 z31 st31 hQ31
  subst l31 y31 z31
  obtain ⟨rfl, N31q, hE31⟩ := hQ31
  have N31 := Fr.app N26 N31q
  have pre32 : ∀ t, Steps p.tables e below (T31.setTop (mkF m 77 #[.val (.int pa), .val (.int pb), .val (.int pr), .val (.ref ab), .val (.int xa), .val (.int ya), .unset, .unset, .unset, .unset, .unset] [(.int (fn1 xa ya))])) t → Steps p.tables e below (s₁.setTop (entryFrame m #[(.int pa), (.int pb), (.int pr)] maxLocals)) t := by
    intro t kt
    refine pre30 _ ?_
    show Steps p.tables e below (T23.setTop (mkF m 68 #[.val (.int pa), .val (.int pb), .val (.int pr), .val (.ref ab), .val (.int xa), .unset, .unset, .unset, .unset, .unset, .unset] [(.int ya)])) _
    refine XS.istore X23.here hx rfl (hb hby at_68) rfl (l' := #[.val (.int pa), .val (.int pb), .val (.int pr), .val (.ref ab), .val (.int xa), .val (.int ya), .unset, .unset, .unset, .unset, .unset]) rfl ?_
    show Steps p.tables e below (T23.setTop (mkF m 70 #[.val (.int pa), .val (.int pb), .val (.int pr), .val (.ref ab), .val (.int xa), .val (.int ya), .unset, .unset, .unset, .unset, .unset] [])) _
    refine XS.iload X23.here hx rfl (hb hby at_70) rfl ?_
    show Steps p.tables e below (T23.setTop (mkF m 72 #[.val (.int pa), .val (.int pb), .val (.int pr), .val (.ref ab), .val (.int xa), .val (.int ya), .unset, .unset, .unset, .unset, .unset] [(.int xa)])) _
    refine XS.iload X23.here hx rfl (hb hby at_72) rfl ?_
    show Steps p.tables e below (T23.setTop (mkF m 74 #[.val (.int pa), .val (.int pb), .val (.int pr), .val (.ref ab), .val (.int xa), .val (.int ya), .unset, .unset, .unset, .unset, .unset] [(.int ya), (.int xa)])) _
    refine st31 _ ?_
    exact kt
  obtain ⟨lo, h_lo⟩ : ∃ z : Int32, z = (fn1 xa ya) := ⟨_, rfl⟩
  have pre33 : ∀ t, Steps p.tables e below (T31.setTop (mkF m 77 #[.val (.int pa), .val (.int pb), .val (.int pr), .val (.ref ab), .val (.int xa), .val (.int ya), .unset, .unset, .unset, .unset, .unset] [(.int lo)])) t → Steps p.tables e below (s₁.setTop (entryFrame m #[(.int pa), (.int pb), (.int pr)] maxLocals)) t := by
    intro t kt
    rw [h_lo] at kt
    exact pre32 _ kt
  obtain ⟨_, _, ⟨T34, L34, k34, n34⟩, -, X34, ⟨Lc34, hQ34, l34, y34, z34⟩, st34⟩ := Jvm.LawKit.callS X31 hx (y := (⟨"java/lang/Math", "max", "(II)I"⟩ : MethodName)) hown (mvT hZ (hw _ (List.mem_of_getElem? (i := 5) rfl))) (mvT hZ (hw _ (List.mem_of_getElem? (i := 6) rfl))) (mvT hZ (hw _ (List.mem_of_getElem? (i := 3) rfl))) (mvT hZ (hw _ (List.mem_of_getElem? (i := 7) rfl))) (by decide) (backOf (W := 0) (rm2 l Z a0 hw [] xa ya gh23 n0 Z25) hZ (hw _ (List.mem_of_getElem? (i := 7) rfl)) (hw _ (List.mem_of_getElem? (i := 3) rfl)) (by decide) (by decide)) (g := (mkF m 83 #[.val (.int pa), .val (.int pb), .val (.int pr), .val (.ref ab), .val (.int xa), .val (.int ya), .val (.int lo), .unset, .unset, .unset, .unset] [(.int ya), (.int xa)])) rfl (by rw [hml]; rfl) (argsL := [(.int xa), (.int ya)]) (rest := []) (lenOf pd_0 rfl) rfl (by show 2 * 0 + _ ≤ _; exact Nat.le_of_eq rfl) (hb hby at_83) (fun _ _ => ⟨rfl, hE31, (by decide : 1 + 0 ≤ _), (by decide : 6 + 0 ≤ _)⟩)
  dsimp only [Pt.U, Pt.locs, Pt.cells, Pt.slots] at X34 l34 y34 z34 st34 hQ34
  subst l34 y34 z34
  obtain ⟨rfl, N34q, hE34⟩ := hQ34
  have N34 := Fr.app N31 N34q
  have pre35 : ∀ t, Steps p.tables e below (T34.setTop (mkF m 86 #[.val (.int pa), .val (.int pb), .val (.int pr), .val (.ref ab), .val (.int xa), .val (.int ya), .val (.int lo), .unset, .unset, .unset, .unset] [(.int (fn2 xa ya))])) t → Steps p.tables e below (s₁.setTop (entryFrame m #[(.int pa), (.int pb), (.int pr)] maxLocals)) t := by
    intro t kt
    refine pre33 _ ?_
    show Steps p.tables e below (T31.setTop (mkF m 77 #[.val (.int pa), .val (.int pb), .val (.int pr), .val (.ref ab), .val (.int xa), .val (.int ya), .unset, .unset, .unset, .unset, .unset] [(.int lo)])) _
    refine XS.istore X31.here hx rfl (hb hby at_77) rfl (l' := #[.val (.int pa), .val (.int pb), .val (.int pr), .val (.ref ab), .val (.int xa), .val (.int ya), .val (.int lo), .unset, .unset, .unset, .unset]) rfl ?_
    show Steps p.tables e below (T31.setTop (mkF m 79 #[.val (.int pa), .val (.int pb), .val (.int pr), .val (.ref ab), .val (.int xa), .val (.int ya), .val (.int lo), .unset, .unset, .unset, .unset] [])) _
    refine XS.iload X31.here hx rfl (hb hby at_79) rfl ?_
    show Steps p.tables e below (T31.setTop (mkF m 81 #[.val (.int pa), .val (.int pb), .val (.int pr), .val (.ref ab), .val (.int xa), .val (.int ya), .val (.int lo), .unset, .unset, .unset, .unset] [(.int xa)])) _
    refine XS.iload X31.here hx rfl (hb hby at_81) rfl ?_
    show Steps p.tables e below (T31.setTop (mkF m 83 #[.val (.int pa), .val (.int pb), .val (.int pr), .val (.ref ab), .val (.int xa), .val (.int ya), .val (.int lo), .unset, .unset, .unset, .unset] [(.int ya), (.int xa)])) _
    refine st34 _ ?_
    exact kt
  obtain ⟨hi, h_hi⟩ : ∃ z : Int32, z = (fn2 xa ya) := ⟨_, rfl⟩
  have pre36 : ∀ t, Steps p.tables e below (T34.setTop (mkF m 86 #[.val (.int pa), .val (.int pb), .val (.int pr), .val (.ref ab), .val (.int xa), .val (.int ya), .val (.int lo), .unset, .unset, .unset, .unset] [(.int hi)])) t → Steps p.tables e below (s₁.setTop (entryFrame m #[(.int pa), (.int pb), (.int pr)] maxLocals)) t := by
    intro t kt
    rw [h_hi] at kt
    exact pre35 _ kt
  obtain ⟨kl, kd, h_kl, h_kd, h_k6⟩ := own_kk pr xa ya lo hi h_xa h_ya h_lo h_hi
  obtain ⟨T37, gh37, k37, X37, hE37, E37, A37, st37⟩ := newP X34 hx hZ (hw _ (List.mem_of_getElem? (i := 8) rfl)) hE34 (g := (mkF m 90 #[.val (.int pa), .val (.int pb), .val (.int pr), .val (.ref ab), .val (.int xa), .val (.int ya), .val (.int lo), .val (.int hi), .unset, .unset, .unset] [(.int (7 : Int32))])) rfl (hb hby at_90) rfl (by decide) (cap := 7) (by decide) (by decide) (by decide) (by decide)
  obtain ⟨ap, g37⟩ : ∃ z, z = gh23.size := ⟨_, rfl⟩
  rw [← g37] at A37 st37
  have ne_ab_ap : ab ≠ ap := Nat.ne_of_lt (Nat.lt_of_lt_of_le V23.lt (Nat.le_of_eq g37.symm))
  have g_ap : n0 ≤ ap := Nat.le_trans Z25 (Nat.le_of_eq g37.symm)
  have f38 := V23.ext E37
  have Z39 := Nat.le_trans Z25 E37.1
  have V37 : owAI Z gh37 ap .int 7 (fun _ => 0) := owAI.new A37 rfl rfl
  obtain ⟨T40, gh40, X40, hE40, W40, V40, st40⟩ := owStI X37 hx hZ hE37 V37 (k := 0) (j := (0 : Int32)) rfl (by decide) (g := (mkF m 98 #[.val (.int pa), .val (.int pb), .val (.int pr), .val (.ref ab), .val (.int xa), .val (.int ya), .val (.int lo), .val (.int hi), .val (.ref ap), .unset, .unset] [(.int (0 : Int32)), (.int (0 : Int32)), (.ref ap)])) rfl rfl (hb hby at_98)
  have f41 := f38.other W40 ne_ab_ap
  have Z43 := Nat.le_trans Z39 (Keep.of_wr W40).1
  have N44 := Fr.snoc X40 N34 g_ap
  have pre45 : ∀ t, Steps p.tables e below (T40.setTop (mkF m 114 #[.val (.int pa), .val (.int pb), .val (.int pr), .val (.ref ab), .val (.int xa), .val (.int ya), .val (.int lo), .val (.int hi), .val (.ref ap), .unset, .unset] [(.int ((0 : Int32) + ((fb 0) &&& (255 : Int32)))), (.int (1 : Int32)), (.ref ap)])) t → Steps p.tables e below (s₁.setTop (entryFrame m #[(.int pa), (.int pb), (.int pr)] maxLocals)) t := by
    intro t kt
    refine pre36 _ ?_
    show Steps p.tables e below (T34.setTop (mkF m 86 #[.val (.int pa), .val (.int pb), .val (.int pr), .val (.ref ab), .val (.int xa), .val (.int ya), .val (.int lo), .unset, .unset, .unset, .unset] [(.int hi)])) _
    refine XS.istore X34.here hx rfl (hb hby at_86) rfl (l' := #[.val (.int pa), .val (.int pb), .val (.int pr), .val (.ref ab), .val (.int xa), .val (.int ya), .val (.int lo), .val (.int hi), .unset, .unset, .unset]) rfl ?_
    show Steps p.tables e below (T34.setTop (mkF m 88 #[.val (.int pa), .val (.int pb), .val (.int pr), .val (.ref ab), .val (.int xa), .val (.int ya), .val (.int lo), .val (.int hi), .unset, .unset, .unset] [])) _
    refine XS.bipush X34.here hx rfl (hb hby at_88) ?_
    show Steps p.tables e below (T34.setTop (mkF m 90 #[.val (.int pa), .val (.int pb), .val (.int pr), .val (.ref ab), .val (.int xa), .val (.int ya), .val (.int lo), .val (.int hi), .unset, .unset, .unset] [(.int (7 : Int32))])) _
    refine st37 _ ?_
    show Steps p.tables e below (T37.setTop (mkF m 92 #[.val (.int pa), .val (.int pb), .val (.int pr), .val (.ref ab), .val (.int xa), .val (.int ya), .val (.int lo), .val (.int hi), .unset, .unset, .unset] [(.ref ap)])) _
    refine XS.astore X37.here hx rfl (hb hby at_92) rfl rfl (l' := #[.val (.int pa), .val (.int pb), .val (.int pr), .val (.ref ab), .val (.int xa), .val (.int ya), .val (.int lo), .val (.int hi), .val (.ref ap), .unset, .unset]) rfl ?_
    show Steps p.tables e below (T37.setTop (mkF m 94 #[.val (.int pa), .val (.int pb), .val (.int pr), .val (.ref ab), .val (.int xa), .val (.int ya), .val (.int lo), .val (.int hi), .val (.ref ap), .unset, .unset] [])) _
    refine XS.aload X37.here hx rfl (hb hby at_94) rfl rfl ?_
    show Steps p.tables e below (T37.setTop (mkF m 96 #[.val (.int pa), .val (.int pb), .val (.int pr), .val (.ref ab), .val (.int xa), .val (.int ya), .val (.int lo), .val (.int hi), .val (.ref ap), .unset, .unset] [(.ref ap)])) _
    refine XS.iconst X37.here hx rfl (hb hby at_96) ?_
    show Steps p.tables e below (T37.setTop (mkF m 97 #[.val (.int pa), .val (.int pb), .val (.int pr), .val (.ref ab), .val (.int xa), .val (.int ya), .val (.int lo), .val (.int hi), .val (.ref ap), .unset, .unset] [(.int (0 : Int32)), (.ref ap)])) _
    refine XS.iconst X37.here hx rfl (hb hby at_97) ?_
    show Steps p.tables e below (T37.setTop (mkF m 98 #[.val (.int pa), .val (.int pb), .val (.int pr), .val (.ref ab), .val (.int xa), .val (.int ya), .val (.int lo), .val (.int hi), .val (.ref ap), .unset, .unset] [(.int (0 : Int32)), (.int (0 : Int32)), (.ref ap)])) _
    refine st40 _ ?_
    show Steps p.tables e below (T40.setTop (mkF m 99 #[.val (.int pa), .val (.int pb), .val (.int pr), .val (.ref ab), .val (.int xa), .val (.int ya), .val (.int lo), .val (.int hi), .val (.ref ap), .unset, .unset] [])) _
    refine XS.aload X40.here hx rfl (hb hby at_99) rfl rfl ?_
    show Steps p.tables e below (T40.setTop (mkF m 101 #[.val (.int pa), .val (.int pb), .val (.int pr), .val (.ref ab), .val (.int xa), .val (.int ya), .val (.int lo), .val (.int hi), .val (.ref ap), .unset, .unset] [(.ref ap)])) _
    refine XS.iconst X40.here hx rfl (hb hby at_101) ?_
    show Steps p.tables e below (T40.setTop (mkF m 102 #[.val (.int pa), .val (.int pb), .val (.int pr), .val (.ref ab), .val (.int xa), .val (.int ya), .val (.int lo), .val (.int hi), .val (.ref ap), .unset, .unset] [(.int (1 : Int32)), (.ref ap)])) _
    refine XS.aload X40.here hx rfl (hb hby at_102) rfl rfl ?_
    show Steps p.tables e below (T40.setTop (mkF m 104 #[.val (.int pa), .val (.int pb), .val (.int pr), .val (.ref ab), .val (.int xa), .val (.int ya), .val (.int lo), .val (.int hi), .val (.ref ap), .unset, .unset] [(.ref ap), (.int (1 : Int32)), (.ref ap)])) _
    refine XS.iconst X40.here hx rfl (hb hby at_104) ?_
    show Steps p.tables e below (T40.setTop (mkF m 105 #[.val (.int pa), .val (.int pb), .val (.int pr), .val (.ref ab), .val (.int xa), .val (.int ya), .val (.int lo), .val (.int hi), .val (.ref ap), .unset, .unset] [(.int (0 : Int32)), (.ref ap), (.int (1 : Int32)), (.ref ap)])) _
    refine owLdI (k := 0) X40 hx hZ hE40 V40 (j := (0 : Int32)) rfl (by decide) (g := (mkF m 105 #[.val (.int pa), .val (.int pb), .val (.int pr), .val (.ref ab), .val (.int xa), .val (.int ya), .val (.int lo), .val (.int hi), .val (.ref ap), .unset, .unset] [(.int (0 : Int32)), (.ref ap), (.int (1 : Int32)), (.ref ap)])) rfl rfl (hb hby at_105) _ ?_
    show Steps p.tables e below (T40.setTop (mkF m 106 #[.val (.int pa), .val (.int pb), .val (.int pr), .val (.ref ab), .val (.int xa), .val (.int ya), .val (.int lo), .val (.int hi), .val (.ref ap), .unset, .unset] [(.int (0 : Int32)), (.int (1 : Int32)), (.ref ap)])) _
    refine XS.aloadN X40.here hx rfl (hb hby at_106) rfl rfl ?_
    show Steps p.tables e below (T40.setTop (mkF m 107 #[.val (.int pa), .val (.int pb), .val (.int pr), .val (.ref ab), .val (.int xa), .val (.int ya), .val (.int lo), .val (.int hi), .val (.ref ap), .unset, .unset] [(.ref ab), (.int (0 : Int32)), (.int (1 : Int32)), (.ref ap)])) _
    refine XS.iconst X40.here hx rfl (hb hby at_107) ?_
    show Steps p.tables e below (T40.setTop (mkF m 108 #[.val (.int pa), .val (.int pb), .val (.int pr), .val (.ref ab), .val (.int xa), .val (.int ya), .val (.int lo), .val (.int hi), .val (.ref ap), .unset, .unset] [(.int (0 : Int32)), (.ref ab), (.int (0 : Int32)), (.int (1 : Int32)), (.ref ap)])) _
    refine owLdB (k := 0) X40 hx hZ hE40 f41 (j := (0 : Int32)) rfl (by decide) (g := (mkF m 108 #[.val (.int pa), .val (.int pb), .val (.int pr), .val (.ref ab), .val (.int xa), .val (.int ya), .val (.int lo), .val (.int hi), .val (.ref ap), .unset, .unset] [(.int (0 : Int32)), (.ref ab), (.int (0 : Int32)), (.int (1 : Int32)), (.ref ap)])) rfl rfl (hb hby at_108) _ ?_
    show Steps p.tables e below (T40.setTop (mkF m 109 #[.val (.int pa), .val (.int pb), .val (.int pr), .val (.ref ab), .val (.int xa), .val (.int ya), .val (.int lo), .val (.int hi), .val (.ref ap), .unset, .unset] [(.int (fb 0)), (.int (0 : Int32)), (.int (1 : Int32)), (.ref ap)])) _
    refine XS.sipush X40.here hx rfl (hb hby at_109) ?_
    show Steps p.tables e below (T40.setTop (mkF m 112 #[.val (.int pa), .val (.int pb), .val (.int pr), .val (.ref ab), .val (.int xa), .val (.int ya), .val (.int lo), .val (.int hi), .val (.ref ap), .unset, .unset] [(.int (255 : Int32)), (.int (fb 0)), (.int (0 : Int32)), (.int (1 : Int32)), (.ref ap)])) _
    refine XS.iand X40.here hx rfl (hb hby at_112) rfl ?_
    show Steps p.tables e below (T40.setTop (mkF m 113 #[.val (.int pa), .val (.int pb), .val (.int pr), .val (.ref ab), .val (.int xa), .val (.int ya), .val (.int lo), .val (.int hi), .val (.ref ap), .unset, .unset] [(.int ((fb 0) &&& (255 : Int32))), (.int (0 : Int32)), (.int (1 : Int32)), (.ref ap)])) _
    refine XS.iadd X40.here hx rfl (hb hby at_113) rfl ?_
    exact kt
  obtain ⟨s1, h_s1⟩ : ∃ z : Int32, z = ((0 : Int32) + ((fb 0) &&& (255 : Int32))) := ⟨_, rfl⟩
  have pre46 : ∀ t, Steps p.tables e below (T40.setTop (mkF m 114 #[.val (.int pa), .val (.int pb), .val (.int pr), .val (.ref ab), .val (.int xa), .val (.int ya), .val (.int lo), .val (.int hi), .val (.ref ap), .unset, .unset] [(.int s1), (.int (1 : Int32)), (.ref ap)])) t → Steps p.tables e below (s₁.setTop (entryFrame m #[(.int pa), (.int pb), (.int pr)] maxLocals)) t := by
    intro t kt
    rw [h_s1] at kt
    exact pre45 _ kt
  obtain ⟨T47, gh47, X47, hE47, W47, V47, st47⟩ := owStI X40 hx hZ hE40 V40 (k := 1) (j := (1 : Int32)) rfl (by decide) (g := (mkF m 114 #[.val (.int pa), .val (.int pb), .val (.int pr), .val (.ref ab), .val (.int xa), .val (.int ya), .val (.int lo), .val (.int hi), .val (.ref ap), .unset, .unset] [(.int s1), (.int (1 : Int32)), (.ref ap)])) rfl rfl (hb hby at_114)
  have f48 := f41.other W47 ne_ab_ap
  have Z50 := Nat.le_trans Z43 (Keep.of_wr W47).1
  have N51 := Fr.snoc X47 N44 g_ap
  have pre52 : ∀ t, Steps p.tables e below (T47.setTop (mkF m 130 #[.val (.int pa), .val (.int pb), .val (.int pr), .val (.ref ab), .val (.int xa), .val (.int ya), .val (.int lo), .val (.int hi), .val (.ref ap), .unset, .unset] [(.int (s1 + ((fb 1) &&& (255 : Int32)))), (.int (2 : Int32)), (.ref ap)])) t → Steps p.tables e below (s₁.setTop (entryFrame m #[(.int pa), (.int pb), (.int pr)] maxLocals)) t := by
    intro t kt
    refine pre46 _ ?_
    show Steps p.tables e below (T40.setTop (mkF m 114 #[.val (.int pa), .val (.int pb), .val (.int pr), .val (.ref ab), .val (.int xa), .val (.int ya), .val (.int lo), .val (.int hi), .val (.ref ap), .unset, .unset] [(.int s1), (.int (1 : Int32)), (.ref ap)])) _
    refine st47 _ ?_
    show Steps p.tables e below (T47.setTop (mkF m 115 #[.val (.int pa), .val (.int pb), .val (.int pr), .val (.ref ab), .val (.int xa), .val (.int ya), .val (.int lo), .val (.int hi), .val (.ref ap), .unset, .unset] [])) _
    refine XS.aload X47.here hx rfl (hb hby at_115) rfl rfl ?_
    show Steps p.tables e below (T47.setTop (mkF m 117 #[.val (.int pa), .val (.int pb), .val (.int pr), .val (.ref ab), .val (.int xa), .val (.int ya), .val (.int lo), .val (.int hi), .val (.ref ap), .unset, .unset] [(.ref ap)])) _
    refine XS.iconst X47.here hx rfl (hb hby at_117) ?_
    show Steps p.tables e below (T47.setTop (mkF m 118 #[.val (.int pa), .val (.int pb), .val (.int pr), .val (.ref ab), .val (.int xa), .val (.int ya), .val (.int lo), .val (.int hi), .val (.ref ap), .unset, .unset] [(.int (2 : Int32)), (.ref ap)])) _
    refine XS.aload X47.here hx rfl (hb hby at_118) rfl rfl ?_
    show Steps p.tables e below (T47.setTop (mkF m 120 #[.val (.int pa), .val (.int pb), .val (.int pr), .val (.ref ab), .val (.int xa), .val (.int ya), .val (.int lo), .val (.int hi), .val (.ref ap), .unset, .unset] [(.ref ap), (.int (2 : Int32)), (.ref ap)])) _
    refine XS.iconst X47.here hx rfl (hb hby at_120) ?_
    show Steps p.tables e below (T47.setTop (mkF m 121 #[.val (.int pa), .val (.int pb), .val (.int pr), .val (.ref ab), .val (.int xa), .val (.int ya), .val (.int lo), .val (.int hi), .val (.ref ap), .unset, .unset] [(.int (1 : Int32)), (.ref ap), (.int (2 : Int32)), (.ref ap)])) _
    refine owLdI (k := 1) X47 hx hZ hE47 V47 (j := (1 : Int32)) rfl (by decide) (g := (mkF m 121 #[.val (.int pa), .val (.int pb), .val (.int pr), .val (.ref ab), .val (.int xa), .val (.int ya), .val (.int lo), .val (.int hi), .val (.ref ap), .unset, .unset] [(.int (1 : Int32)), (.ref ap), (.int (2 : Int32)), (.ref ap)])) rfl rfl (hb hby at_121) _ ?_
    show Steps p.tables e below (T47.setTop (mkF m 122 #[.val (.int pa), .val (.int pb), .val (.int pr), .val (.ref ab), .val (.int xa), .val (.int ya), .val (.int lo), .val (.int hi), .val (.ref ap), .unset, .unset] [(.int s1), (.int (2 : Int32)), (.ref ap)])) _
    refine XS.aloadN X47.here hx rfl (hb hby at_122) rfl rfl ?_
    show Steps p.tables e below (T47.setTop (mkF m 123 #[.val (.int pa), .val (.int pb), .val (.int pr), .val (.ref ab), .val (.int xa), .val (.int ya), .val (.int lo), .val (.int hi), .val (.ref ap), .unset, .unset] [(.ref ab), (.int s1), (.int (2 : Int32)), (.ref ap)])) _
    refine XS.iconst X47.here hx rfl (hb hby at_123) ?_
    show Steps p.tables e below (T47.setTop (mkF m 124 #[.val (.int pa), .val (.int pb), .val (.int pr), .val (.ref ab), .val (.int xa), .val (.int ya), .val (.int lo), .val (.int hi), .val (.ref ap), .unset, .unset] [(.int (1 : Int32)), (.ref ab), (.int s1), (.int (2 : Int32)), (.ref ap)])) _
    refine owLdB (k := 1) X47 hx hZ hE47 f48 (j := (1 : Int32)) rfl (by decide) (g := (mkF m 124 #[.val (.int pa), .val (.int pb), .val (.int pr), .val (.ref ab), .val (.int xa), .val (.int ya), .val (.int lo), .val (.int hi), .val (.ref ap), .unset, .unset] [(.int (1 : Int32)), (.ref ab), (.int s1), (.int (2 : Int32)), (.ref ap)])) rfl rfl (hb hby at_124) _ ?_
    show Steps p.tables e below (T47.setTop (mkF m 125 #[.val (.int pa), .val (.int pb), .val (.int pr), .val (.ref ab), .val (.int xa), .val (.int ya), .val (.int lo), .val (.int hi), .val (.ref ap), .unset, .unset] [(.int (fb 1)), (.int s1), (.int (2 : Int32)), (.ref ap)])) _
    refine XS.sipush X47.here hx rfl (hb hby at_125) ?_
    show Steps p.tables e below (T47.setTop (mkF m 128 #[.val (.int pa), .val (.int pb), .val (.int pr), .val (.ref ab), .val (.int xa), .val (.int ya), .val (.int lo), .val (.int hi), .val (.ref ap), .unset, .unset] [(.int (255 : Int32)), (.int (fb 1)), (.int s1), (.int (2 : Int32)), (.ref ap)])) _
    refine XS.iand X47.here hx rfl (hb hby at_128) rfl ?_
    show Steps p.tables e below (T47.setTop (mkF m 129 #[.val (.int pa), .val (.int pb), .val (.int pr), .val (.ref ab), .val (.int xa), .val (.int ya), .val (.int lo), .val (.int hi), .val (.ref ap), .unset, .unset] [(.int ((fb 1) &&& (255 : Int32))), (.int s1), (.int (2 : Int32)), (.ref ap)])) _
    refine XS.iadd X47.here hx rfl (hb hby at_129) rfl ?_
    exact kt
  obtain ⟨s2, h_s2⟩ : ∃ z : Int32, z = (s1 + ((fb 1) &&& (255 : Int32))) := ⟨_, rfl⟩
  have pre53 : ∀ t, Steps p.tables e below (T47.setTop (mkF m 130 #[.val (.int pa), .val (.int pb), .val (.int pr), .val (.ref ab), .val (.int xa), .val (.int ya), .val (.int lo), .val (.int hi), .val (.ref ap), .unset, .unset] [(.int s2), (.int (2 : Int32)), (.ref ap)])) t → Steps p.tables e below (s₁.setTop (entryFrame m #[(.int pa), (.int pb), (.int pr)] maxLocals)) t := by
    intro t kt
    rw [h_s2] at kt
    exact pre52 _ kt
  obtain ⟨T54, gh54, X54, hE54, W54, V54, st54⟩ := owStI X47 hx hZ hE47 V47 (k := 2) (j := (2 : Int32)) rfl (by decide) (g := (mkF m 130 #[.val (.int pa), .val (.int pb), .val (.int pr), .val (.ref ab), .val (.int xa), .val (.int ya), .val (.int lo), .val (.int hi), .val (.ref ap), .unset, .unset] [(.int s2), (.int (2 : Int32)), (.ref ap)])) rfl rfl (hb hby at_130)
  have f55 := f48.other W54 ne_ab_ap
  have Z57 := Nat.le_trans Z50 (Keep.of_wr W54).1
  have N58 := Fr.snoc X54 N51 g_ap
  have pre59 : ∀ t, Steps p.tables e below (T54.setTop (mkF m 146 #[.val (.int pa), .val (.int pb), .val (.int pr), .val (.ref ab), .val (.int xa), .val (.int ya), .val (.int lo), .val (.int hi), .val (.ref ap), .unset, .unset] [(.int (s2 + ((fb 2) &&& (255 : Int32)))), (.int (3 : Int32)), (.ref ap)])) t → Steps p.tables e below (s₁.setTop (entryFrame m #[(.int pa), (.int pb), (.int pr)] maxLocals)) t := by
    intro t kt
    refine pre53 _ ?_
    show Steps p.tables e below (T47.setTop (mkF m 130 #[.val (.int pa), .val (.int pb), .val (.int pr), .val (.ref ab), .val (.int xa), .val (.int ya), .val (.int lo), .val (.int hi), .val (.ref ap), .unset, .unset] [(.int s2), (.int (2 : Int32)), (.ref ap)])) _
    refine st54 _ ?_
    show Steps p.tables e below (T54.setTop (mkF m 131 #[.val (.int pa), .val (.int pb), .val (.int pr), .val (.ref ab), .val (.int xa), .val (.int ya), .val (.int lo), .val (.int hi), .val (.ref ap), .unset, .unset] [])) _
    refine XS.aload X54.here hx rfl (hb hby at_131) rfl rfl ?_
    show Steps p.tables e below (T54.setTop (mkF m 133 #[.val (.int pa), .val (.int pb), .val (.int pr), .val (.ref ab), .val (.int xa), .val (.int ya), .val (.int lo), .val (.int hi), .val (.ref ap), .unset, .unset] [(.ref ap)])) _
    refine XS.iconst X54.here hx rfl (hb hby at_133) ?_
    show Steps p.tables e below (T54.setTop (mkF m 134 #[.val (.int pa), .val (.int pb), .val (.int pr), .val (.ref ab), .val (.int xa), .val (.int ya), .val (.int lo), .val (.int hi), .val (.ref ap), .unset, .unset] [(.int (3 : Int32)), (.ref ap)])) _
    refine XS.aload X54.here hx rfl (hb hby at_134) rfl rfl ?_
    show Steps p.tables e below (T54.setTop (mkF m 136 #[.val (.int pa), .val (.int pb), .val (.int pr), .val (.ref ab), .val (.int xa), .val (.int ya), .val (.int lo), .val (.int hi), .val (.ref ap), .unset, .unset] [(.ref ap), (.int (3 : Int32)), (.ref ap)])) _
    refine XS.iconst X54.here hx rfl (hb hby at_136) ?_
    show Steps p.tables e below (T54.setTop (mkF m 137 #[.val (.int pa), .val (.int pb), .val (.int pr), .val (.ref ab), .val (.int xa), .val (.int ya), .val (.int lo), .val (.int hi), .val (.ref ap), .unset, .unset] [(.int (2 : Int32)), (.ref ap), (.int (3 : Int32)), (.ref ap)])) _
    refine owLdI (k := 2) X54 hx hZ hE54 V54 (j := (2 : Int32)) rfl (by decide) (g := (mkF m 137 #[.val (.int pa), .val (.int pb), .val (.int pr), .val (.ref ab), .val (.int xa), .val (.int ya), .val (.int lo), .val (.int hi), .val (.ref ap), .unset, .unset] [(.int (2 : Int32)), (.ref ap), (.int (3 : Int32)), (.ref ap)])) rfl rfl (hb hby at_137) _ ?_
    show Steps p.tables e below (T54.setTop (mkF m 138 #[.val (.int pa), .val (.int pb), .val (.int pr), .val (.ref ab), .val (.int xa), .val (.int ya), .val (.int lo), .val (.int hi), .val (.ref ap), .unset, .unset] [(.int s2), (.int (3 : Int32)), (.ref ap)])) _
    refine XS.aloadN X54.here hx rfl (hb hby at_138) rfl rfl ?_
    show Steps p.tables e below (T54.setTop (mkF m 139 #[.val (.int pa), .val (.int pb), .val (.int pr), .val (.ref ab), .val (.int xa), .val (.int ya), .val (.int lo), .val (.int hi), .val (.ref ap), .unset, .unset] [(.ref ab), (.int s2), (.int (3 : Int32)), (.ref ap)])) _
    refine XS.iconst X54.here hx rfl (hb hby at_139) ?_
    show Steps p.tables e below (T54.setTop (mkF m 140 #[.val (.int pa), .val (.int pb), .val (.int pr), .val (.ref ab), .val (.int xa), .val (.int ya), .val (.int lo), .val (.int hi), .val (.ref ap), .unset, .unset] [(.int (2 : Int32)), (.ref ab), (.int s2), (.int (3 : Int32)), (.ref ap)])) _
    refine owLdB (k := 2) X54 hx hZ hE54 f55 (j := (2 : Int32)) rfl (by decide) (g := (mkF m 140 #[.val (.int pa), .val (.int pb), .val (.int pr), .val (.ref ab), .val (.int xa), .val (.int ya), .val (.int lo), .val (.int hi), .val (.ref ap), .unset, .unset] [(.int (2 : Int32)), (.ref ab), (.int s2), (.int (3 : Int32)), (.ref ap)])) rfl rfl (hb hby at_140) _ ?_
    show Steps p.tables e below (T54.setTop (mkF m 141 #[.val (.int pa), .val (.int pb), .val (.int pr), .val (.ref ab), .val (.int xa), .val (.int ya), .val (.int lo), .val (.int hi), .val (.ref ap), .unset, .unset] [(.int (fb 2)), (.int s2), (.int (3 : Int32)), (.ref ap)])) _
    refine XS.sipush X54.here hx rfl (hb hby at_141) ?_
    show Steps p.tables e below (T54.setTop (mkF m 144 #[.val (.int pa), .val (.int pb), .val (.int pr), .val (.ref ab), .val (.int xa), .val (.int ya), .val (.int lo), .val (.int hi), .val (.ref ap), .unset, .unset] [(.int (255 : Int32)), (.int (fb 2)), (.int s2), (.int (3 : Int32)), (.ref ap)])) _
    refine XS.iand X54.here hx rfl (hb hby at_144) rfl ?_
    show Steps p.tables e below (T54.setTop (mkF m 145 #[.val (.int pa), .val (.int pb), .val (.int pr), .val (.ref ab), .val (.int xa), .val (.int ya), .val (.int lo), .val (.int hi), .val (.ref ap), .unset, .unset] [(.int ((fb 2) &&& (255 : Int32))), (.int s2), (.int (3 : Int32)), (.ref ap)])) _
    refine XS.iadd X54.here hx rfl (hb hby at_145) rfl ?_
    exact kt
  obtain ⟨s3, h_s3⟩ : ∃ z : Int32, z = (s2 + ((fb 2) &&& (255 : Int32))) := ⟨_, rfl⟩
  have pre60 : ∀ t, Steps p.tables e below (T54.setTop (mkF m 146 #[.val (.int pa), .val (.int pb), .val (.int pr), .val (.ref ab), .val (.int xa), .val (.int ya), .val (.int lo), .val (.int hi), .val (.ref ap), .unset, .unset] [(.int s3), (.int (3 : Int32)), (.ref ap)])) t → Steps p.tables e below (s₁.setTop (entryFrame m #[(.int pa), (.int pb), (.int pr)] maxLocals)) t := by
    intro t kt
    rw [h_s3] at kt
    exact pre59 _ kt
  obtain ⟨T61, gh61, X61, hE61, W61, V61, st61⟩ := owStI X54 hx hZ hE54 V54 (k := 3) (j := (3 : Int32)) rfl (by decide) (g := (mkF m 146 #[.val (.int pa), .val (.int pb), .val (.int pr), .val (.ref ab), .val (.int xa), .val (.int ya), .val (.int lo), .val (.int hi), .val (.ref ap), .unset, .unset] [(.int s3), (.int (3 : Int32)), (.ref ap)])) rfl rfl (hb hby at_146)
  have f62 := f55.other W61 ne_ab_ap
  have Z64 := Nat.le_trans Z57 (Keep.of_wr W61).1
  have N65 := Fr.snoc X61 N58 g_ap
  have pre66 : ∀ t, Steps p.tables e below (T61.setTop (mkF m 162 #[.val (.int pa), .val (.int pb), .val (.int pr), .val (.ref ab), .val (.int xa), .val (.int ya), .val (.int lo), .val (.int hi), .val (.ref ap), .unset, .unset] [(.int (s3 + ((fb 3) &&& (255 : Int32)))), (.int (4 : Int32)), (.ref ap)])) t → Steps p.tables e below (s₁.setTop (entryFrame m #[(.int pa), (.int pb), (.int pr)] maxLocals)) t := by
    intro t kt
    refine pre60 _ ?_
    show Steps p.tables e below (T54.setTop (mkF m 146 #[.val (.int pa), .val (.int pb), .val (.int pr), .val (.ref ab), .val (.int xa), .val (.int ya), .val (.int lo), .val (.int hi), .val (.ref ap), .unset, .unset] [(.int s3), (.int (3 : Int32)), (.ref ap)])) _
    refine st61 _ ?_
    show Steps p.tables e below (T61.setTop (mkF m 147 #[.val (.int pa), .val (.int pb), .val (.int pr), .val (.ref ab), .val (.int xa), .val (.int ya), .val (.int lo), .val (.int hi), .val (.ref ap), .unset, .unset] [])) _
    refine XS.aload X61.here hx rfl (hb hby at_147) rfl rfl ?_
    show Steps p.tables e below (T61.setTop (mkF m 149 #[.val (.int pa), .val (.int pb), .val (.int pr), .val (.ref ab), .val (.int xa), .val (.int ya), .val (.int lo), .val (.int hi), .val (.ref ap), .unset, .unset] [(.ref ap)])) _
    refine XS.iconst X61.here hx rfl (hb hby at_149) ?_
    show Steps p.tables e below (T61.setTop (mkF m 150 #[.val (.int pa), .val (.int pb), .val (.int pr), .val (.ref ab), .val (.int xa), .val (.int ya), .val (.int lo), .val (.int hi), .val (.ref ap), .unset, .unset] [(.int (4 : Int32)), (.ref ap)])) _
    refine XS.aload X61.here hx rfl (hb hby at_150) rfl rfl ?_
    show Steps p.tables e below (T61.setTop (mkF m 152 #[.val (.int pa), .val (.int pb), .val (.int pr), .val (.ref ab), .val (.int xa), .val (.int ya), .val (.int lo), .val (.int hi), .val (.ref ap), .unset, .unset] [(.ref ap), (.int (4 : Int32)), (.ref ap)])) _
    refine XS.iconst X61.here hx rfl (hb hby at_152) ?_
    show Steps p.tables e below (T61.setTop (mkF m 153 #[.val (.int pa), .val (.int pb), .val (.int pr), .val (.ref ab), .val (.int xa), .val (.int ya), .val (.int lo), .val (.int hi), .val (.ref ap), .unset, .unset] [(.int (3 : Int32)), (.ref ap), (.int (4 : Int32)), (.ref ap)])) _
    refine owLdI (k := 3) X61 hx hZ hE61 V61 (j := (3 : Int32)) rfl (by decide) (g := (mkF m 153 #[.val (.int pa), .val (.int pb), .val (.int pr), .val (.ref ab), .val (.int xa), .val (.int ya), .val (.int lo), .val (.int hi), .val (.ref ap), .unset, .unset] [(.int (3 : Int32)), (.ref ap), (.int (4 : Int32)), (.ref ap)])) rfl rfl (hb hby at_153) _ ?_
    show Steps p.tables e below (T61.setTop (mkF m 154 #[.val (.int pa), .val (.int pb), .val (.int pr), .val (.ref ab), .val (.int xa), .val (.int ya), .val (.int lo), .val (.int hi), .val (.ref ap), .unset, .unset] [(.int s3), (.int (4 : Int32)), (.ref ap)])) _
    refine XS.aloadN X61.here hx rfl (hb hby at_154) rfl rfl ?_
    show Steps p.tables e below (T61.setTop (mkF m 155 #[.val (.int pa), .val (.int pb), .val (.int pr), .val (.ref ab), .val (.int xa), .val (.int ya), .val (.int lo), .val (.int hi), .val (.ref ap), .unset, .unset] [(.ref ab), (.int s3), (.int (4 : Int32)), (.ref ap)])) _
    refine XS.iconst X61.here hx rfl (hb hby at_155) ?_
    show Steps p.tables e below (T61.setTop (mkF m 156 #[.val (.int pa), .val (.int pb), .val (.int pr), .val (.ref ab), .val (.int xa), .val (.int ya), .val (.int lo), .val (.int hi), .val (.ref ap), .unset, .unset] [(.int (3 : Int32)), (.ref ab), (.int s3), (.int (4 : Int32)), (.ref ap)])) _
    refine owLdB (k := 3) X61 hx hZ hE61 f62 (j := (3 : Int32)) rfl (by decide) (g := (mkF m 156 #[.val (.int pa), .val (.int pb), .val (.int pr), .val (.ref ab), .val (.int xa), .val (.int ya), .val (.int lo), .val (.int hi), .val (.ref ap), .unset, .unset] [(.int (3 : Int32)), (.ref ab), (.int s3), (.int (4 : Int32)), (.ref ap)])) rfl rfl (hb hby at_156) _ ?_
    show Steps p.tables e below (T61.setTop (mkF m 157 #[.val (.int pa), .val (.int pb), .val (.int pr), .val (.ref ab), .val (.int xa), .val (.int ya), .val (.int lo), .val (.int hi), .val (.ref ap), .unset, .unset] [(.int (fb 3)), (.int s3), (.int (4 : Int32)), (.ref ap)])) _
    refine XS.sipush X61.here hx rfl (hb hby at_157) ?_
    show Steps p.tables e below (T61.setTop (mkF m 160 #[.val (.int pa), .val (.int pb), .val (.int pr), .val (.ref ab), .val (.int xa), .val (.int ya), .val (.int lo), .val (.int hi), .val (.ref ap), .unset, .unset] [(.int (255 : Int32)), (.int (fb 3)), (.int s3), (.int (4 : Int32)), (.ref ap)])) _
    refine XS.iand X61.here hx rfl (hb hby at_160) rfl ?_
    show Steps p.tables e below (T61.setTop (mkF m 161 #[.val (.int pa), .val (.int pb), .val (.int pr), .val (.ref ab), .val (.int xa), .val (.int ya), .val (.int lo), .val (.int hi), .val (.ref ap), .unset, .unset] [(.int ((fb 3) &&& (255 : Int32))), (.int s3), (.int (4 : Int32)), (.ref ap)])) _
    refine XS.iadd X61.here hx rfl (hb hby at_161) rfl ?_
    exact kt
  obtain ⟨s4, h_s4⟩ : ∃ z : Int32, z = (s3 + ((fb 3) &&& (255 : Int32))) := ⟨_, rfl⟩
  have pre67 : ∀ t, Steps p.tables e below (T61.setTop (mkF m 162 #[.val (.int pa), .val (.int pb), .val (.int pr), .val (.ref ab), .val (.int xa), .val (.int ya), .val (.int lo), .val (.int hi), .val (.ref ap), .unset, .unset] [(.int s4), (.int (4 : Int32)), (.ref ap)])) t → Steps p.tables e below (s₁.setTop (entryFrame m #[(.int pa), (.int pb), (.int pr)] maxLocals)) t := by
    intro t kt
    rw [h_s4] at kt
    exact pre66 _ kt
  obtain ⟨T68, gh68, X68, hE68, W68, V68, st68⟩ := owStI X61 hx hZ hE61 V61 (k := 4) (j := (4 : Int32)) rfl (by decide) (g := (mkF m 162 #[.val (.int pa), .val (.int pb), .val (.int pr), .val (.ref ab), .val (.int xa), .val (.int ya), .val (.int lo), .val (.int hi), .val (.ref ap), .unset, .unset] [(.int s4), (.int (4 : Int32)), (.ref ap)])) rfl rfl (hb hby at_162)
  have f69 := f62.other W68 ne_ab_ap
  have Z71 := Nat.le_trans Z64 (Keep.of_wr W68).1
  have N72 := Fr.snoc X68 N65 g_ap
  have pre73 : ∀ t, Steps p.tables e below (T68.setTop (mkF m 178 #[.val (.int pa), .val (.int pb), .val (.int pr), .val (.ref ab), .val (.int xa), .val (.int ya), .val (.int lo), .val (.int hi), .val (.ref ap), .unset, .unset] [(.int (s4 + ((fb 4) &&& (255 : Int32)))), (.int (5 : Int32)), (.ref ap)])) t → Steps p.tables e below (s₁.setTop (entryFrame m #[(.int pa), (.int pb), (.int pr)] maxLocals)) t := by
    intro t kt
    refine pre67 _ ?_
    show Steps p.tables e below (T61.setTop (mkF m 162 #[.val (.int pa), .val (.int pb), .val (.int pr), .val (.ref ab), .val (.int xa), .val (.int ya), .val (.int lo), .val (.int hi), .val (.ref ap), .unset, .unset] [(.int s4), (.int (4 : Int32)), (.ref ap)])) _
    refine st68 _ ?_
    show Steps p.tables e below (T68.setTop (mkF m 163 #[.val (.int pa), .val (.int pb), .val (.int pr), .val (.ref ab), .val (.int xa), .val (.int ya), .val (.int lo), .val (.int hi), .val (.ref ap), .unset, .unset] [])) _
    refine XS.aload X68.here hx rfl (hb hby at_163) rfl rfl ?_
    show Steps p.tables e below (T68.setTop (mkF m 165 #[.val (.int pa), .val (.int pb), .val (.int pr), .val (.ref ab), .val (.int xa), .val (.int ya), .val (.int lo), .val (.int hi), .val (.ref ap), .unset, .unset] [(.ref ap)])) _
    refine XS.iconst X68.here hx rfl (hb hby at_165) ?_
    show Steps p.tables e below (T68.setTop (mkF m 166 #[.val (.int pa), .val (.int pb), .val (.int pr), .val (.ref ab), .val (.int xa), .val (.int ya), .val (.int lo), .val (.int hi), .val (.ref ap), .unset, .unset] [(.int (5 : Int32)), (.ref ap)])) _
    refine XS.aload X68.here hx rfl (hb hby at_166) rfl rfl ?_
    show Steps p.tables e below (T68.setTop (mkF m 168 #[.val (.int pa), .val (.int pb), .val (.int pr), .val (.ref ab), .val (.int xa), .val (.int ya), .val (.int lo), .val (.int hi), .val (.ref ap), .unset, .unset] [(.ref ap), (.int (5 : Int32)), (.ref ap)])) _
    refine XS.iconst X68.here hx rfl (hb hby at_168) ?_
    show Steps p.tables e below (T68.setTop (mkF m 169 #[.val (.int pa), .val (.int pb), .val (.int pr), .val (.ref ab), .val (.int xa), .val (.int ya), .val (.int lo), .val (.int hi), .val (.ref ap), .unset, .unset] [(.int (4 : Int32)), (.ref ap), (.int (5 : Int32)), (.ref ap)])) _
    refine owLdI (k := 4) X68 hx hZ hE68 V68 (j := (4 : Int32)) rfl (by decide) (g := (mkF m 169 #[.val (.int pa), .val (.int pb), .val (.int pr), .val (.ref ab), .val (.int xa), .val (.int ya), .val (.int lo), .val (.int hi), .val (.ref ap), .unset, .unset] [(.int (4 : Int32)), (.ref ap), (.int (5 : Int32)), (.ref ap)])) rfl rfl (hb hby at_169) _ ?_
    show Steps p.tables e below (T68.setTop (mkF m 170 #[.val (.int pa), .val (.int pb), .val (.int pr), .val (.ref ab), .val (.int xa), .val (.int ya), .val (.int lo), .val (.int hi), .val (.ref ap), .unset, .unset] [(.int s4), (.int (5 : Int32)), (.ref ap)])) _
    refine XS.aloadN X68.here hx rfl (hb hby at_170) rfl rfl ?_
    show Steps p.tables e below (T68.setTop (mkF m 171 #[.val (.int pa), .val (.int pb), .val (.int pr), .val (.ref ab), .val (.int xa), .val (.int ya), .val (.int lo), .val (.int hi), .val (.ref ap), .unset, .unset] [(.ref ab), (.int s4), (.int (5 : Int32)), (.ref ap)])) _
    refine XS.iconst X68.here hx rfl (hb hby at_171) ?_
    show Steps p.tables e below (T68.setTop (mkF m 172 #[.val (.int pa), .val (.int pb), .val (.int pr), .val (.ref ab), .val (.int xa), .val (.int ya), .val (.int lo), .val (.int hi), .val (.ref ap), .unset, .unset] [(.int (4 : Int32)), (.ref ab), (.int s4), (.int (5 : Int32)), (.ref ap)])) _
    refine owLdB (k := 4) X68 hx hZ hE68 f69 (j := (4 : Int32)) rfl (by decide) (g := (mkF m 172 #[.val (.int pa), .val (.int pb), .val (.int pr), .val (.ref ab), .val (.int xa), .val (.int ya), .val (.int lo), .val (.int hi), .val (.ref ap), .unset, .unset] [(.int (4 : Int32)), (.ref ab), (.int s4), (.int (5 : Int32)), (.ref ap)])) rfl rfl (hb hby at_172) _ ?_
    show Steps p.tables e below (T68.setTop (mkF m 173 #[.val (.int pa), .val (.int pb), .val (.int pr), .val (.ref ab), .val (.int xa), .val (.int ya), .val (.int lo), .val (.int hi), .val (.ref ap), .unset, .unset] [(.int (fb 4)), (.int s4), (.int (5 : Int32)), (.ref ap)])) _
    refine XS.sipush X68.here hx rfl (hb hby at_173) ?_
    show Steps p.tables e below (T68.setTop (mkF m 176 #[.val (.int pa), .val (.int pb), .val (.int pr), .val (.ref ab), .val (.int xa), .val (.int ya), .val (.int lo), .val (.int hi), .val (.ref ap), .unset, .unset] [(.int (255 : Int32)), (.int (fb 4)), (.int s4), (.int (5 : Int32)), (.ref ap)])) _
    refine XS.iand X68.here hx rfl (hb hby at_176) rfl ?_
    show Steps p.tables e below (T68.setTop (mkF m 177 #[.val (.int pa), .val (.int pb), .val (.int pr), .val (.ref ab), .val (.int xa), .val (.int ya), .val (.int lo), .val (.int hi), .val (.ref ap), .unset, .unset] [(.int ((fb 4) &&& (255 : Int32))), (.int s4), (.int (5 : Int32)), (.ref ap)])) _
    refine XS.iadd X68.here hx rfl (hb hby at_177) rfl ?_
    exact kt
  obtain ⟨s5, h_s5⟩ : ∃ z : Int32, z = (s4 + ((fb 4) &&& (255 : Int32))) := ⟨_, rfl⟩
  have pre74 : ∀ t, Steps p.tables e below (T68.setTop (mkF m 178 #[.val (.int pa), .val (.int pb), .val (.int pr), .val (.ref ab), .val (.int xa), .val (.int ya), .val (.int lo), .val (.int hi), .val (.ref ap), .unset, .unset] [(.int s5), (.int (5 : Int32)), (.ref ap)])) t → Steps p.tables e below (s₁.setTop (entryFrame m #[(.int pa), (.int pb), (.int pr)] maxLocals)) t := by
    intro t kt
    rw [h_s5] at kt
    exact pre73 _ kt
  obtain ⟨T75, gh75, X75, hE75, W75, V75, st75⟩ := owStI X68 hx hZ hE68 V68 (k := 5) (j := (5 : Int32)) rfl (by decide) (g := (mkF m 178 #[.val (.int pa), .val (.int pb), .val (.int pr), .val (.ref ab), .val (.int xa), .val (.int ya), .val (.int lo), .val (.int hi), .val (.ref ap), .unset, .unset] [(.int s5), (.int (5 : Int32)), (.ref ap)])) rfl rfl (hb hby at_178)
  have f76 := f69.other W75 ne_ab_ap
  have Z78 := Nat.le_trans Z71 (Keep.of_wr W75).1
  have N79 := Fr.snoc X75 N72 g_ap
  have pre80 : ∀ t, Steps p.tables e below (T75.setTop (mkF m 195 #[.val (.int pa), .val (.int pb), .val (.int pr), .val (.ref ab), .val (.int xa), .val (.int ya), .val (.int lo), .val (.int hi), .val (.ref ap), .unset, .unset] [(.int (s5 + ((fb 5) &&& (255 : Int32)))), (.int (6 : Int32)), (.ref ap)])) t → Steps p.tables e below (s₁.setTop (entryFrame m #[(.int pa), (.int pb), (.int pr)] maxLocals)) t := by
    intro t kt
    refine pre74 _ ?_
    show Steps p.tables e below (T68.setTop (mkF m 178 #[.val (.int pa), .val (.int pb), .val (.int pr), .val (.ref ab), .val (.int xa), .val (.int ya), .val (.int lo), .val (.int hi), .val (.ref ap), .unset, .unset] [(.int s5), (.int (5 : Int32)), (.ref ap)])) _
    refine st75 _ ?_
    show Steps p.tables e below (T75.setTop (mkF m 179 #[.val (.int pa), .val (.int pb), .val (.int pr), .val (.ref ab), .val (.int xa), .val (.int ya), .val (.int lo), .val (.int hi), .val (.ref ap), .unset, .unset] [])) _
    refine XS.aload X75.here hx rfl (hb hby at_179) rfl rfl ?_
    show Steps p.tables e below (T75.setTop (mkF m 181 #[.val (.int pa), .val (.int pb), .val (.int pr), .val (.ref ab), .val (.int xa), .val (.int ya), .val (.int lo), .val (.int hi), .val (.ref ap), .unset, .unset] [(.ref ap)])) _
    refine XS.bipush X75.here hx rfl (hb hby at_181) ?_
    show Steps p.tables e below (T75.setTop (mkF m 183 #[.val (.int pa), .val (.int pb), .val (.int pr), .val (.ref ab), .val (.int xa), .val (.int ya), .val (.int lo), .val (.int hi), .val (.ref ap), .unset, .unset] [(.int (6 : Int32)), (.ref ap)])) _
    refine XS.aload X75.here hx rfl (hb hby at_183) rfl rfl ?_
    show Steps p.tables e below (T75.setTop (mkF m 185 #[.val (.int pa), .val (.int pb), .val (.int pr), .val (.ref ab), .val (.int xa), .val (.int ya), .val (.int lo), .val (.int hi), .val (.ref ap), .unset, .unset] [(.ref ap), (.int (6 : Int32)), (.ref ap)])) _
    refine XS.iconst X75.here hx rfl (hb hby at_185) ?_
    show Steps p.tables e below (T75.setTop (mkF m 186 #[.val (.int pa), .val (.int pb), .val (.int pr), .val (.ref ab), .val (.int xa), .val (.int ya), .val (.int lo), .val (.int hi), .val (.ref ap), .unset, .unset] [(.int (5 : Int32)), (.ref ap), (.int (6 : Int32)), (.ref ap)])) _
    refine owLdI (k := 5) X75 hx hZ hE75 V75 (j := (5 : Int32)) rfl (by decide) (g := (mkF m 186 #[.val (.int pa), .val (.int pb), .val (.int pr), .val (.ref ab), .val (.int xa), .val (.int ya), .val (.int lo), .val (.int hi), .val (.ref ap), .unset, .unset] [(.int (5 : Int32)), (.ref ap), (.int (6 : Int32)), (.ref ap)])) rfl rfl (hb hby at_186) _ ?_
    show Steps p.tables e below (T75.setTop (mkF m 187 #[.val (.int pa), .val (.int pb), .val (.int pr), .val (.ref ab), .val (.int xa), .val (.int ya), .val (.int lo), .val (.int hi), .val (.ref ap), .unset, .unset] [(.int s5), (.int (6 : Int32)), (.ref ap)])) _
    refine XS.aloadN X75.here hx rfl (hb hby at_187) rfl rfl ?_
    show Steps p.tables e below (T75.setTop (mkF m 188 #[.val (.int pa), .val (.int pb), .val (.int pr), .val (.ref ab), .val (.int xa), .val (.int ya), .val (.int lo), .val (.int hi), .val (.ref ap), .unset, .unset] [(.ref ab), (.int s5), (.int (6 : Int32)), (.ref ap)])) _
    refine XS.iconst X75.here hx rfl (hb hby at_188) ?_
    show Steps p.tables e below (T75.setTop (mkF m 189 #[.val (.int pa), .val (.int pb), .val (.int pr), .val (.ref ab), .val (.int xa), .val (.int ya), .val (.int lo), .val (.int hi), .val (.ref ap), .unset, .unset] [(.int (5 : Int32)), (.ref ab), (.int s5), (.int (6 : Int32)), (.ref ap)])) _
    refine owLdB (k := 5) X75 hx hZ hE75 f76 (j := (5 : Int32)) rfl (by decide) (g := (mkF m 189 #[.val (.int pa), .val (.int pb), .val (.int pr), .val (.ref ab), .val (.int xa), .val (.int ya), .val (.int lo), .val (.int hi), .val (.ref ap), .unset, .unset] [(.int (5 : Int32)), (.ref ab), (.int s5), (.int (6 : Int32)), (.ref ap)])) rfl rfl (hb hby at_189) _ ?_
    show Steps p.tables e below (T75.setTop (mkF m 190 #[.val (.int pa), .val (.int pb), .val (.int pr), .val (.ref ab), .val (.int xa), .val (.int ya), .val (.int lo), .val (.int hi), .val (.ref ap), .unset, .unset] [(.int (fb 5)), (.int s5), (.int (6 : Int32)), (.ref ap)])) _
    refine XS.sipush X75.here hx rfl (hb hby at_190) ?_
    show Steps p.tables e below (T75.setTop (mkF m 193 #[.val (.int pa), .val (.int pb), .val (.int pr), .val (.ref ab), .val (.int xa), .val (.int ya), .val (.int lo), .val (.int hi), .val (.ref ap), .unset, .unset] [(.int (255 : Int32)), (.int (fb 5)), (.int s5), (.int (6 : Int32)), (.ref ap)])) _
    refine XS.iand X75.here hx rfl (hb hby at_193) rfl ?_
    show Steps p.tables e below (T75.setTop (mkF m 194 #[.val (.int pa), .val (.int pb), .val (.int pr), .val (.ref ab), .val (.int xa), .val (.int ya), .val (.int lo), .val (.int hi), .val (.ref ap), .unset, .unset] [(.int ((fb 5) &&& (255 : Int32))), (.int s5), (.int (6 : Int32)), (.ref ap)])) _
    refine XS.iadd X75.here hx rfl (hb hby at_194) rfl ?_
    exact kt
  obtain ⟨s6, h_s6⟩ : ∃ z : Int32, z = (s5 + ((fb 5) &&& (255 : Int32))) := ⟨_, rfl⟩
  have pre81 : ∀ t, Steps p.tables e below (T75.setTop (mkF m 195 #[.val (.int pa), .val (.int pb), .val (.int pr), .val (.ref ab), .val (.int xa), .val (.int ya), .val (.int lo), .val (.int hi), .val (.ref ap), .unset, .unset] [(.int s6), (.int (6 : Int32)), (.ref ap)])) t → Steps p.tables e below (s₁.setTop (entryFrame m #[(.int pa), (.int pb), (.int pr)] maxLocals)) t := by
    intro t kt
    rw [h_s6] at kt
    exact pre80 _ kt
  obtain ⟨T82, gh82, X82, hE82, W82, V82, st82⟩ := owStI X75 hx hZ hE75 V75 (k := 6) (j := (6 : Int32)) rfl (by decide) (g := (mkF m 195 #[.val (.int pa), .val (.int pb), .val (.int pr), .val (.ref ab), .val (.int xa), .val (.int ya), .val (.int lo), .val (.int hi), .val (.ref ap), .unset, .unset] [(.int s6), (.int (6 : Int32)), (.ref ap)])) rfl rfl (hb hby at_195)
  have f83 := f76.other W82 ne_ab_ap
  have Z85 := Nat.le_trans Z78 (Keep.of_wr W82).1
  have N86 := Fr.snoc X82 N79 g_ap
  obtain ⟨fp, h_fp⟩ : ∃ g : Nat → Int32, g = (owUp (owUp (owUp (owUp (owUp (owUp (owUp (fun _ => 0) 0 (0 : Int32)) 1 s1) 2 s2) 3 s3) 4 s4) 5 s5) 6 s6) := ⟨_, rfl⟩
  rw [← h_fp] at V82
  have pre87 : ∀ t, Steps p.tables e below (T82.setTop (mkF m 211 #[.val (.int pa), .val (.int pb), .val (.int pr), .val (.ref ab), .val (.int xa), .val (.int ya), .val (.int lo), .val (.int hi), .val (.ref ap), .unset, .unset] [(.int (((fp (kl + kd)) - (fp kl)) &&& (255 : Int32)))])) t → Steps p.tables e below (s₁.setTop (entryFrame m #[(.int pa), (.int pb), (.int pr)] maxLocals)) t := by
    intro t kt
    refine pre81 _ ?_
    show Steps p.tables e below (T75.setTop (mkF m 195 #[.val (.int pa), .val (.int pb), .val (.int pr), .val (.ref ab), .val (.int xa), .val (.int ya), .val (.int lo), .val (.int hi), .val (.ref ap), .unset, .unset] [(.int s6), (.int (6 : Int32)), (.ref ap)])) _
    refine st82 _ ?_
    show Steps p.tables e below (T82.setTop (mkF m 196 #[.val (.int pa), .val (.int pb), .val (.int pr), .val (.ref ab), .val (.int xa), .val (.int ya), .val (.int lo), .val (.int hi), .val (.ref ap), .unset, .unset] [])) _
    refine XS.aload X82.here hx rfl (hb hby at_196) rfl rfl ?_
    show Steps p.tables e below (T82.setTop (mkF m 198 #[.val (.int pa), .val (.int pb), .val (.int pr), .val (.ref ab), .val (.int xa), .val (.int ya), .val (.int lo), .val (.int hi), .val (.ref ap), .unset, .unset] [(.ref ap)])) _
    refine XS.iload X82.here hx rfl (hb hby at_198) rfl ?_
    show Steps p.tables e below (T82.setTop (mkF m 200 #[.val (.int pa), .val (.int pb), .val (.int pr), .val (.ref ab), .val (.int xa), .val (.int ya), .val (.int lo), .val (.int hi), .val (.ref ap), .unset, .unset] [(.int hi), (.ref ap)])) _
    refine owLdI (k := (kl + kd)) X82 hx hZ hE82 V82 (j := hi) h_kd (by omega) (g := (mkF m 200 #[.val (.int pa), .val (.int pb), .val (.int pr), .val (.ref ab), .val (.int xa), .val (.int ya), .val (.int lo), .val (.int hi), .val (.ref ap), .unset, .unset] [(.int hi), (.ref ap)])) rfl rfl (hb hby at_200) _ ?_
    show Steps p.tables e below (T82.setTop (mkF m 201 #[.val (.int pa), .val (.int pb), .val (.int pr), .val (.ref ab), .val (.int xa), .val (.int ya), .val (.int lo), .val (.int hi), .val (.ref ap), .unset, .unset] [(.int (fp (kl + kd)))])) _
    refine XS.aload X82.here hx rfl (hb hby at_201) rfl rfl ?_
    show Steps p.tables e below (T82.setTop (mkF m 203 #[.val (.int pa), .val (.int pb), .val (.int pr), .val (.ref ab), .val (.int xa), .val (.int ya), .val (.int lo), .val (.int hi), .val (.ref ap), .unset, .unset] [(.ref ap), (.int (fp (kl + kd)))])) _
    refine XS.iload X82.here hx rfl (hb hby at_203) rfl ?_
    show Steps p.tables e below (T82.setTop (mkF m 205 #[.val (.int pa), .val (.int pb), .val (.int pr), .val (.ref ab), .val (.int xa), .val (.int ya), .val (.int lo), .val (.int hi), .val (.ref ap), .unset, .unset] [(.int lo), (.ref ap), (.int (fp (kl + kd)))])) _
    refine owLdI (k := kl) X82 hx hZ hE82 V82 (j := lo) h_kl (by omega) (g := (mkF m 205 #[.val (.int pa), .val (.int pb), .val (.int pr), .val (.ref ab), .val (.int xa), .val (.int ya), .val (.int lo), .val (.int hi), .val (.ref ap), .unset, .unset] [(.int lo), (.ref ap), (.int (fp (kl + kd)))])) rfl rfl (hb hby at_205) _ ?_
    show Steps p.tables e below (T82.setTop (mkF m 206 #[.val (.int pa), .val (.int pb), .val (.int pr), .val (.ref ab), .val (.int xa), .val (.int ya), .val (.int lo), .val (.int hi), .val (.ref ap), .unset, .unset] [(.int (fp kl)), (.int (fp (kl + kd)))])) _
    refine XS.isub X82.here hx rfl (hb hby at_206) rfl ?_
    show Steps p.tables e below (T82.setTop (mkF m 207 #[.val (.int pa), .val (.int pb), .val (.int pr), .val (.ref ab), .val (.int xa), .val (.int ya), .val (.int lo), .val (.int hi), .val (.ref ap), .unset, .unset] [(.int ((fp (kl + kd)) - (fp kl)))])) _
    refine XS.sipush X82.here hx rfl (hb hby at_207) ?_
    show Steps p.tables e below (T82.setTop (mkF m 210 #[.val (.int pa), .val (.int pb), .val (.int pr), .val (.ref ab), .val (.int xa), .val (.int ya), .val (.int lo), .val (.int hi), .val (.ref ap), .unset, .unset] [(.int (255 : Int32)), (.int ((fp (kl + kd)) - (fp kl)))])) _
    refine XS.iand X82.here hx rfl (hb hby at_210) rfl ?_
    exact kt
  obtain ⟨ex, h_ex⟩ : ∃ z : Int32, z = (((fp (kl + kd)) - (fp kl)) &&& (255 : Int32)) := ⟨_, rfl⟩
  have pre88 : ∀ t, Steps p.tables e below (T82.setTop (mkF m 211 #[.val (.int pa), .val (.int pb), .val (.int pr), .val (.ref ab), .val (.int xa), .val (.int ya), .val (.int lo), .val (.int hi), .val (.ref ap), .unset, .unset] [(.int ex)])) t → Steps p.tables e below (s₁.setTop (entryFrame m #[(.int pa), (.int pb), (.int pr)] maxLocals)) t := by
    intro t kt
    rw [h_ex] at kt
    exact pre87 _ kt
  obtain ⟨_, _, ⟨T89, L89, k89, n89⟩, -, X89, ⟨Lc89, hQ89, l89, y89, z89⟩, st89⟩ := Jvm.LawKit.callS X82 hx (y := (⟨"com/example/benchwire/benchwire/wire/Lis1a", "checksum", "([BII)I"⟩ : MethodName)) hown (mvT hZ (hw _ (List.mem_of_getElem? (i := 9) rfl))) (mvT hZ (hw _ (List.mem_of_getElem? (i := 10) rfl))) (mvT hZ (hw _ (List.mem_of_getElem? (i := 11) rfl))) (mvT hZ (hw _ (List.mem_of_getElem? (i := 12) rfl))) (by decide) (backOf (W := 0) (rm3 l Z a0 hw [] ab lo hi fb kl kd gh82 n0 Z85 f83 h_kl h_kd h_k6) hZ (hw _ (List.mem_of_getElem? (i := 12) rfl)) (hw _ (List.mem_of_getElem? (i := 11) rfl)) (by decide) (by decide)) (g := (mkF m 218 #[.val (.int pa), .val (.int pb), .val (.int pr), .val (.ref ab), .val (.int xa), .val (.int ya), .val (.int lo), .val (.int hi), .val (.ref ap), .val (.int ex), .unset] [(.int hi), (.int lo), (.ref ab)])) rfl (by rw [hml]; rfl) (argsL := [(.ref ab), (.int lo), (.int hi)]) (rest := []) (lenOf pd_1 rfl) rfl (by show 2 * 0 + _ ≤ _; exact Nat.le_of_eq rfl) (hb hby at_218) (fun _ _ => ⟨rfl, hE82, (by decide : 2 + 0 ≤ _), (by decide : 13 + 0 ≤ _)⟩)
  dsimp only [Pt.U, Pt.locs, Pt.cells, Pt.slots] at X89 l89 y89 z89 st89 hQ89
  subst l89 y89 z89
  obtain ⟨rfl, N89q, hE89⟩ := hQ89
  have N89 := Fr.app N86 N89q
  have pre90 : ∀ t, Steps p.tables e below (T89.setTop (mkF m 221 #[.val (.int pa), .val (.int pb), .val (.int pr), .val (.ref ab), .val (.int xa), .val (.int ya), .val (.int lo), .val (.int hi), .val (.ref ap), .val (.int ex), .unset] [(.int ((csum fb kl kd (0 : Int32)) &&& (255 : Int32)))])) t → Steps p.tables e below (s₁.setTop (entryFrame m #[(.int pa), (.int pb), (.int pr)] maxLocals)) t := by
    intro t kt
    refine pre88 _ ?_
    show Steps p.tables e below (T82.setTop (mkF m 211 #[.val (.int pa), .val (.int pb), .val (.int pr), .val (.ref ab), .val (.int xa), .val (.int ya), .val (.int lo), .val (.int hi), .val (.ref ap), .unset, .unset] [(.int ex)])) _
    refine XS.istore X82.here hx rfl (hb hby at_211) rfl (l' := #[.val (.int pa), .val (.int pb), .val (.int pr), .val (.ref ab), .val (.int xa), .val (.int ya), .val (.int lo), .val (.int hi), .val (.ref ap), .val (.int ex), .unset]) rfl ?_
    show Steps p.tables e below (T82.setTop (mkF m 213 #[.val (.int pa), .val (.int pb), .val (.int pr), .val (.ref ab), .val (.int xa), .val (.int ya), .val (.int lo), .val (.int hi), .val (.ref ap), .val (.int ex), .unset] [])) _
    refine XS.aloadN X82.here hx rfl (hb hby at_213) rfl rfl ?_
    show Steps p.tables e below (T82.setTop (mkF m 214 #[.val (.int pa), .val (.int pb), .val (.int pr), .val (.ref ab), .val (.int xa), .val (.int ya), .val (.int lo), .val (.int hi), .val (.ref ap), .val (.int ex), .unset] [(.ref ab)])) _
    refine XS.iload X82.here hx rfl (hb hby at_214) rfl ?_
    show Steps p.tables e below (T82.setTop (mkF m 216 #[.val (.int pa), .val (.int pb), .val (.int pr), .val (.ref ab), .val (.int xa), .val (.int ya), .val (.int lo), .val (.int hi), .val (.ref ap), .val (.int ex), .unset] [(.int lo), (.ref ab)])) _
    refine XS.iload X82.here hx rfl (hb hby at_216) rfl ?_
    show Steps p.tables e below (T82.setTop (mkF m 218 #[.val (.int pa), .val (.int pb), .val (.int pr), .val (.ref ab), .val (.int xa), .val (.int ya), .val (.int lo), .val (.int hi), .val (.ref ap), .val (.int ex), .unset] [(.int hi), (.int lo), (.ref ab)])) _
    refine st89 _ ?_
    exact kt
  obtain ⟨got, h_got⟩ : ∃ z : Int32, z = ((csum fb kl kd (0 : Int32)) &&& (255 : Int32)) := ⟨_, rfl⟩
  have pre91 : ∀ t, Steps p.tables e below (T89.setTop (mkF m 221 #[.val (.int pa), .val (.int pb), .val (.int pr), .val (.ref ab), .val (.int xa), .val (.int ya), .val (.int lo), .val (.int hi), .val (.ref ap), .val (.int ex), .unset] [(.int got)])) t → Steps p.tables e below (s₁.setTop (entryFrame m #[(.int pa), (.int pb), (.int pr)] maxLocals)) t := by
    intro t kt
    rw [h_got] at kt
    exact pre90 _ kt
  have pre92 : ∀ t, Steps p.tables e below (T89.setTop (mkF m 227 #[.val (.int pa), .val (.int pb), .val (.int pr), .val (.ref ab), .val (.int xa), .val (.int ya), .val (.int lo), .val (.int hi), .val (.ref ap), .val (.int ex), .val (.int got)] [(.int ex), (.int got)])) t → Steps p.tables e below (s₁.setTop (entryFrame m #[(.int pa), (.int pb), (.int pr)] maxLocals)) t := by
    intro t kt
    refine pre91 _ ?_
    show Steps p.tables e below (T89.setTop (mkF m 221 #[.val (.int pa), .val (.int pb), .val (.int pr), .val (.ref ab), .val (.int xa), .val (.int ya), .val (.int lo), .val (.int hi), .val (.ref ap), .val (.int ex), .unset] [(.int got)])) _
    refine XS.istore X89.here hx rfl (hb hby at_221) rfl (l' := #[.val (.int pa), .val (.int pb), .val (.int pr), .val (.ref ab), .val (.int xa), .val (.int ya), .val (.int lo), .val (.int hi), .val (.ref ap), .val (.int ex), .val (.int got)]) rfl ?_
    show Steps p.tables e below (T89.setTop (mkF m 223 #[.val (.int pa), .val (.int pb), .val (.int pr), .val (.ref ab), .val (.int xa), .val (.int ya), .val (.int lo), .val (.int hi), .val (.ref ap), .val (.int ex), .val (.int got)] [])) _
    refine XS.iload X89.here hx rfl (hb hby at_223) rfl ?_
    show Steps p.tables e below (T89.setTop (mkF m 225 #[.val (.int pa), .val (.int pb), .val (.int pr), .val (.ref ab), .val (.int xa), .val (.int ya), .val (.int lo), .val (.int hi), .val (.ref ap), .val (.int ex), .val (.int got)] [(.int got)])) _
    refine XS.iload X89.here hx rfl (hb hby at_225) rfl ?_
    exact kt
  by_cases hc227_93 : got = ex
  · skip
    have pre94 : ∀ t, Steps p.tables e below (T89.setTop (mkF m 235 #[.val (.int pa), .val (.int pb), .val (.int pr), .val (.ref ab), .val (.int xa), .val (.int ya), .val (.int lo), .val (.int hi), .val (.ref ap), .val (.int ex), .val (.int got)] [(.int (1 : Int32))])) t → Steps p.tables e below (s₁.setTop (entryFrame m #[(.int pa), (.int pb), (.int pr)] maxLocals)) t := by
      intro t kt
      refine pre92 _ ?_
      show Steps p.tables e below (T89.setTop (mkF m 227 #[.val (.int pa), .val (.int pb), .val (.int pr), .val (.ref ab), .val (.int xa), .val (.int ya), .val (.int lo), .val (.int hi), .val (.ref ap), .val (.int ex), .val (.int got)] [(.int ex), (.int got)])) _
      refine XS.icmpNo X89.here hx rfl (hb hby at_227) rfl (XT.ii_ne_f hc227_93) ?_
      show Steps p.tables e below (T89.setTop (mkF m 230 #[.val (.int pa), .val (.int pb), .val (.int pr), .val (.ref ab), .val (.int xa), .val (.int ya), .val (.int lo), .val (.int hi), .val (.ref ap), .val (.int ex), .val (.int got)] [])) _
      refine XS.iconst X89.here hx rfl (hb hby at_230) ?_
      show Steps p.tables e below (T89.setTop (mkF m 231 #[.val (.int pa), .val (.int pb), .val (.int pr), .val (.ref ab), .val (.int xa), .val (.int ya), .val (.int lo), .val (.int hi), .val (.ref ap), .val (.int ex), .val (.int got)] [(.int (1 : Int32))])) _
      refine XS.goto X89.here hx rfl (pc0 := 231) (pc' := 235) rfl (hb hby at_231) (by decide) (by decide) ?_
      exact kt
    obtain ⟨fs, hr, hrun, hended, hW, hsame⟩ := X89.leave (v := some (.int (1 : Int32))) (fun h => by rw [Bd.returns] at h; cases h)
    refine ⟨_, _, pre94 _ ?_, hrun, hended, _, _, rfl, ?_, ⟨_, rfl⟩, hW, hsame.mono (by decide) (by decide)⟩
    · show Steps p.tables e below (T89.setTop (mkF m 235 #[.val (.int pa), .val (.int pb), .val (.int pr), .val (.ref ab), .val (.int xa), .val (.int ya), .val (.int lo), .val (.int hi), .val (.ref ap), .val (.int ex), .val (.int got)] [(.int (1 : Int32))])) _
      exact retN X89 hx (t := .boolean) Bd.returns (by simp) (hb hby at_235) hr
    · show Q0 Z pa pb pr h0 n0 _ T89.heap _
      rw [hE89]
      exact ⟨rfl, N89⟩
  · skip
    exact absurd (own_law fb fp s1 s2 s3 s4 s5 s6 ex got kl kd h_k6 h_s1 h_s2 h_s3 h_s4 h_s5 h_s6 h_fp h_ex h_got) hc227_93
set_option maxRecDepth 65536 in
set_option maxHeartbeats 40000000 in
theorem comes_1 {Post : Tables → Env → Array Value → State → Outcome → State → Prop} (hpost : ∀ tb e args s v u, (limb_1_1.after args s (.returned v) u = true ∧ limb_1_2.after args s (.returned v) u = true ∧ True) → FrameEnd s (.returned v) u (Jvm.fieldLocs frame_1_writes args s ++ Jvm.arrayLocs frame_1_arrays args s ++ Jvm.staticLocs frame_1_statics s) 16 128 → Post tb e args s (.returned v) u) :
    ArmFor flags0 classFile x code maxLocals ret World_1 tables_1 room_1 Calls_1 rest_1 Pre_1 Post := by
  intro l hfl _ _ p e ha hc hk s m args below hf hA hF happ hP
  obtain ⟨hcalls, hrest, hpre⟩ := hP
  obtain ⟨-, -, -, hnamed, -, -, -, hat⟩ := (Spec.applies_iff hf).mp happ
  obtain ⟨hg, hn⟩ := and_e (Cond.before_iff.mp (show (Jvm.Cond.and given_1 narrow_1).before args s = true from hpre))
  obtain ⟨g1, g2⟩ := and_e hg
  obtain ⟨g3, g4⟩ := and_e g2
  obtain ⟨g5, g6⟩ := and_e g4
  obtain ⟨w0, w1, w2, rfl⟩ : ∃ w0 w1 w2 : Value, args = #[w0, w1, w2] := by
    have hs : args.size = 3 := by simpa [Cond.value, given_1] using g1
    obtain ⟨L⟩ := args
    match L, hs with
    | [w0, w1, w2], _ => exact ⟨w0, w1, w2, rfl⟩
  have hw := fun d (hd : d ∈ tables_1) => atoms_spec (ws := Jvm.Cond.code x code maxLocals ret :: tables_1) hat d (List.mem_cons_of_mem _ hd)
  have hfit : Fit s := fun {y c} hc i hi => by
    obtain ⟨ha, rfl⟩ := Array.getElem?_eq_some_iff.mp hc
    have q := List.all_eq_true.mp ((Array.all_eq_true_iff_forall_mem.mp hF) _ (Array.getElem_mem ha)) i (List.mem_range.mpr hi)
    simpa [Array.getElem?_eq_getElem hi] using q
  obtain ⟨i0, ei0⟩ := is_v g3
  obtain rfl : w0 = (.int i0) := Option.some.inj ei0
  obtain ⟨i1, ei1⟩ := is_v g5
  obtain rfl : w1 = (.int i1) := Option.some.inj ei1
  obtain ⟨i2, ei2⟩ := is_v g6
  obtain rfl : w2 = (.int i2) := Option.some.inj ei2
  obtain ⟨n, o, h1, h2, h3, _, L, rfl, ⟨rfl, N⟩, hq⟩ := rm0 l s _ hw tables_1 i0 i1 i2 s.heap s.heap.size (Nat.le_refl _) p e ha hc hk s m _ below hf ((Spec.applies_iff_loose hf).mp happ).1 ⟨rfl, State.Warmed39.refl s, rfl⟩ trivial
  refine ⟨n, _, h1, h2, h3, hpost _ _ _ _ _ _ ⟨Cond.after_iff.mpr rfl, Cond.after_iff.mpr (eq_i res_at (Term.int_eval (1)) rfl), trivial⟩ ⟨hq.1, hq.2.1, (hq.2.2.sift fun y hy => Or.inr (N y hy)).mono (by decide) (by decide)⟩⟩
theorem main_1_1 : Claimed_1_1 := comes_1 fun _ _ _ _ _ _ h hF => ⟨h.1, hF⟩
theorem main_1_2 : Claimed_1_2 := comes_1 fun _ _ _ _ _ _ h hF => ⟨h.2.1, hF⟩
end Jvm.Pilot.@@N@@
namespace Jvm.Pilot.@@N@@
open Jvm Jvm.ClassFile Sem Op Lib Jvm.Free Jvm.Stand Jvm.Pilot.@@N@@.Jvm.D
/-! MADE BY PROGRAM (witnessworld.py) out of the Statement's table words and the real class files: 10 classes; the members and pool entries that the words name. The judged class is class 1, her method 1. -/
namespace start1
open Jvm.ClassFile
def u (s : String) : CpInfo := .utf8 (stringToUtf16 s)
/-- a pool by its gaps: so many unusable entries, then the entry; so many at the end -/
def gap : Nat → List CpInfo → List CpInfo
  | 0, r => r
  | n + 1, r => .unusable :: gap n r
def poolList (es : List (Nat × CpInfo)) (last : Nat) : List CpInfo := es.foldr (fun e r => gap e.1 (e.2 :: r)) (gap last [])
def pool (es : List (Nat × CpInfo)) (last : Nat) : Array CpInfo := ⟨poolList es last⟩
def fileOf (pool : Array CpInfo) (this : Nat) (attrs : Array Attribute := #[]) (ms : Array MethodInfo := #[]) (fl : Nat := 33) (sup : Nat := 0) (ifs : Array Nat := #[]) (fds : Array FieldInfo := #[]) : ClassFile where
  minorVersion := 0
  majorVersion := 65
  constantPool := pool
  accessFlags := fl
  thisClass := this
  superClass := sup
  interfaces := ifs
  fields := fds
  methods := ms
  attributes := attrs
def plain (name : String) (sup : Option ClassId) : Class where
  name := name
  kind := .ordinary
  loader := none
  accessFlags := 33
  super := sup
  interfaces := #[]
  cf := none
  fields := #[]
  methods := #[]
  instanceTypes := #[]
  staticTypes := #[]
  resolved := #[]
  callSites := []
  init := .initialized
  statics := none
  mirror := none

def pool0 : Array CpInfo := pool [(5, u "<init>"), (0, u "()V"), (1, .class_ 10), (1, u "java/lang/Object")] 113

def k0m0 : Method := { name := "<init>", desc := "()V", sig := { parameters := [], returnType := none }, accessFlags := 1, code := none }
/-- java/lang/Object -/
def k0 : Class := { plain "java/lang/Object" none with
  accessFlags := 33
  interfaces := #[]
  cf := some (fileOf pool0 8 #[] #[{ accessFlags := 1, nameIndex := 5, descriptorIndex := 6, attributes := #[] }] 33 0 #[] #[])
  fields := #[]
  methods := #[k0m0]
  instanceTypes := #[]
  staticTypes := #[]
  resolved := Array.replicate 124 none
  statics := none }

def pool1 : Array CpInfo := pool [(2, .class_ 4), (1, u "java/lang/Object"), (0, u "<init>"), (0, u "()V"), (0, .methodref 8 9), (0, .class_ 10), (0, .nameAndType 11 12), (0, u "java/lang/Math"), (0, u "min"), (0, u "(II)I"), (0, .methodref 8 14), (0, .nameAndType 15 12), (0, u "max"), (0, .methodref 17 18), (0, .class_ 19), (0, .nameAndType 20 21), (0, u "com/example/benchwire/benchwire/wire/Lis1a"), (0, u "checksum"), (0, u "([BII)I"), (0, .class_ 23), (0, u "com/example/benchwire/benchwire/wire/Lis1aChecksumPinLaw"), (2, u "law"), (0, u "(III)Z")] 7

def k1m0 : Method := { name := "<init>", desc := "()V", sig := { parameters := [], returnType := none }, accessFlags := 1, code := none }
def k1c1 : Code := { maxStack := 5, maxLocals := 11, code := code, exceptionTable := #[], attributes := #[] }
def k1m1 : Method := { name := "law", desc := "(III)Z", sig := { parameters := [.int, .int, .int], returnType := some .boolean }, accessFlags := 9, code := some k1c1 }
/-- com/example/benchwire/benchwire/wire/Lis1aChecksumPinLaw -/
def k1 : Class := { plain "com/example/benchwire/benchwire/wire/Lis1aChecksumPinLaw" (some 0) with
  accessFlags := 49
  interfaces := #[]
  cf := some (fileOf pool1 22 #[] #[{ accessFlags := 1, nameIndex := 5, descriptorIndex := 6, attributes := #[] }, { accessFlags := 9, nameIndex := 26, descriptorIndex := 27, attributes := #[] }] 49 2 #[] #[])
  fields := #[]
  methods := #[k1m0, k1m1]
  instanceTypes := #[]
  staticTypes := #[]
  resolved := Array.replicate 35 none
  statics := none }

def pool2 : Array CpInfo := pool [(1, .class_ 2), (0, u "java/lang/Math"), (1, .class_ 6), (1, u "java/lang/Object"), (0, u "<init>"), (0, u "()V"), (89, .class_ 100), (1, u "java/lang/Math$RandomNumberGeneratorHolder"), (71, u "negativeZeroFloatBits"), (0, u "J"), (2, u "negativeZeroDoubleBits"), (21, u "max"), (2, u "min"), (43, u "$assertionsDisabled"), (0, u "Z"), (88, u "(II)I"), (2, u "twoToTheDoubleScaleDown"), (0, u "D"), (4, u "twoToTheDoubleScaleUp"), (9, u "E"), (3, u "PI"), (2, u "TAU"), (2, u "DEGREES_TO_RADIANS"), (0, u "RADIANS_TO_DEGREES")] 94

def k2m0 : Method := { name := "<init>", desc := "()V", sig := { parameters := [], returnType := none }, accessFlags := 2, code := none }
def k2c1 : Code := { maxStack := 2, maxLocals := 2, code := jdk_29_method_65_code, exceptionTable := #[], attributes := #[] }
def k2m1 : Method := { name := "max", desc := "(II)I", sig := { parameters := [.int, .int], returnType := some .int }, accessFlags := 9, code := some k2c1 }
def k2c2 : Code := { maxStack := 2, maxLocals := 2, code := jdk_29_method_69_code, exceptionTable := #[], attributes := #[] }
def k2m2 : Method := { name := "min", desc := "(II)I", sig := { parameters := [.int, .int], returnType := some .int }, accessFlags := 9, code := some k2c2 }
/-- java/lang/Math -/
def k2 : Class := { plain "java/lang/Math" (some 0) with
  accessFlags := 49
  interfaces := #[]
  cf := some (fileOf pool2 1 #[.nestMembers #[98]] #[{ accessFlags := 2, nameIndex := 7, descriptorIndex := 8, attributes := #[] }, { accessFlags := 9, nameIndex := 198, descriptorIndex := 335, attributes := #[] }, { accessFlags := 9, nameIndex := 201, descriptorIndex := 335, attributes := #[] }] 49 4 #[] #[{ accessFlags := 25, nameIndex := 354, descriptorIndex := 339, attributes := #[] }, { accessFlags := 25, nameIndex := 358, descriptorIndex := 339, attributes := #[] }, { accessFlags := 25, nameIndex := 361, descriptorIndex := 339, attributes := #[] }, { accessFlags := 26, nameIndex := 364, descriptorIndex := 339, attributes := #[] }, { accessFlags := 26, nameIndex := 365, descriptorIndex := 339, attributes := #[] }, { accessFlags := 26, nameIndex := 172, descriptorIndex := 173, attributes := #[] }, { accessFlags := 26, nameIndex := 176, descriptorIndex := 173, attributes := #[] }, { accessFlags := 8, nameIndex := 344, descriptorIndex := 339, attributes := #[] }, { accessFlags := 8, nameIndex := 338, descriptorIndex := 339, attributes := #[] }, { accessFlags := 4120, nameIndex := 245, descriptorIndex := 246, attributes := #[] }])
  fields := #[{ name := "E", type := .double, accessFlags := 25, slot := 0, constantValue := 0 }, { name := "PI", type := .double, accessFlags := 25, slot := 1, constantValue := 0 }, { name := "TAU", type := .double, accessFlags := 25, slot := 2, constantValue := 0 }, { name := "DEGREES_TO_RADIANS", type := .double, accessFlags := 26, slot := 3, constantValue := 0 }, { name := "RADIANS_TO_DEGREES", type := .double, accessFlags := 26, slot := 4, constantValue := 0 }, { name := "negativeZeroFloatBits", type := .long, accessFlags := 26, slot := 5, constantValue := 0 }, { name := "negativeZeroDoubleBits", type := .long, accessFlags := 26, slot := 6, constantValue := 0 }, { name := "twoToTheDoubleScaleUp", type := .double, accessFlags := 8, slot := 7, constantValue := 0 }, { name := "twoToTheDoubleScaleDown", type := .double, accessFlags := 8, slot := 8, constantValue := 0 }, { name := "$assertionsDisabled", type := .boolean, accessFlags := 4120, slot := 9, constantValue := 0 }]
  methods := #[k2m0, k2m1, k2m2]
  instanceTypes := #[]
  staticTypes := #[.double, .double, .double, .double, .double, .long, .long, .double, .double, .boolean]
  resolved := Array.replicate 460 none
  statics := none }

def pool3 : Array CpInfo := pool [(2, .class_ 4), (1, u "java/lang/Object"), (0, u "<init>"), (0, u "()V"), (4, .class_ 13), (1, u "com/example/benchwire/benchwire/wire/Lis1a"), (5, u "([BII)I"), (31, u "checksum"), (10, u "STX"), (0, u "B"), (2, u "ETX"), (1, u "EOT"), (1, u "ENQ"), (1, u "ACK"), (1, u "LF"), (1, u "CR"), (1, u "NAK"), (1, u "ETB"), (1, u "FRAME_OVERHEAD"), (0, u "I"), (0, u "MAX_TEXT")] 14

def k3m0 : Method := { name := "<init>", desc := "()V", sig := { parameters := [], returnType := none }, accessFlags := 2, code := none }
def k3c1 : Code := { maxStack := 3, maxLocals := 5, code := prog_167_method_5_code, exceptionTable := #[], attributes := #[] }
def k3m1 : Method := { name := "checksum", desc := "([BII)I", sig := { parameters := [(.array .byte), .int, .int], returnType := some .int }, accessFlags := 8, code := some k3c1 }
/-- com/example/benchwire/benchwire/wire/Lis1a -/
def k3 : Class := { plain "com/example/benchwire/benchwire/wire/Lis1a" (some 0) with
  accessFlags := 48
  interfaces := #[]
  cf := some (fileOf pool3 11 #[] #[{ accessFlags := 2, nameIndex := 5, descriptorIndex := 6, attributes := #[] }, { accessFlags := 8, nameIndex := 51, descriptorIndex := 19, attributes := #[] }] 48 2 #[] #[{ accessFlags := 24, nameIndex := 62, descriptorIndex := 63, attributes := #[] }, { accessFlags := 24, nameIndex := 66, descriptorIndex := 63, attributes := #[] }, { accessFlags := 24, nameIndex := 68, descriptorIndex := 63, attributes := #[] }, { accessFlags := 24, nameIndex := 70, descriptorIndex := 63, attributes := #[] }, { accessFlags := 24, nameIndex := 72, descriptorIndex := 63, attributes := #[] }, { accessFlags := 24, nameIndex := 74, descriptorIndex := 63, attributes := #[] }, { accessFlags := 24, nameIndex := 76, descriptorIndex := 63, attributes := #[] }, { accessFlags := 24, nameIndex := 78, descriptorIndex := 63, attributes := #[] }, { accessFlags := 24, nameIndex := 80, descriptorIndex := 63, attributes := #[] }, { accessFlags := 24, nameIndex := 82, descriptorIndex := 83, attributes := #[] }, { accessFlags := 24, nameIndex := 84, descriptorIndex := 83, attributes := #[] }])
  fields := #[{ name := "STX", type := .byte, accessFlags := 24, slot := 0, constantValue := 0 }, { name := "ETX", type := .byte, accessFlags := 24, slot := 1, constantValue := 0 }, { name := "EOT", type := .byte, accessFlags := 24, slot := 2, constantValue := 0 }, { name := "ENQ", type := .byte, accessFlags := 24, slot := 3, constantValue := 0 }, { name := "ACK", type := .byte, accessFlags := 24, slot := 4, constantValue := 0 }, { name := "LF", type := .byte, accessFlags := 24, slot := 5, constantValue := 0 }, { name := "CR", type := .byte, accessFlags := 24, slot := 6, constantValue := 0 }, { name := "NAK", type := .byte, accessFlags := 24, slot := 7, constantValue := 0 }, { name := "ETB", type := .byte, accessFlags := 24, slot := 8, constantValue := 0 }, { name := "FRAME_OVERHEAD", type := .int, accessFlags := 24, slot := 9, constantValue := 0 }, { name := "MAX_TEXT", type := .int, accessFlags := 24, slot := 10, constantValue := 0 }]
  methods := #[k3m0, k3m1]
  instanceTypes := #[]
  staticTypes := #[.byte, .byte, .byte, .byte, .byte, .byte, .byte, .byte, .byte, .int, .int]
  resolved := Array.replicate 99 none
  statics := none }

def pool4 : Array CpInfo := pool [(1, u "java/lang/Cloneable"), (0, .class_ 1), (0, u "java/lang/Object"), (0, .class_ 3)] 3

/-- java/lang/Cloneable -/
def k4 : Class := { plain "java/lang/Cloneable" (some 0) with
  accessFlags := 1537
  interfaces := #[]
  cf := some (fileOf pool4 2 #[] #[] 1537 4 #[] #[])
  fields := #[]
  methods := #[]
  instanceTypes := #[]
  staticTypes := #[]
  resolved := Array.replicate 8 none
  statics := none }

def pool5 : Array CpInfo := pool [(1, u "java/io/Serializable"), (0, .class_ 1), (0, u "java/lang/Object"), (0, .class_ 3)] 3

/-- java/io/Serializable -/
def k5 : Class := { plain "java/io/Serializable" (some 0) with
  accessFlags := 1537
  interfaces := #[]
  cf := some (fileOf pool5 2 #[] #[] 1537 4 #[] #[])
  fields := #[]
  methods := #[]
  instanceTypes := #[]
  staticTypes := #[]
  resolved := Array.replicate 8 none
  statics := none }

/-- the primitive byte -/
def k6 : Class := { plain "byte" none with kind := .primitive 'B', accessFlags := 0x411 }
/-- [B -/
def k7 : Class := { plain "[B" (some 0) with kind := .array 6 .byte, interfaces := #[4, 5], accessFlags := 1041 }

/-- the primitive int -/
def k8 : Class := { plain "int" none with kind := .primitive 'I', accessFlags := 0x411 }
/-- [I -/
def k9 : Class := { plain "[I" (some 0) with kind := .array 8 .int, interfaces := #[4, 5], accessFlags := 1041 }

def heap : Heap := #[]
def classes : Array Class := #[k0, k1, k2, k3, k4, k5, k6, k7, k8, k9]
def interned : List (Array UInt16 × Addr) := []
def slotsUsed : Nat := 0
def theMethod : MethodId := ⟨1, 1⟩
def args0 : Array Value := #[.int 5, .int 1, .int 3]
def aboutOver (below : List Frame) : State where
  vm := { classes := classes, interned := interned.toArray }
  heap := heap
  slotsUsed := slotsUsed
  threads := #[{ frames := .invoking theMethod args0 :: below }]
def below0 : List Frame := [.native { method := ⟨0, 0⟩, args := #[] }]
def about1 : State := aboutOver below0
def p0 : Program := .bare "" "" ""
def e0 : Env := launch0.env 0 0 0
theorem w_frames : about1.frames = Frame.invoking theMethod args0 :: below0 := rfl
set_option maxRecDepth 65536 in
theorem w_args : argsFit about1.vm theMethod args0 = true := by decide +kernel
set_option maxRecDepth 65536 in
theorem w_heap : heapFits about1 = true := by decide +kernel
set_option maxRecDepth 65536 in
theorem w_runnable : about1.curStatus? = some .runnable := by decide +kernel
set_option maxRecDepth 65536 in
theorem w_alone : about1.alone = true := by decide +kernel
set_option maxRecDepth 65536 in
theorem w_named : about1.methodNamed? x = some theMethod := by decide +kernel
set_option maxRecDepth 65536 in
theorem w_hears : about1.hears theMethod below0 = true := by decide +kernel
set_option maxRecDepth 65536 in
theorem w_ripe : about1.ripe theMethod args0 below0 = true := by decide +kernel
theorem w_running : about1.status = .running := rfl
set_option maxRecDepth 65536 in
theorem w_room : about1.hasRoom e0.platform room_1 = true :=
  launch0.hasRoom_least _ room_1 (by decide +kernel) (by decide +kernel) (by decide +kernel) (by decide +kernel) (by decide +kernel) (by decide +kernel)
theorem allAtoms_all (ts : List Jvm.Cond) (a : Array Jvm.Value) (st : Jvm.State) : (allAtoms ts).before a st = ts.all (fun c => c.before a st) := by
  induction ts with
  | nil => rfl
  | cons c t ih =>
    show (Jvm.Cond.and c (allAtoms t)).before a st = _
    rw [Jvm.Cond.before_and, ih, List.all_cons]
def words1 : List Jvm.Cond := Jvm.Cond.code x code maxLocals ret :: tables_1
/-- a 'code' word, met by the world's own term for the bytes: nothing is compared byte by byte -/
theorem code_word {y : MethodName} {bytes : ByteArray} {mx : Nat} {rt : Option FieldType} {a : Array Value} {s : State} {m : MethodId} {meth : Method} {c : Code} (h1 : s.methodNamed? y = some m) (h2 : s.vm.method? m = some meth) (h3 : meth.code = some c) (h4 : c.code = bytes)
    (h5 : (c.maxLocals == mx && c.exceptionTable.isEmpty && decide (c.maxStack ≤ mostOperands) && decide (meth.sig.returnType = rt) && !meth.locks && decide (parseMethodDescriptor y.desc = some meth.sig)) = true) : (Jvm.Cond.code y bytes mx rt).before a s = true := by
  simp only [Bool.and_eq_true, beq_iff_eq, Bool.not_eq_true', decide_eq_true_eq] at h5
  obtain ⟨⟨⟨⟨⟨g1, g2⟩, g3⟩, g4⟩, g5⟩, g6⟩ := h5
  simp [Cond.before, Cond.holds, Cond.value, h1, h2, h3, h4, g1, g2, g3, g4, g5, g6]
def isCode : Jvm.Cond → Bool
  | .code _ _ _ _ => true
  | _ => false
theorem all_split {L : List Jvm.Cond} {P : Jvm.Cond → Bool} (h1 : L.all (fun c => isCode c || P c) = true) (h2 : ∀ c ∈ L.filter isCode, P c = true) : L.all P = true := by
  refine List.all_eq_true.mpr fun c hc => ?_
  have h := List.all_eq_true.mp h1 c hc
  rcases Bool.eq_false_or_eq_true (isCode c) with hi | hi
  · exact h2 c (List.mem_filter.mpr ⟨hc, hi⟩)
  · simpa [hi] using h
set_option maxRecDepth 65536 in
theorem w_c0 : (Jvm.Cond.code x code maxLocals ret).before args0 about1 = true := code_word (m := ⟨1, 1⟩) (meth := k1m1) (c := k1c1) (by decide +kernel) rfl rfl rfl (by decide +kernel)
set_option maxRecDepth 65536 in
theorem w_c1 : (Jvm.Cond.code ({ cls := "java/lang/Math", name := "min", desc := "(II)I" } : Jvm.MethodName) jdk_29_method_69_code (2 : Nat) (Option.some Jvm.ClassFile.FieldType.int)).before args0 about1 = true := code_word (m := ⟨2, 2⟩) (meth := k2m2) (c := k2c2) (by decide +kernel) rfl rfl rfl (by decide +kernel)
set_option maxRecDepth 65536 in
theorem w_c2 : (Jvm.Cond.code ({ cls := "java/lang/Math", name := "max", desc := "(II)I" } : Jvm.MethodName) jdk_29_method_65_code (2 : Nat) (Option.some Jvm.ClassFile.FieldType.int)).before args0 about1 = true := code_word (m := ⟨2, 1⟩) (meth := k2m1) (c := k2c1) (by decide +kernel) rfl rfl rfl (by decide +kernel)
set_option maxRecDepth 65536 in
theorem w_c3 : (Jvm.Cond.code ({ cls := "com/example/benchwire/benchwire/wire/Lis1a", name := "checksum", desc := "([BII)I" } : Jvm.MethodName) prog_167_method_5_code (5 : Nat) (Option.some Jvm.ClassFile.FieldType.int)).before args0 about1 = true := code_word (m := ⟨3, 1⟩) (meth := k3m1) (c := k3c1) (by decide +kernel) rfl rfl rfl (by decide +kernel)
def codes1 : List Jvm.Cond := [Jvm.Cond.code x code maxLocals ret, Jvm.Cond.code ({ cls := "java/lang/Math", name := "min", desc := "(II)I" } : Jvm.MethodName) jdk_29_method_69_code (2 : Nat) (Option.some Jvm.ClassFile.FieldType.int), Jvm.Cond.code ({ cls := "java/lang/Math", name := "max", desc := "(II)I" } : Jvm.MethodName) jdk_29_method_65_code (2 : Nat) (Option.some Jvm.ClassFile.FieldType.int), Jvm.Cond.code ({ cls := "com/example/benchwire/benchwire/wire/Lis1a", name := "checksum", desc := "([BII)I" } : Jvm.MethodName) prog_167_method_5_code (5 : Nat) (Option.some Jvm.ClassFile.FieldType.int)]
set_option maxRecDepth 65536 in
theorem codes_eq : words1.filter isCode = codes1 := rfl
theorem w_codes : ∀ c ∈ words1.filter isCode, c.before args0 about1 = true := by
  rw [codes_eq]
  intro c hc
  simp only [codes1, List.mem_cons, List.not_mem_nil, or_false] at hc
  rcases hc with rfl | rfl | rfl | rfl
  · exact w_c0
  · exact w_c1
  · exact w_c2
  · exact w_c3
set_option maxRecDepth 65536 in
theorem w_t1 : words1.all (fun c => isCode c || c.before args0 about1) = true := by decide +kernel
theorem w_tables : (allAtoms (Jvm.Cond.code x code maxLocals ret :: tables_1)).before args0 about1 = true := by
  rw [allAtoms_all]
  show words1.all (fun c => c.before args0 about1) = true
  refine all_split ?_ w_codes
  rw [w_t1]
set_option maxRecDepth 65536 in
theorem w_case : (Jvm.Cond.and given_1 narrow_1).before args0 about1 = true := by decide +kernel
theorem w_applies : (headSpec (Jvm.Cond.code x code maxLocals ret :: tables_1) room_1).applies x e0.platform about1 = true :=
  (Spec.applies_iff w_frames).mpr ⟨w_running, w_runnable, w_alone, w_named, w_hears, w_ripe, w_room, w_tables⟩
theorem atStart : AtStart classFile x code maxLocals ret World_1 tables_1 room_1 Calls_1 rest_1 Pre_1 launch0 p0 e0 about1 theMethod args0 below0 :=
  ⟨lists_1, trivial, launch0.admits_env _ _ _, launch0.least_env, fairChoices_fair.cas, fairChoices_fair.clock, w_frames, w_args, w_heap, w_applies, trivial, trivial, w_case⟩
end start1
theorem witness_1 : WitnessClaimed_1 := ⟨start1.p0, start1.e0, start1.about1, start1.theMethod, start1.args0, start1.below0, start1.atStart⟩
end Jvm.Pilot.@@N@@
