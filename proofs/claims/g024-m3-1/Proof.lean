import JvmDerived
import JvmDerived.Pilot.@@N@@Statement
import JvmDerived.Pilot.@@N@@Code
set_option linter.unusedVariables false
set_option linter.unusedSimpArgs false
namespace Jvm.RoadKit
open Sem ClassFile Op Lib Jvm.Stand Jvm.Free Jvm.LawKit
section New
variable {p : Program} {l : Launch} {e : Env} {R : Room} {s : State} {m : MethodId} {args : Array Value} {below : List Frame} {meth : Method} {c : Code} {T : State} {locs : List Loc} {cells slots : Nat}
theorem retI (X : Stand p l e R s m args below meth c T locs cells slots) (hx : p.tables.exec = Jvm.exec) {pc : Nat} {Ls : Array Slot} {z : Int32} {rest : List Value} (hret : meth.sig.returnType = some .int) (hd : decode c.code pc = .ok (.ireturn, 1)) {fs : List Frame}
    (hl : ∀ (f : JFrame) (acts : List Action), f.method = m → f.locked = none → f.entered = [] → (doReturn e (T.setTop f) acts (some (.int z))).1 = T.setFrames fs) : Steps p.tables e below (T.setTop (mkF m pc Ls (.int z :: rest))) (T.setFrames fs) := by
  have hm' : T.vm.method? m = some meth := X.method'
  have hn : narrow .int (.int z) = .int z := rfl
  show Steps p.tables e below (T.setTop { method := m, pc := pc, locals := Ls, stack := _ :: rest, locked := none }) _
  jvm_step X.here [X.here.top, hx, hd, hm', hret, hn]
  first | (intro acts; rw [hl _ acts rfl rfl rfl]) | rw [hl _ _ rfl rfl rfl]
  exact Steps.refl _
end New
end Jvm.RoadKit
namespace Jvm.RoadKit
open Sem ClassFile Op Lib Jvm.Stand Jvm.Free Jvm.LawKit
section OwnArr
variable {p : Program} {l : Launch} {e : Env} {R : Room} {s : State} {m : MethodId} {args : Array Value} {below : List Frame} {meth : Method} {c : Code} {T : State} {locs : List Loc} {cells slots : Nat} {Z : State} {h h' : Heap} {a b : Addr} {ty : FieldType} {n : Nat} {f : Nat → Value}
/-- an array of n places, place j holds f j -/
def own_arr (Z : State) (h : Heap) (a : Addr) (ty : FieldType) (n : Nat) (f : Nat → Value) : Prop := ∃ c : Cell, Arr Z h a c ty ∧ c.slots.size = n ∧ ∀ j, j < n → c.slots[j]? = some (f j)
theorem own_arr.lt (F : own_arr Z h a ty n f) : a < h.size := by obtain ⟨c, A, -⟩ := F; exact A.lt
theorem own_arr.ext (F : own_arr Z h a ty n f) (E : Ext h h') : own_arr Z h' a ty n f := by obtain ⟨c, A, r⟩ := F; exact ⟨c, A.ext E, r⟩
theorem own_arr.other {sl : Nat} {v : Value} (F : own_arr Z h b ty n f) (W : Wr h h' a sl v) (q : b ≠ a) : own_arr Z h' b ty n f := by obtain ⟨c, A, r⟩ := F; exact ⟨c, A.other W q, r⟩
theorem own_arr.keep {ws : List Addr} (F : own_arr Z h a ty n f) (K : Keep h h' ws) (q : a ∉ ws) : own_arr Z h' a ty n f := by obtain ⟨c, A, r⟩ := F; exact ⟨c, ⟨K.2.1 a c A.1 q, A.2⟩, r⟩
theorem own_arr.to {n' : Nat} {f' : Nat → Value} (F : own_arr Z h a ty n f) (q : n = n') (r : ∀ j, j < n → f j = f' j) : own_arr Z h a ty n' f' := by obtain ⟨c, A, s, t⟩ := F; subst q; exact ⟨c, A, s, fun j hj => (t j hj).trans (congrArg some (r j hj))⟩
theorem own_arr.new {k : ClassId} {z : Int32} (A : Arr Z h a (newA k ty z) ty) : own_arr Z h a ty z.toNatClampNeg (fun _ => defaultValue ty) := ⟨_, A, sz_new _ _ _, fun j hj => by simp [newA, hj]⟩
theorem own_arr.newI {k : ClassId} {z : Int32} {i : Nat} (A : Arr Z h a (newA k .int z) .int) (q : z.toNatClampNeg = i) : own_arr Z h a .int i (fun _ => .int 0) := q ▸ own_arr.new A
theorem own_arr.newB {k : ClassId} {z : Int32} {i : Nat} (A : Arr Z h a (newA k .byte z) .byte) (q : z.toNatClampNeg = i) : own_arr Z h a .byte i (fun _ => .int 0) := q ▸ own_arr.new A
theorem own_arr.newJ {k : ClassId} {z : Int32} {i : Nat} (A : Arr Z h a (newA k .long z) .long) (q : z.toNatClampNeg = i) : own_arr Z h a .long i (fun _ => .long 0) := q ▸ own_arr.new A
theorem own_arr.set {j : Nat} {v : Value} (F : own_arr Z h a ty n f) (W : Wr h h' a j v) : own_arr Z h' a ty n (fun i => if i = j then v else f i) := by
  obtain ⟨c, A, s, t⟩ := F
  refine ⟨_, A.same W, by rw [sz_set]; exact s, fun i hi => ?_⟩
  by_cases q : i = j
  · subst q; simp [Cell.setSlot, s, hi]
  · simp only [q, if_false]; rw [← t i hi]; exact Array.getElem?_setIfInBounds_ne fun z => q z.symm
theorem own_in {j : Int32} {k : Nat} {cl : Cell} (h0 : ¬ j < 0) (hj : j.toNatClampNeg = k) (hk : k < n) (q : cl.slots.size = n) : ¬ (j < 0 ∨ cl.slots.size ≤ j.toNatClampNeg) := by
  rintro (r | r)
  · exact h0 r
  · omega
theorem own_ldI {g : Nat → Int32} (X : Stand p l e R s m args below meth c T locs cells slots) (hx : p.tables.exec = Jvm.exec) (hZ : Z.Warmed39 s.vm) (eT : T.heap = h) (A : own_arr Z h a .int n (fun i => .int (g i))) {j : Int32} {k : Nat} (h0 : ¬ j < 0) (hj : j.toNatClampNeg = k) (hk : k < n)
    {fr : JFrame} (hg : fr.method = m) {rest : List Value} (hs : fr.stack = .int j :: .ref a :: rest) (hd : decode c.code fr.pc = .ok (.iaload, 1)) (target : State)
    (hr : Steps p.tables e below (T.setTop { fr with pc := fr.pc + 1, stack := .int (g k) :: rest }) target) : Steps p.tables e below (T.setTop fr) target := by
  obtain ⟨cl, A, s, t⟩ := A
  exact X.iaload hx (by rw [eT]; exact A.1) (State.isArrayOf_alike hZ.alike A.2.1) A.2.2 (own_in h0 hj hk s) (by rw [hj]; exact t k hk) hg hs hd _ hr
theorem own_ldB {g : Nat → Int32} (X : Stand p l e R s m args below meth c T locs cells slots) (hx : p.tables.exec = Jvm.exec) (hZ : Z.Warmed39 s.vm) (eT : T.heap = h) (A : own_arr Z h a .byte n (fun i => .int (g i))) {j : Int32} {k : Nat} (h0 : ¬ j < 0) (hj : j.toNatClampNeg = k) (hk : k < n)
    {fr : JFrame} (hg : fr.method = m) {rest : List Value} (hs : fr.stack = .int j :: .ref a :: rest) (hd : decode c.code fr.pc = .ok (.baload, 1)) (target : State)
    (hr : Steps p.tables e below (T.setTop { fr with pc := fr.pc + 1, stack := .int (g k) :: rest }) target) : Steps p.tables e below (T.setTop fr) target := by
  obtain ⟨cl, A, s, t⟩ := A
  exact X.baloadBytes hx (by rw [eT]; exact A.1) (State.isArrayOf_alike hZ.alike A.2.1) A.2.2 (own_in h0 hj hk s) (by rw [hj]; exact t k hk) hg hs hd _ hr
theorem own_ldJ {g : Nat → Int64} (X : Stand p l e R s m args below meth c T locs cells slots) (hx : p.tables.exec = Jvm.exec) (hZ : Z.Warmed39 s.vm) (eT : T.heap = h) (A : own_arr Z h a .long n (fun i => .long (g i))) {j : Int32} {k : Nat} (h0 : ¬ j < 0) (hj : j.toNatClampNeg = k) (hk : k < n)
    {fr : JFrame} (hg : fr.method = m) {rest : List Value} (hs : fr.stack = .int j :: .ref a :: rest) (hd : decode c.code fr.pc = .ok (.laload, 1)) (target : State)
    (hr : Steps p.tables e below (T.setTop { fr with pc := fr.pc + 1, stack := .long (g k) :: rest }) target) : Steps p.tables e below (T.setTop fr) target := by
  obtain ⟨cl, A, s, t⟩ := A
  exact X.laload hx (by rw [eT]; exact A.1) (State.isArrayOf_alike hZ.alike A.2.1) A.2.2 (own_in h0 hj hk s) (by rw [hj]; exact t k hk) hg hs hd _ hr
theorem own_len (X : Stand p l e R s m args below meth c T locs cells slots) (hx : p.tables.exec = Jvm.exec) (hZ : Z.Warmed39 s.vm) (eT : T.heap = h) (A : own_arr Z h a ty n f) {z : Int32} (q : n.toInt32 = z)
    {fr : JFrame} (hg : fr.method = m) {rest : List Value} (hs : fr.stack = .ref a :: rest) (hd : decode c.code fr.pc = .ok (.arraylength, 1)) (target : State)
    (hr : Steps p.tables e below (T.setTop { fr with pc := fr.pc + 1, stack := .int z :: rest }) target) : Steps p.tables e below (T.setTop fr) target := by
  obtain ⟨cl, A, s, t⟩ := A
  refine X.arraylength hx (by rw [eT]; exact A.1) (State.isArrayOf_alike hZ.alike A.2.1) hg hs hd _ ?_
  rw [s, q]; exact hr
theorem own_stI {g : Nat → Int32} (X : Stand p l e R s m args below meth c T locs cells slots) (hx : p.tables.exec = Jvm.exec) (hZ : Z.Warmed39 s.vm) (eT : T.heap = h) (A : own_arr Z h a .int n (fun i => .int (g i))) {j x : Int32} {k : Nat} (h0 : ¬ j < 0) (hj : j.toNatClampNeg = k) (hk : k < n)
    {fr : JFrame} (hg : fr.method = m) {rest : List Value} (hs : fr.stack = .int x :: .int j :: .ref a :: rest) (hd : decode c.code fr.pc = .ok (.iastore, 1)) :
    ∃ T' h', Stand p l e R s m args below meth c T' (locs ++ [⟨a, k⟩]) cells slots ∧ T'.heap = h' ∧ Wr h h' a k (.int x) ∧ own_arr Z h' a .int n (fun i => .int (if i = k then x else g i)) ∧ ∀ target, Steps p.tables e below (T'.setTop { fr with pc := fr.pc + 1, stack := rest }) target → Steps p.tables e below (T.setTop fr) target := by
  have A' := A
  obtain ⟨cl, A, s, t⟩ := A
  obtain ⟨T', h', X', e', W, st⟩ := stI X hx hZ eT A (own_in h0 hj hk s) hg hs hd
  rw [hj] at X' W
  exact ⟨T', h', X', e', W, (A'.set W).to rfl fun j _ => by by_cases q : j = k <;> simp [q], st⟩
theorem own_stJ {g : Nat → Int64} (X : Stand p l e R s m args below meth c T locs cells slots) (hx : p.tables.exec = Jvm.exec) (hZ : Z.Warmed39 s.vm) (eT : T.heap = h) (A : own_arr Z h a .long n (fun i => .long (g i))) {j : Int32} {x : Int64} {k : Nat} (h0 : ¬ j < 0) (hj : j.toNatClampNeg = k) (hk : k < n)
    {fr : JFrame} (hg : fr.method = m) {rest : List Value} (hs : fr.stack = .long x :: .int j :: .ref a :: rest) (hd : decode c.code fr.pc = .ok (.lastore, 1)) :
    ∃ T' h', Stand p l e R s m args below meth c T' (locs ++ [⟨a, k⟩]) cells slots ∧ T'.heap = h' ∧ Wr h h' a k (.long x) ∧ own_arr Z h' a .long n (fun i => .long (if i = k then x else g i)) ∧ ∀ target, Steps p.tables e below (T'.setTop { fr with pc := fr.pc + 1, stack := rest }) target → Steps p.tables e below (T.setTop fr) target := by
  have A' := A
  obtain ⟨cl, A, s, t⟩ := A
  obtain ⟨T', h', X', e', W, st⟩ := stJ X hx hZ eT A (own_in h0 hj hk s) hg hs hd
  rw [hj] at X' W
  exact ⟨T', h', X', e', W, (A'.set W).to rfl fun j _ => by by_cases q : j = k <;> simp [q], st⟩
theorem own_stB {g : Nat → Int32} (X : Stand p l e R s m args below meth c T locs cells slots) (hx : p.tables.exec = Jvm.exec) (hZ : Z.Warmed39 s.vm) (eT : T.heap = h) (A : own_arr Z h a .byte n (fun i => .int (g i))) {j x : Int32} {k : Nat} (h0 : ¬ j < 0) (hj : j.toNatClampNeg = k) (hk : k < n)
    {fr : JFrame} (hg : fr.method = m) {rest : List Value} (hs : fr.stack = .int x :: .int j :: .ref a :: rest) (hd : decode c.code fr.pc = .ok (.bastore, 1)) :
    ∃ T' h', Stand p l e R s m args below meth c T' (locs ++ [⟨a, k⟩]) cells slots ∧ T'.heap = h' ∧ Wr h h' a k (.int (x.toInt8.toInt32)) ∧ own_arr Z h' a .byte n (fun i => .int (if i = k then x.toInt8.toInt32 else g i)) ∧ ∀ target, Steps p.tables e below (T'.setTop { fr with pc := fr.pc + 1, stack := rest }) target → Steps p.tables e below (T.setTop fr) target := by
  have A' := A
  obtain ⟨cl, A, s, t⟩ := A
  obtain ⟨T', h', X', e', W, st⟩ := stB X hx hZ eT A (own_in h0 hj hk s) hg hs hd
  rw [hj] at X' W
  exact ⟨T', h', X', e', W, (A'.set W).to rfl fun j _ => by by_cases q : j = k <;> simp [q, nar], st⟩
end OwnArr
end Jvm.RoadKit
namespace Jvm.RoadKit
open Sem ClassFile Op Lib Jvm.Stand Jvm.Free Jvm.LawKit
section OwnRef
variable {p : Program} {l : Launch} {e : Env} {R : Room} {s : State} {m : MethodId} {args : Array Value} {below : List Frame} {meth : Method} {c : Code} {T : State} {locs : List Loc} {cells slots : Nat} {Z : State} {h h' : Heap} {a b : Addr} {kc : ClassId} {n : Nat} {f : Nat → Value}
/-- an Object[] of n places, place j holds f j -/
def own_arrR (Z : State) (h : Heap) (a : Addr) (kc : ClassId) (n : Nat) (f : Nat → Value) : Prop := ∃ c : Cell, Arr Z h a c (.object "java/lang/Object") ∧ c.cls = kc ∧ c.slots.size = n ∧ ∀ j, j < n → c.slots[j]? = some (f j)
theorem own_arrR.lt (F : own_arrR Z h a kc n f) : a < h.size := by obtain ⟨c, A, -⟩ := F; exact A.lt
theorem own_arrR.ext (F : own_arrR Z h a kc n f) (E : Ext h h') : own_arrR Z h' a kc n f := by obtain ⟨c, A, r⟩ := F; exact ⟨c, A.ext E, r⟩
theorem own_arrR.other {sl : Nat} {v : Value} (F : own_arrR Z h b kc n f) (W : Wr h h' a sl v) (q : b ≠ a) : own_arrR Z h' b kc n f := by obtain ⟨c, A, r⟩ := F; exact ⟨c, A.other W q, r⟩
theorem own_arrR.keep {ws : List Addr} (F : own_arrR Z h a kc n f) (K : Keep h h' ws) (q : a ∉ ws) : own_arrR Z h' a kc n f := by obtain ⟨c, A, r⟩ := F; exact ⟨c, ⟨K.2.1 a c A.1 q, A.2⟩, r⟩
theorem own_arrR.new {z : Int32} {i : Nat} (A : Arr Z h a (newA kc (.object "java/lang/Object") z) (.object "java/lang/Object")) (q : z.toNatClampNeg = i) : own_arrR Z h a kc i (fun _ => .null) := ⟨_, A, rfl, (sz_new _ _ _).trans q, fun j hj => by rw [← q] at hj; simp [newA, hj, defaultValue]⟩
theorem own_lenR (X : Stand p l e R s m args below meth c T locs cells slots) (hx : p.tables.exec = Jvm.exec) (hZ : Z.Warmed39 s.vm) (eT : T.heap = h) (A : own_arrR Z h a kc n f) {z : Int32} (q : n.toInt32 = z)
    {fr : JFrame} (hg : fr.method = m) {rest : List Value} (hs : fr.stack = .ref a :: rest) (hd : decode c.code fr.pc = .ok (.arraylength, 1)) (target : State)
    (hr : Steps p.tables e below (T.setTop { fr with pc := fr.pc + 1, stack := .int z :: rest }) target) : Steps p.tables e below (T.setTop fr) target := by
  obtain ⟨cl, A, -, s, t⟩ := A
  refine X.arraylength hx (by rw [eT]; exact A.1) (State.isArrayOf_alike hZ.alike A.2.1) hg hs hd _ ?_
  rw [s, q]; exact hr
theorem own_ldR (X : Stand p l e R s m args below meth c T locs cells slots) (hx : p.tables.exec = Jvm.exec) (hZ : Z.Warmed39 s.vm) (eT : T.heap = h) (A : own_arrR Z h a kc n f) {j : Int32} {k : Nat} (h0 : ¬ j < 0) (hj : j.toNatClampNeg = k) (hk : k < n) {v : Value} (hv : f k = v)
    {fr : JFrame} (hg : fr.method = m) {rest : List Value} (hs : fr.stack = .int j :: .ref a :: rest) (hd : decode c.code fr.pc = .ok (.aaload, 1)) (target : State)
    (hr : Steps p.tables e below (T.setTop { fr with pc := fr.pc + 1, stack := v :: rest }) target) : Steps p.tables e below (T.setTop fr) target := by
  obtain ⟨cl, A, -, s, t⟩ := A
  exact X.aaload hx (by rw [eT]; exact A.1) (State.isArrayOf_alike hZ.alike A.2.1) rfl A.2.2 (own_in h0 hj hk s) (by rw [hj, t k hk, hv]) hg hs hd _ hr
theorem own_stR (X : Stand p l e R s m args below meth c T locs cells slots) (hx : p.tables.exec = Jvm.exec) (hZ : Z.Warmed39 s.vm) (eT : T.heap = h) (A : own_arrR Z h a kc n f) (O : Ovr Z kc "java/lang/Object") {v : Value} (S : v = .null ∨ ∃ y, v = .ref y ∧ Ins Z h y "java/lang/Object" true) {j : Int32} {k : Nat} (h0 : ¬ j < 0) (hj : j.toNatClampNeg = k) (hk : k < n)
    {fr : JFrame} (hg : fr.method = m) {rest : List Value} (hs : fr.stack = v :: .int j :: .ref a :: rest) (hd : decode c.code fr.pc = .ok (.aastore, 1)) :
    ∃ T' h', Stand p l e R s m args below meth c T' (locs ++ [⟨a, k⟩]) cells slots ∧ T'.heap = h' ∧ Wr h h' a k v ∧ own_arrR Z h' a kc n (fun i => if i = k then v else f i) ∧ ∀ target, Steps p.tables e below (T'.setTop { fr with pc := fr.pc + 1, stack := rest }) target → Steps p.tables e below (T.setTop fr) target := by
  obtain ⟨cl, A, r, s, t⟩ := A
  have F : Sto Z h a v := by
    rcases S with rfl | ⟨y, rfl, I⟩
    · exact Or.inl rfl
    · exact Sto.of A (r ▸ O) I
  obtain ⟨T', h', X', e', W, st⟩ := stR X hx hZ eT A (own_in h0 hj hk s) rfl F hg hs hd
  rw [hj] at X' W
  refine ⟨T', h', X', e', W, ⟨_, A.same W, r, by rw [sz_set]; exact s, fun i hi => ?_⟩, st⟩
  by_cases q : i = k
  · subst q; simp [Cell.setSlot, s, hi]
  · simp only [q, if_false]; rw [← t i hi]; exact Array.getElem?_setIfInBounds_ne fun z => q z.symm
/-- the model's own selection picks a private method itself (from the worked claim gauge-weight) -/
theorem own_selp {y : MethodName} {s : State} {args : Array Value} {n : Nat} (hy : y.cls ≠ "java/lang/invoke/MethodHandle" ∧ y.cls ≠ "java/lang/invoke/VarHandle") (hins : (Cond.instantiable y.cls n).before args s = true) (hpriv : (Cond.privateMethod y).before args s = true) (hinst : (Cond.instanceMethod y).before args s = true) :
    (Cond.selects y.cls y y).before args s = true := by
  obtain ⟨c, k, hc, hk, -, hniab, -, -⟩ := Cond.instantiable_spec hins
  have hni : k.isInterface = false := (Bool.or_eq_false_iff.mp hniab).1
  obtain ⟨mk, methM, hnamed, hmethM, -, -⟩ := Cond.instanceMethod_spec hinst
  have hfound : s.methodFound? y.cls y.name y.desc = some mk := State.methodFound?_of_named hnamed hy
  have hcls : mk.cls = c := Option.some.inj ((findClass_of_methodNamed hnamed).symm.trans hc)
  have hsel : selectMethod {} s.vm c mk = .method mk := selectMethod_private hmethM (Cond.privateMethod_at hpriv mk methM hnamed hmethM)
  simp only [Cond.before, Cond.holds, Cond.value, hc, hfound, hnamed, hsel, hcls, hk]
  simp; exact hni
end OwnRef
end Jvm.RoadKit
namespace Jvm.Pilot.@@N@@
open Jvm Jvm.ClassFile Sem Op Lib Jvm.Free Jvm.Stand Jvm.LawKit Jvm.RoadKit Bundle Jvm.Pilot.@@N@@.Jvm.D
def own_dq (Z : State) (h : Heap) (n0 : Nat) (d el : Addr) (kc : ClassId) (hd : Int32) (f : Nat → Value) : Prop :=
  Exa Z h d "java/util/ArrayDeque" ∧ Fld Z h d "java/util/ArrayDeque" "elements" "[Ljava/lang/Object;" (.ref el) ∧ Fld Z h d "java/util/ArrayDeque" "head" "I" (.int hd) ∧ Fld Z h d "java/util/ArrayDeque" "tail" "I" (.int (0 : Int32)) ∧ own_arrR Z h el kc 17 f ∧ Ovr Z kc "java/lang/Object" ∧ d ≠ el ∧ n0 ≤ d ∧ n0 ≤ el
def own_tc (Z : State) (h : Heap) (n0 : Nat) (t d el : Addr) (kc : ClassId) (cnt : Int64) (ln hd : Int32) (f : Nat → Value) : Prop :=
  Exa Z h t "com/example/arkivsmed/arkivsmed/xml/TextCount" ∧ Fld Z h t "com/example/arkivsmed/arkivsmed/xml/TextCount" "open" "Ljava/util/Deque;" (.ref d) ∧ Fld Z h t "com/example/arkivsmed/arkivsmed/xml/TextCount" "count" "J" (.long cnt) ∧ Fld Z h t "com/example/arkivsmed/arkivsmed/xml/TextCount" "line" "I" (.int ln) ∧ own_dq Z h n0 d el kc hd f ∧ t ≠ d ∧ t ≠ el ∧ n0 ≤ t ∧ Old Z n0 h
theorem d4_0 : decode jdk_22_method_1_code 0 = .ok (.aload_n 0, 1) := by decide +kernel
theorem d4_1 : decode jdk_22_method_1_code 1 = .ok (.invokespecial 1, 3) := by decide +kernel
theorem d4_4 : decode jdk_22_method_1_code 4 = .ok (.return_, 1) := by decide +kernel
theorem pn_4 : plainName "java/util/AbstractCollection" = true := by first | (simp [plainName, overriddenIn]; done) | decide +kernel
theorem ef_4 (m : MethodId) (x0 : Addr) : entryFrame m #[(.ref x0)] 1 = mkF m 0 #[.val (.ref x0)] [] := by first | (simp [entryFrame, mkF, argsToLocals, Value.category]; done) | rfl
def Q4 (Z : State) (p0 : Addr) (h0 : Heap) (n0 : Nat) (v : Option Value) (h : Heap) (L : List Loc) : Prop := v = none ∧ Fr n0 L ∧ h = h0
set_option maxRecDepth 65536 in
set_option maxHeartbeats 40000000 in
theorem rm4 (l : Launch) (Z : State) (a0 : Array Value) (hw : ∀ d ∈ tables_1, d.before a0 Z = true) (ws : List Jvm.Cond) (p0 : Addr) (h0 : Heap) (n0 : Nat) (Z0 : n0 ≤ h0.size) :
    MetFree l (⟨"java/util/AbstractCollection", "<init>", "()V"⟩ : MethodName) (head1 (Jvm.Cond.code (⟨"java/util/AbstractCollection", "<init>", "()V"⟩ : MethodName) jdk_22_method_1_code 1 none :: ws) ({ frames := 1, cells := 0, slots := 0, locals := 12 } : Room)) (fun a U => a = #[(.ref p0)] ∧ Z.Warmed39 U.vm ∧ U.heap = h0) (fun _ _ _ _ _ => True) (fun _ U o U' => ∃ v L, o = .returned v ∧ Q4 Z p0 h0 n0 v U'.heap L ∧ FrameEnd U o U' L ({ frames := 1, cells := 0, slots := 0, locals := 12 } : Room).cells ({ frames := 1, cells := 0, slots := 0, locals := 12 } : Room).slots) := by
  refine MetFree.of_bodySF (plainFor_of_name pn_4) hisR ?_
  intro p e s m args below meth c s₁ Bd hml0 hP hK
  obtain ⟨rfl, hZ, hh⟩ := hP
  have hx := Bd.exec
  have hby := Bd.bytes
  have hml : c.maxLocals = 1 := hml0
  have hown : s.vm.findClass "java/util/AbstractCollection" = some m.cls := findClass_of_methodNamed Bd.named
  have hnm := (name_of_methodNamed Bd.named Bd.method).1
  have X0 : Stand p l e ({ frames := 1, cells := 0, slots := 0, locals := 12 } : Room) s m #[(.ref p0)] below meth c s₁ [] 0 0 := Stand.of_body Bd
  have e0 : s₁.heap = h0 := by rw [← hh, Bd.state]; rfl
  have N0 := Fr.nil n0
  have pre0 : ∀ t, Steps p.tables e below (s₁.setTop (mkF m 0 #[.val (.ref p0)] [])) t → Steps p.tables e below (s₁.setTop (entryFrame m #[(.ref p0)] 1)) t := fun t k => castTop (ef_4 m p0) k
  have pre1 : ∀ t, Steps p.tables e below (s₁.setTop (mkF m 1 #[.val (.ref p0)] [(.ref p0)])) t → Steps p.tables e below (s₁.setTop (entryFrame m #[(.ref p0)] 1)) t := by
    intro t kont
    refine pre0 t ?_
    show Steps p.tables e below (s₁.setTop (mkF m 0 #[.val (.ref p0)] [])) _
    refine XS.aloadN X0.here hx rfl (hb hby d4_0) rfl rfl ?_
    exact kont
  obtain ⟨T2, X2, e2, st2⟩ := initO X0 hx hZ hown (hw _ (List.mem_of_getElem? (i := 22) rfl)) (hw _ (List.mem_of_getElem? (i := 8) rfl)) (hw _ (List.mem_of_getElem? (i := 9) rfl)) e0 (g := (mkF m 1 #[.val (.ref p0)] [(.ref p0)])) rfl (by rw [hml]; rfl) rfl (hb hby d4_1) (by decide) (W := 0) (by show 2 * 0 + _ ≤ _; exact Nat.le_of_eq rfl) (by decide)
  have pre3 : ∀ t, Steps p.tables e below (T2.setTop (mkF m 4 #[.val (.ref p0)] [])) t → Steps p.tables e below (s₁.setTop (entryFrame m #[(.ref p0)] 1)) t := fun t kont => pre1 t (st2 _ kont)
  obtain ⟨fs, hr, hrun, hended, hW, hsame⟩ := X2.leave (v := none) (fun _ => rfl) (BodyLoose.notSynchronized Bd)
  refine ⟨_, _, pre3 _ ?_, hrun, hended, _, _, rfl, ?_, ⟨_, rfl⟩, hW, hsame.mono (by decide) (by decide)⟩
  · exact X2.returnOut hx Bd.returns (hb hby d4_4) hr
  · show Q4 Z p0 h0 n0 _ T2.heap _
    rw [e2]
    exact ⟨rfl, N0, rfl⟩
theorem d3_0 : decode jdk_21_method_3_code 0 = .ok (.aload_n 0, 1) := by decide +kernel
theorem d3_1 : decode jdk_21_method_3_code 1 = .ok (.invokespecial 42, 3) := by decide +kernel
theorem pd_0 : parseMethodDescriptor "()V" = some ⟨[], none⟩ := by decide +kernel
theorem d3_4 : decode jdk_21_method_3_code 4 = .ok (.aload_n 0, 1) := by decide +kernel
theorem d3_5 : decode jdk_21_method_3_code 5 = .ok (.bipush 17, 2) := by decide +kernel
theorem d3_7 : decode jdk_21_method_3_code 7 = .ok (.anewarray 47, 3) := by decide +kernel
theorem d3_10 : decode jdk_21_method_3_code 10 = .ok (.putfield 3, 3) := by decide +kernel
theorem d3_13 : decode jdk_21_method_3_code 13 = .ok (.return_, 1) := by decide +kernel
theorem pn_3 : plainName "java/util/ArrayDeque" = true := by first | (simp [plainName, overriddenIn]; done) | decide +kernel
theorem ef_3 (m : MethodId) (x0 : Addr) : entryFrame m #[(.ref x0)] 1 = mkF m 0 #[.val (.ref x0)] [] := by first | (simp [entryFrame, mkF, argsToLocals, Value.category]; done) | rfl
def Q3 (Z : State) (p0 : Addr) (h0 : Heap) (n0 : Nat) (v : Option Value) (h : Heap) (L : List Loc) : Prop := v = none ∧ Fr n0 L ∧ Keep h0 h [p0] ∧ ∃ (el : Addr) (kc : ClassId), h0.size ≤ el ∧ own_dq Z h n0 p0 el kc (0 : Int32) (fun _ => Value.null)
set_option maxRecDepth 65536 in
set_option maxHeartbeats 40000000 in
theorem rm3 (l : Launch) (Z : State) (a0 : Array Value) (hw : ∀ d ∈ tables_1, d.before a0 Z = true) (ws : List Jvm.Cond) (p0 : Addr) (h0 : Heap) (n0 : Nat) (Z0 : n0 ≤ h0.size) (Ep : Exa Z h0 p0 "java/util/ArrayDeque") (F_elements : Fld Z h0 p0 "java/util/ArrayDeque" "elements" "[Ljava/lang/Object;" .null) (F_head : Fld Z h0 p0 "java/util/ArrayDeque" "head" "I" (.int (0 : Int32))) (F_tail : Fld Z h0 p0 "java/util/ArrayDeque" "tail" "I" (.int (0 : Int32))) (gp : n0 ≤ p0) :
    MetFree l (⟨"java/util/ArrayDeque", "<init>", "()V"⟩ : MethodName) (head1 (Jvm.Cond.code (⟨"java/util/ArrayDeque", "<init>", "()V"⟩ : MethodName) jdk_21_method_3_code 1 none :: ws) ({ frames := 2, cells := 1, slots := 17, locals := 24 } : Room)) (fun a U => a = #[(.ref p0)] ∧ Z.Warmed39 U.vm ∧ U.heap = h0) (fun _ _ _ _ _ => True) (fun _ U o U' => ∃ v L, o = .returned v ∧ Q3 Z p0 h0 n0 v U'.heap L ∧ FrameEnd U o U' L ({ frames := 2, cells := 1, slots := 17, locals := 24 } : Room).cells ({ frames := 2, cells := 1, slots := 17, locals := 24 } : Room).slots) := by
  refine MetFree.of_bodySF (plainFor_of_name pn_3) hisR ?_
  intro p e s m args below meth c s₁ Bd hml0 hP hK
  obtain ⟨rfl, hZ, hh⟩ := hP
  have hx := Bd.exec
  have hby := Bd.bytes
  have hml : c.maxLocals = 1 := hml0
  have hown : s.vm.findClass "java/util/ArrayDeque" = some m.cls := findClass_of_methodNamed Bd.named
  have hnm := (name_of_methodNamed Bd.named Bd.method).1
  have X0 : Stand p l e ({ frames := 2, cells := 1, slots := 17, locals := 24 } : Room) s m #[(.ref p0)] below meth c s₁ [] 0 0 := Stand.of_body Bd
  have e0 : s₁.heap = h0 := by rw [← hh, Bd.state]; rfl
  have N0 := Fr.nil n0
  have pre0 : ∀ t, Steps p.tables e below (s₁.setTop (mkF m 0 #[.val (.ref p0)] [])) t → Steps p.tables e below (s₁.setTop (entryFrame m #[(.ref p0)] 1)) t := fun t k => castTop (ef_3 m p0) k
  have pre4 : ∀ t, Steps p.tables e below (s₁.setTop (mkF m 1 #[.val (.ref p0)] [(.ref p0)])) t → Steps p.tables e below (s₁.setTop (entryFrame m #[(.ref p0)] 1)) t := by
    intro t kont
    refine pre0 t ?_
    show Steps p.tables e below (s₁.setTop (mkF m 0 #[.val (.ref p0)] [])) _
    refine XS.aloadN X0.here hx rfl (hb hby d3_0) rfl rfl ?_
    exact kont
  obtain ⟨_, _, ⟨T5, L5, k5, n5⟩, -, X5, ⟨Lc5, hQ5, l5, y5, z5⟩, st5⟩ := X0.specialBack hx (y := (⟨"java/util/AbstractCollection", "<init>", "()V"⟩ : MethodName)) rfl hown (mvT hZ (hw _ (List.mem_of_getElem? (i := 16) rfl))) (mvT hZ (hw _ (List.mem_of_getElem? (i := 17) rfl))) (mvT hZ (hw _ (List.mem_of_getElem? (i := 21) rfl))) (by decide) (backOf (W := 0) (rm4 l Z a0 hw [] p0  h0 n0 Z0) hZ (hw _ (List.mem_of_getElem? (i := 21) rfl)) (hw _ (List.mem_of_getElem? (i := 20) rfl)) (by decide) (by decide)) (g := (mkF m 1 #[.val (.ref p0)] [(.ref p0)])) rfl (by rw [hml]; rfl) (Steps.refl _) (a := p0) (argsL := []) (rest := []) (lenOf pd_0 rfl) rfl (by show 2 * 0 + _ ≤ _; exact Nat.le_of_eq rfl) (hb hby d3_1) (fun _ _ => ⟨rfl, e0, (by decide : 0 + 0 ≤ _), (by decide : 0 + 0 ≤ _)⟩)
  dsimp only [Pt.U, Pt.locs, Pt.cells, Pt.slots] at X5 l5 y5 z5 st5 hQ5
  subst l5 y5 z5
  obtain ⟨rfl, N5q, e5⟩ := hQ5
  have N5 := Fr.app N0 N5q
  have pre6 : ∀ t, Steps p.tables e below (T5.setTop (mkF m 4 #[.val (.ref p0)] [])) t → Steps p.tables e below (s₁.setTop (entryFrame m #[(.ref p0)] 1)) t := fun t kont => pre4 t (st5.trans kont)
  have pre7 : ∀ t, Steps p.tables e below (T5.setTop (mkF m 7 #[.val (.ref p0)] [(.int (17 : Int32)), (.ref p0)])) t → Steps p.tables e below (s₁.setTop (entryFrame m #[(.ref p0)] 1)) t := by
    intro t kont
    refine pre6 t ?_
    show Steps p.tables e below (T5.setTop (mkF m 4 #[.val (.ref p0)] [])) _
    refine XS.aloadN X5.here hx rfl (hb hby d3_4) rfl rfl ?_
    show Steps p.tables e below (T5.setTop (mkF m 5 #[.val (.ref p0)] [(.ref p0)])) _
    refine XS.bipush X5.here hx rfl (hb hby d3_5) ?_
    exact kont
  obtain ⟨T8, h8, k8, X8, e8, E8, A8, O8, st8⟩ := newR X5 hx hZ hown (hw _ (List.mem_of_getElem? (i := 23) rfl)) (hw _ (List.mem_of_getElem? (i := 24) rfl)) e5 (g := (mkF m 7 #[.val (.ref p0)] [(.int (17 : Int32)), (.ref p0)])) rfl (hb hby d3_7) rfl (by decide) (cap := 17) (by decide) (by decide) (by decide) (by decide)
  obtain ⟨b7, g8⟩ : ∃ z, z = h0.size := ⟨_, rfl⟩
  rw [← g8] at A8 st8
  have g_b7 : n0 ≤ b7 := Nat.le_trans Z0 (Nat.le_of_eq g8.symm)
  have ne_p0_b7 : p0 ≠ b7 := Nat.ne_of_lt (Nat.lt_of_lt_of_le (Ep).lt (Nat.le_of_eq g8.symm))
  have sz_b7 : h0.size ≤ b7 := Nat.le_trans (Keep.refl h0 [p0]).1 (Nat.le_of_eq g8.symm)
  have f8_0 := Exa.ext E8 Ep
  have f8_1 := Fld.ext E8 F_elements
  have f8_2 := Fld.ext E8 F_head
  have f8_3 := Fld.ext E8 F_tail
  have K8 : Keep h0 h8 [p0] := (Keep.refl h0 [p0]).ext E8
  have V8 := own_arrR.new A8 (i := 17) (by decide)
  have Z8 : n0 ≤ h8.size := Nat.le_trans Z0 E8.1
  have pre9 : ∀ t, Steps p.tables e below (T8.setTop (mkF m 10 #[.val (.ref p0)] [(.ref b7), (.ref p0)])) t → Steps p.tables e below (s₁.setTop (entryFrame m #[(.ref p0)] 1)) t := fun t kont => pre7 t (st8 _ kont)
  obtain ⟨T10, h10, X10, e10, W10, st10⟩ := putF X8 hx hZ hown (host := "") (Or.inl (hw _ (List.mem_of_getElem? (i := 25) rfl))) Via.refl e8 f8_1 f8_0 (Or.inl (hw _ (List.mem_of_getElem? (i := 26) rfl))) (hw _ (List.mem_of_getElem? (i := 11) rfl)) (ty := (.array (.object "java/lang/Object"))) (by decide) rfl rfl (g := (mkF m 10 #[.val (.ref p0)] [(.ref b7), (.ref p0)])) rfl rfl (hb hby d3_10)
  have f10_0 := Exa.wr W10 f8_0
  have f10_1 := Fld.same W10 f8_1
  have f10_2 := Fld.other W10 f8_2 (Or.inr (slot_ne (Or.inl (hw _ (List.mem_of_getElem? (i := 83) rfl))) (Or.inl (hw _ (List.mem_of_getElem? (i := 26) rfl))) (by decide) (t := .int) (t' := (.array (.object "java/lang/Object"))) (by decide) (by decide)))
  have f10_3 := Fld.other W10 f8_3 (Or.inr (slot_ne (Or.inl (hw _ (List.mem_of_getElem? (i := 89) rfl))) (Or.inl (hw _ (List.mem_of_getElem? (i := 26) rfl))) (by decide) (t := .int) (t' := (.array (.object "java/lang/Object"))) (by decide) (by decide)))
  have f10_4 := V8.other W10 (Ne.symm ne_p0_b7)
  have K10 : Keep h0 h10 [p0] := (K8).wr W10 (Or.inl (List.mem_of_getElem? (i := 0) rfl))
  have Z10 : n0 ≤ h10.size := Nat.le_trans Z8 (Keep.of_wr W10).1
  have N10 := Fr.snoc X10 N5 gp
  have pre11 : ∀ t, Steps p.tables e below (T10.setTop (mkF m 13 #[.val (.ref p0)] [])) t → Steps p.tables e below (s₁.setTop (entryFrame m #[(.ref p0)] 1)) t := fun t kont => pre9 t (st10 _ kont)
  obtain ⟨fs, hr, hrun, hended, hW, hsame⟩ := X10.leave (v := none) (fun _ => rfl) (BodyLoose.notSynchronized Bd)
  refine ⟨_, _, pre11 _ ?_, hrun, hended, _, _, rfl, ?_, ⟨_, rfl⟩, hW, hsame.mono (by decide) (by decide)⟩
  · exact X10.returnOut hx Bd.returns (hb hby d3_13) hr
  · show Q3 Z p0 h0 n0 _ T10.heap _
    rw [e10]
    exact ⟨rfl, N10, K10, b7, k8, sz_b7, ⟨f10_0, f10_1, f10_2, f10_3, f10_4, O8, ne_p0_b7, gp, g_b7⟩⟩
theorem d1_0 : decode prog_109_method_1_code 0 = .ok (.aload_n 0, 1) := by decide +kernel
theorem d1_1 : decode prog_109_method_1_code 1 = .ok (.invokespecial 1, 3) := by decide +kernel
theorem d1_4 : decode prog_109_method_1_code 4 = .ok (.aload_n 0, 1) := by decide +kernel
theorem d1_5 : decode prog_109_method_1_code 5 = .ok (.new 7, 3) := by decide +kernel
theorem d1_8 : decode prog_109_method_1_code 8 = .ok (.dup, 1) := by decide +kernel
theorem d1_9 : decode prog_109_method_1_code 9 = .ok (.invokespecial 9, 3) := by decide +kernel
theorem d1_12 : decode prog_109_method_1_code 12 = .ok (.putfield 10, 3) := by decide +kernel
theorem d1_15 : decode prog_109_method_1_code 15 = .ok (.aload_n 0, 1) := by decide +kernel
theorem d1_16 : decode prog_109_method_1_code 16 = .ok (.iconst 1, 1) := by decide +kernel
theorem d1_17 : decode prog_109_method_1_code 17 = .ok (.putfield 16, 3) := by decide +kernel
theorem d1_20 : decode prog_109_method_1_code 20 = .ok (.return_, 1) := by decide +kernel
theorem pn_1 : plainName "com/example/arkivsmed/arkivsmed/xml/TextCount" = true := by first | (simp [plainName, overriddenIn]; done) | decide +kernel
theorem ef_1 (m : MethodId) (x0 : Addr) : entryFrame m #[(.ref x0)] 1 = mkF m 0 #[.val (.ref x0)] [] := by first | (simp [entryFrame, mkF, argsToLocals, Value.category]; done) | rfl
def Q1 (Z : State) (p0 : Addr) (h0 : Heap) (n0 : Nat) (v : Option Value) (h : Heap) (L : List Loc) : Prop := v = none ∧ Fr n0 L ∧ n0 ≤ h.size ∧ ∃ (d el : Addr) (kc : ClassId), own_tc Z h n0 p0 d el kc (0 : Int64) (1 : Int32) (0 : Int32) (fun _ => Value.null)
set_option maxRecDepth 65536 in
set_option maxHeartbeats 40000000 in
theorem rm1 (l : Launch) (Z : State) (a0 : Array Value) (hw : ∀ d ∈ tables_1, d.before a0 Z = true) (ws : List Jvm.Cond) (p0 : Addr) (h0 : Heap) (n0 : Nat) (Z0 : n0 ≤ h0.size) (Ep : Exa Z h0 p0 "com/example/arkivsmed/arkivsmed/xml/TextCount") (F_open : Fld Z h0 p0 "com/example/arkivsmed/arkivsmed/xml/TextCount" "open" "Ljava/util/Deque;" .null) (F_count : Fld Z h0 p0 "com/example/arkivsmed/arkivsmed/xml/TextCount" "count" "J" (.long (0 : Int64))) (F_line : Fld Z h0 p0 "com/example/arkivsmed/arkivsmed/xml/TextCount" "line" "I" (.int (0 : Int32))) (gp : n0 ≤ p0) (OL : Old Z n0 h0) :
    MetFree l (⟨"com/example/arkivsmed/arkivsmed/xml/TextCount", "<init>", "()V"⟩ : MethodName) (head1 (Jvm.Cond.code (⟨"com/example/arkivsmed/arkivsmed/xml/TextCount", "<init>", "()V"⟩ : MethodName) prog_109_method_1_code 1 none :: ws) ({ frames := 3, cells := 2, slots := 20, locals := 38 } : Room)) (fun a U => a = #[(.ref p0)] ∧ Z.Warmed39 U.vm ∧ U.heap = h0) (fun _ _ _ _ _ => True) (fun _ U o U' => ∃ v L, o = .returned v ∧ Q1 Z p0 h0 n0 v U'.heap L ∧ FrameEnd U o U' L ({ frames := 3, cells := 2, slots := 20, locals := 38 } : Room).cells ({ frames := 3, cells := 2, slots := 20, locals := 38 } : Room).slots) := by
  refine MetFree.of_bodySF (plainFor_of_name pn_1) hisR ?_
  intro p e s m args below meth c s₁ Bd hml0 hP hK
  obtain ⟨rfl, hZ, hh⟩ := hP
  have hx := Bd.exec
  have hby := Bd.bytes
  have hml : c.maxLocals = 1 := hml0
  have hown : s.vm.findClass "com/example/arkivsmed/arkivsmed/xml/TextCount" = some m.cls := findClass_of_methodNamed Bd.named
  have hnm := (name_of_methodNamed Bd.named Bd.method).1
  have X0 : Stand p l e ({ frames := 3, cells := 2, slots := 20, locals := 38 } : Room) s m #[(.ref p0)] below meth c s₁ [] 0 0 := Stand.of_body Bd
  have e0 : s₁.heap = h0 := by rw [← hh, Bd.state]; rfl
  have N0 := Fr.nil n0
  have pre0 : ∀ t, Steps p.tables e below (s₁.setTop (mkF m 0 #[.val (.ref p0)] [])) t → Steps p.tables e below (s₁.setTop (entryFrame m #[(.ref p0)] 1)) t := fun t k => castTop (ef_1 m p0) k
  have pre12 : ∀ t, Steps p.tables e below (s₁.setTop (mkF m 1 #[.val (.ref p0)] [(.ref p0)])) t → Steps p.tables e below (s₁.setTop (entryFrame m #[(.ref p0)] 1)) t := by
    intro t kont
    refine pre0 t ?_
    show Steps p.tables e below (s₁.setTop (mkF m 0 #[.val (.ref p0)] [])) _
    refine XS.aloadN X0.here hx rfl (hb hby d1_0) rfl rfl ?_
    exact kont
  obtain ⟨T13, X13, e13, st13⟩ := initO X0 hx hZ hown (hw _ (List.mem_of_getElem? (i := 7) rfl)) (hw _ (List.mem_of_getElem? (i := 8) rfl)) (hw _ (List.mem_of_getElem? (i := 9) rfl)) e0 (g := (mkF m 1 #[.val (.ref p0)] [(.ref p0)])) rfl (by rw [hml]; rfl) rfl (hb hby d1_1) (by decide) (W := 0) (by show 2 * 0 + _ ≤ _; exact Nat.le_of_eq rfl) (by decide)
  have pre14 : ∀ t, Steps p.tables e below (T13.setTop (mkF m 4 #[.val (.ref p0)] [])) t → Steps p.tables e below (s₁.setTop (entryFrame m #[(.ref p0)] 1)) t := fun t kont => pre12 t (st13 _ kont)
  have pre15 : ∀ t, Steps p.tables e below (T13.setTop (mkF m 5 #[.val (.ref p0)] [(.ref p0)])) t → Steps p.tables e below (s₁.setTop (entryFrame m #[(.ref p0)] 1)) t := by
    intro t kont
    refine pre14 t ?_
    show Steps p.tables e below (T13.setTop (mkF m 4 #[.val (.ref p0)] [])) _
    refine XS.aloadN X13.here hx rfl (hb hby d1_4) rfl rfl ?_
    exact kont
  obtain ⟨T16, h16, X16, e16, E16, A16, D16, -, st16⟩ := newO X13 hx hZ hown (hw _ (List.mem_of_getElem? (i := 10) rfl)) (hw _ (List.mem_of_getElem? (i := 11) rfl)) (hw _ (List.mem_of_getElem? (i := 12) rfl)) e13 (g := (mkF m 5 #[.val (.ref p0)] [(.ref p0)])) rfl (hb hby d1_5) (by decide) (by decide)
  obtain ⟨b5, g16⟩ : ∃ z, z = h0.size := ⟨_, rfl⟩
  rw [← g16] at A16 D16 st16
  have g_b5 : n0 ≤ b5 := Nat.le_trans Z0 (Nat.le_of_eq g16.symm)
  have ne_p0_b5 : p0 ≠ b5 := Nat.ne_of_lt (Nat.lt_of_lt_of_le (Ep).lt (Nat.le_of_eq g16.symm))
  have f16_0 := Exa.ext E16 Ep
  have f16_1 := OL.ext E16
  have f16_2 := Fld.ext E16 F_open
  have f16_3 := Fld.ext E16 F_count
  have f16_4 := Fld.ext E16 F_line
  have F16_elements : Fld Z h16 b5 "java/util/ArrayDeque" "elements" "[Ljava/lang/Object;" .null := D16 (Or.inl (hw _ (List.mem_of_getElem? (i := 26) rfl))) (ty := (.array (.object "java/lang/Object"))) (by decide)
  have F16_head : Fld Z h16 b5 "java/util/ArrayDeque" "head" "I" (.int (0 : Int32)) := D16 (Or.inl (hw _ (List.mem_of_getElem? (i := 83) rfl))) (ty := .int) (by decide)
  have F16_tail : Fld Z h16 b5 "java/util/ArrayDeque" "tail" "I" (.int (0 : Int32)) := D16 (Or.inl (hw _ (List.mem_of_getElem? (i := 89) rfl))) (ty := .int) (by decide)
  have Z16 : n0 ≤ h16.size := Nat.le_trans Z0 E16.1
  have pre17 : ∀ t, Steps p.tables e below (T16.setTop (mkF m 8 #[.val (.ref p0)] [(.ref b5), (.ref p0)])) t → Steps p.tables e below (s₁.setTop (entryFrame m #[(.ref p0)] 1)) t := fun t kont => pre15 t (st16 _ kont)
  have pre18 : ∀ t, Steps p.tables e below (T16.setTop (mkF m 9 #[.val (.ref p0)] [(.ref b5), (.ref b5), (.ref p0)])) t → Steps p.tables e below (s₁.setTop (entryFrame m #[(.ref p0)] 1)) t := by
    intro t kont
    refine pre17 t ?_
    show Steps p.tables e below (T16.setTop (mkF m 8 #[.val (.ref p0)] [(.ref b5), (.ref p0)])) _
    refine XS.dup X16.here hx rfl (hb hby d1_8) rfl rfl ?_
    exact kont
  obtain ⟨_, _, ⟨T19, L19, k19, n19⟩, -, X19, ⟨Lc19, hQ19, l19, y19, z19⟩, st19⟩ := X16.specialBack hx (y := (⟨"java/util/ArrayDeque", "<init>", "()V"⟩ : MethodName)) rfl hown (mvT hZ (hw _ (List.mem_of_getElem? (i := 13) rfl))) (mvT hZ (hw _ (List.mem_of_getElem? (i := 14) rfl))) (mvT hZ (hw _ (List.mem_of_getElem? (i := 15) rfl))) (by decide) (backOf (W := 2) (rm3 l Z a0 hw [] b5  h16 n0 Z16 A16 F16_elements F16_head F16_tail g_b5) hZ (hw _ (List.mem_of_getElem? (i := 15) rfl)) (hw _ (List.mem_of_getElem? (i := 12) rfl)) (by decide) (by decide)) (g := (mkF m 9 #[.val (.ref p0)] [(.ref b5), (.ref b5), (.ref p0)])) rfl (by rw [hml]; rfl) (Steps.refl _) (a := b5) (argsL := []) (rest := [(.ref b5), (.ref p0)]) (lenOf pd_0 rfl) rfl (by show 2 * 0 + _ ≤ _; exact Nat.le_of_eq rfl) (hb hby d1_9) (fun _ _ => ⟨rfl, e16, (by decide : 1 + 1 ≤ _), (by decide : 3 + 17 ≤ _)⟩)
  dsimp only [Pt.U, Pt.locs, Pt.cells, Pt.slots] at X19 l19 y19 z19 st19 hQ19
  subst l19 y19 z19
  obtain ⟨rfl, N19q, K19, el, kc, S19, D19⟩ := hQ19
  have N19 := Fr.app N0 N19q
  have ne_p0_el : p0 ≠ el := Nat.ne_of_lt (Nat.lt_of_lt_of_le (f16_0).lt S19)
  have f19_0 := Exa.keep f16_0 K19
  have f19_1 := Old.keep f16_1 K19 (allS g_b5 all0)
  have f19_2 := Fld.keep f16_2 K19 (ninS ne_p0_b5 nin0)
  have f19_3 := Fld.keep f16_3 K19 (ninS ne_p0_b5 nin0)
  have f19_4 := Fld.keep f16_4 K19 (ninS ne_p0_b5 nin0)
  have Z19 : n0 ≤ T19.heap.size := Nat.le_trans Z16 (K19).1
  obtain ⟨Ed19, Fe19, Fh19, Ft19, Ad19, Od19, nde19, gd19, ge19⟩ := id D19
  have pre20 : ∀ t, Steps p.tables e below (T19.setTop (mkF m 12 #[.val (.ref p0)] [(.ref b5), (.ref p0)])) t → Steps p.tables e below (s₁.setTop (entryFrame m #[(.ref p0)] 1)) t := fun t kont => pre18 t (st19.trans kont)
  obtain ⟨T21, h21, X21, e21, W21, st21⟩ := putF X19 hx hZ hown (host := "") (Or.inl (hw _ (List.mem_of_getElem? (i := 27) rfl))) Via.refl rfl f19_2 f19_0 (Or.inr ⟨(hw _ (List.mem_of_getElem? (i := 28) rfl)), rfl, hnm⟩) (hw _ (List.mem_of_getElem? (i := 2) rfl)) (ty := (.object "java/util/Deque")) (by decide) rfl rfl (g := (mkF m 12 #[.val (.ref p0)] [(.ref b5), (.ref p0)])) rfl rfl (hb hby d1_12)
  have f21_0 := Exa.wr W21 f19_0
  have f21_1 := Old.wr f19_1 W21 gp
  have f21_2 := Fld.same W21 f19_2
  have f21_3 := Fld.other W21 f19_3 (Or.inr (slot_ne (Or.inl (hw _ (List.mem_of_getElem? (i := 37) rfl))) (Or.inr (hw _ (List.mem_of_getElem? (i := 28) rfl))) (by decide) (t := .long) (t' := (.object "java/util/Deque")) (by decide) (by decide)))
  have f21_4 := Fld.other W21 f19_4 (Or.inr (slot_ne (Or.inl (hw _ (List.mem_of_getElem? (i := 30) rfl))) (Or.inr (hw _ (List.mem_of_getElem? (i := 28) rfl))) (by decide) (t := .int) (t' := (.object "java/util/Deque")) (by decide) (by decide)))
  have f21_5 := Exa.wr W21 Ed19
  have f21_6 := Fld.other W21 Fe19 (Or.inl (Ne.symm ne_p0_b5))
  have f21_7 := Fld.other W21 Fh19 (Or.inl (Ne.symm ne_p0_b5))
  have f21_8 := Fld.other W21 Ft19 (Or.inl (Ne.symm ne_p0_b5))
  have f21_9 := Ad19.other W21 (Ne.symm ne_p0_el)
  have Z21 : n0 ≤ h21.size := Nat.le_trans Z19 (Keep.of_wr W21).1
  have N21 := Fr.snoc X21 N19 gp
  have pre22 : ∀ t, Steps p.tables e below (T21.setTop (mkF m 15 #[.val (.ref p0)] [])) t → Steps p.tables e below (s₁.setTop (entryFrame m #[(.ref p0)] 1)) t := fun t kont => pre20 t (st21 _ kont)
  have pre23 : ∀ t, Steps p.tables e below (T21.setTop (mkF m 17 #[.val (.ref p0)] [(.int (1 : Int32)), (.ref p0)])) t → Steps p.tables e below (s₁.setTop (entryFrame m #[(.ref p0)] 1)) t := by
    intro t kont
    refine pre22 t ?_
    show Steps p.tables e below (T21.setTop (mkF m 15 #[.val (.ref p0)] [])) _
    refine XS.aloadN X21.here hx rfl (hb hby d1_15) rfl rfl ?_
    show Steps p.tables e below (T21.setTop (mkF m 16 #[.val (.ref p0)] [(.ref p0)])) _
    refine XS.iconst X21.here hx rfl (hb hby d1_16) ?_
    exact kont
  obtain ⟨T24, h24, X24, e24, W24, st24⟩ := putF X21 hx hZ hown (host := "") (Or.inl (hw _ (List.mem_of_getElem? (i := 29) rfl))) Via.refl e21 f21_4 f21_0 (Or.inl (hw _ (List.mem_of_getElem? (i := 30) rfl))) (hw _ (List.mem_of_getElem? (i := 2) rfl)) (ty := .int) (by decide) rfl rfl (g := (mkF m 17 #[.val (.ref p0)] [(.int (1 : Int32)), (.ref p0)])) rfl rfl (hb hby d1_17)
  have f24_0 := Exa.wr W24 f21_0
  have f24_1 := Old.wr f21_1 W24 gp
  have f24_2 := Fld.other W24 f21_2 (Or.inr (slot_ne (Or.inr (hw _ (List.mem_of_getElem? (i := 28) rfl))) (Or.inl (hw _ (List.mem_of_getElem? (i := 30) rfl))) (by decide) (t := (.object "java/util/Deque")) (t' := .int) (by decide) (by decide)))
  have f24_3 := Fld.other W24 f21_3 (Or.inr (slot_ne (Or.inl (hw _ (List.mem_of_getElem? (i := 37) rfl))) (Or.inl (hw _ (List.mem_of_getElem? (i := 30) rfl))) (by decide) (t := .long) (t' := .int) (by decide) (by decide)))
  have f24_4 := Fld.same W24 f21_4
  have f24_5 := Exa.wr W24 f21_5
  have f24_6 := Fld.other W24 f21_6 (Or.inl (Ne.symm ne_p0_b5))
  have f24_7 := Fld.other W24 f21_7 (Or.inl (Ne.symm ne_p0_b5))
  have f24_8 := Fld.other W24 f21_8 (Or.inl (Ne.symm ne_p0_b5))
  have f24_9 := f21_9.other W24 (Ne.symm ne_p0_el)
  have Z24 : n0 ≤ h24.size := Nat.le_trans Z21 (Keep.of_wr W24).1
  have N24 := Fr.snoc X24 N21 gp
  have pre25 : ∀ t, Steps p.tables e below (T24.setTop (mkF m 20 #[.val (.ref p0)] [])) t → Steps p.tables e below (s₁.setTop (entryFrame m #[(.ref p0)] 1)) t := fun t kont => pre23 t (st24 _ kont)
  obtain ⟨fs, hr, hrun, hended, hW, hsame⟩ := X24.leave (v := none) (fun _ => rfl) (BodyLoose.notSynchronized Bd)
  refine ⟨_, _, pre25 _ ?_, hrun, hended, _, _, rfl, ?_, ⟨_, rfl⟩, hW, hsame.mono (by decide) (by decide)⟩
  · exact X24.returnOut hx Bd.returns (hb hby d1_20) hr
  · show Q1 Z p0 h0 n0 _ T24.heap _
    rw [e24]
    exact ⟨rfl, N24, Z24, b5, el, kc, ⟨f24_0, f24_2, f24_3, f24_4, ⟨f24_5, f24_6, f24_7, f24_8, f24_9, Od19, nde19, gd19, ge19⟩, ne_p0_b5, ne_p0_el, gp, f24_1⟩⟩
def own_add (c : Int64) : Int32 := if (1048576 : Int64) < c then (0 : Int32) else (1 : Int32)
theorem d5_0 : decode prog_109_method_4_code 0 = .ok (.aload_n 0, 1) := by decide +kernel
theorem d5_1 : decode prog_109_method_4_code 1 = .ok (.dup, 1) := by decide +kernel
theorem d5_2 : decode prog_109_method_4_code 2 = .ok (.getfield 34, 3) := by decide +kernel
theorem d5_5 : decode prog_109_method_4_code 5 = .ok (.iload_n 1, 1) := by decide +kernel
theorem d5_6 : decode prog_109_method_4_code 6 = .ok (.i2l, 1) := by decide +kernel
theorem d5_7 : decode prog_109_method_4_code 7 = .ok (.ladd, 1) := by decide +kernel
theorem d5_8 : decode prog_109_method_4_code 8 = .ok (.putfield 34, 3) := by decide +kernel
theorem d5_11 : decode prog_109_method_4_code 11 = .ok (.aload_n 0, 1) := by decide +kernel
theorem d5_12 : decode prog_109_method_4_code 12 = .ok (.getfield 34, 3) := by decide +kernel
theorem d5_15 : decode prog_109_method_4_code 15 = .ok (.ldc2_w 40, 3) := by decide +kernel
theorem d5_18 : decode prog_109_method_4_code 18 = .ok (.lcmp, 1) := by decide +kernel
theorem d5_19 : decode prog_109_method_4_code 19 = .ok (.ifCond .gt 7, 3) := by decide +kernel
theorem d5_26 : decode prog_109_method_4_code 26 = .ok (.iconst 0, 1) := by decide +kernel
theorem d5_27 : decode prog_109_method_4_code 27 = .ok (.ireturn, 1) := by decide +kernel
theorem d5_22 : decode prog_109_method_4_code 22 = .ok (.iconst 1, 1) := by decide +kernel
theorem d5_23 : decode prog_109_method_4_code 23 = .ok (.goto 4, 3) := by decide +kernel
theorem ef_5 (m : MethodId) (x0 : Addr) (x1 : Int32) : entryFrame m #[(.ref x0), (.int x1)] 2 = mkF m 0 #[.val (.ref x0), .val (.int x1)] [] := by first | (simp [entryFrame, mkF, argsToLocals, Value.category]; done) | rfl
def Q5 (Z : State) (p0 : Addr) (p1 : Int32) (d : Addr) (el : Addr) (kc : ClassId) (cnt : Int64) (ln : Int32) (hd : Int32) (f : Nat → Value) (h0 : Heap) (n0 : Nat) (v : Option Value) (h : Heap) (L : List Loc) : Prop := v = some (.int (own_add (cnt + p1.toInt64))) ∧ Fr n0 L ∧ n0 ≤ h.size ∧ own_tc Z h n0 p0 d el kc (cnt + p1.toInt64) ln hd f
set_option maxRecDepth 65536 in
set_option maxHeartbeats 40000000 in
theorem rm5 (l : Launch) (Z : State) (a0 : Array Value) (hw : ∀ d ∈ tables_1, d.before a0 Z = true) (ws : List Jvm.Cond) (p0 : Addr) (p1 : Int32) (d : Addr) (el : Addr) (kc : ClassId) (cnt : Int64) (ln : Int32) (hd : Int32) (f : Nat → Value) (h0 : Heap) (n0 : Nat) (Z0 : n0 ≤ h0.size) (Htc : own_tc Z h0 n0 p0 d el kc cnt ln hd f) :
    MetFree l (⟨"com/example/arkivsmed/arkivsmed/xml/TextCount", "add", "(I)Z"⟩ : MethodName) (head1 (Jvm.Cond.code (⟨"com/example/arkivsmed/arkivsmed/xml/TextCount", "add", "(I)Z"⟩ : MethodName) prog_109_method_4_code 2 (some .boolean) :: ws) ({ frames := 0, cells := 0, slots := 0, locals := 0 } : Room)) (fun a U => a = #[(.ref p0), (.int p1)] ∧ Z.Warmed39 U.vm ∧ U.heap = h0) (fun _ _ _ _ _ => True) (fun _ U o U' => ∃ v L, o = .returned v ∧ Q5 Z p0 p1 d el kc cnt ln hd f h0 n0 v U'.heap L ∧ FrameEnd U o U' L ({ frames := 0, cells := 0, slots := 0, locals := 0 } : Room).cells ({ frames := 0, cells := 0, slots := 0, locals := 0 } : Room).slots) := by
  refine MetFree.of_bodySF (plainFor_of_name pn_1) hisR ?_
  intro p e s m args below meth c s₁ Bd hml0 hP hK
  obtain ⟨rfl, hZ, hh⟩ := hP
  have hx := Bd.exec
  have hby := Bd.bytes
  have hml : c.maxLocals = 2 := hml0
  have hown : s.vm.findClass "com/example/arkivsmed/arkivsmed/xml/TextCount" = some m.cls := findClass_of_methodNamed Bd.named
  have hnm := (name_of_methodNamed Bd.named Bd.method).1
  have X0 : Stand p l e ({ frames := 0, cells := 0, slots := 0, locals := 0 } : Room) s m #[(.ref p0), (.int p1)] below meth c s₁ [] 0 0 := Stand.of_body Bd
  have e0 : s₁.heap = h0 := by rw [← hh, Bd.state]; rfl
  have N0 := Fr.nil n0
  have pre0 : ∀ t, Steps p.tables e below (s₁.setTop (mkF m 0 #[.val (.ref p0), .val (.int p1)] [])) t → Steps p.tables e below (s₁.setTop (entryFrame m #[(.ref p0), (.int p1)] 2)) t := fun t k => castTop (ef_5 m p0 p1) k
  obtain ⟨Et, Fo, Fc, Fl, Dq, ntd, nte, gt, OL⟩ := id Htc
  obtain ⟨Ed, Fe, Fh, Ft, Ad, Od, nde, gd, ge⟩ := id Dq
  have pre26 : ∀ t, Steps p.tables e below (s₁.setTop (mkF m 2 #[.val (.ref p0), .val (.int p1)] [(.ref p0), (.ref p0)])) t → Steps p.tables e below (s₁.setTop (entryFrame m #[(.ref p0), (.int p1)] 2)) t := by
    intro t kont
    refine pre0 t ?_
    show Steps p.tables e below (s₁.setTop (mkF m 0 #[.val (.ref p0), .val (.int p1)] [])) _
    refine XS.aloadN X0.here hx rfl (hb hby d5_0) rfl rfl ?_
    show Steps p.tables e below (s₁.setTop (mkF m 1 #[.val (.ref p0), .val (.int p1)] [(.ref p0)])) _
    refine XS.dup X0.here hx rfl (hb hby d5_1) rfl rfl ?_
    exact kont
  obtain ⟨T27, X27, e27, st27⟩ := getF X0 hx hZ hown (host := "") (Or.inl (hw _ (List.mem_of_getElem? (i := 36) rfl))) Via.refl e0 Fc (g := (mkF m 2 #[.val (.ref p0), .val (.int p1)] [(.ref p0), (.ref p0)])) rfl rfl (hb hby d5_2)
  have pre28 : ∀ t, Steps p.tables e below (T27.setTop (mkF m 5 #[.val (.ref p0), .val (.int p1)] [(.long cnt), (.ref p0)])) t → Steps p.tables e below (s₁.setTop (entryFrame m #[(.ref p0), (.int p1)] 2)) t := fun t kont => pre26 t (st27 _ kont)
  have pre29 : ∀ t, Steps p.tables e below (T27.setTop (mkF m 8 #[.val (.ref p0), .val (.int p1)] [(.long (cnt + (p1.toInt64))), (.ref p0)])) t → Steps p.tables e below (s₁.setTop (entryFrame m #[(.ref p0), (.int p1)] 2)) t := by
    intro t kont
    refine pre28 t ?_
    show Steps p.tables e below (T27.setTop (mkF m 5 #[.val (.ref p0), .val (.int p1)] [(.long cnt), (.ref p0)])) _
    refine XS.iloadN X27.here hx rfl (hb hby d5_5) rfl ?_
    show Steps p.tables e below (T27.setTop (mkF m 6 #[.val (.ref p0), .val (.int p1)] [(.int p1), (.long cnt), (.ref p0)])) _
    refine XS.i2l X27.here hx rfl (hb hby d5_6) rfl ?_
    show Steps p.tables e below (T27.setTop (mkF m 7 #[.val (.ref p0), .val (.int p1)] [(.long (p1.toInt64)), (.long cnt), (.ref p0)])) _
    refine XS.ladd X27.here hx rfl (hb hby d5_7) rfl ?_
    exact kont
  obtain ⟨T30, h30, X30, e30, W30, st30⟩ := putF X27 hx hZ hown (host := "") (Or.inl (hw _ (List.mem_of_getElem? (i := 36) rfl))) Via.refl e27 Fc Et (Or.inl (hw _ (List.mem_of_getElem? (i := 37) rfl))) (hw _ (List.mem_of_getElem? (i := 2) rfl)) (ty := .long) (by decide) rfl rfl (g := (mkF m 8 #[.val (.ref p0), .val (.int p1)] [(.long (cnt + (p1.toInt64))), (.ref p0)])) rfl rfl (hb hby d5_8)
  have f30_0 := Exa.wr W30 Et
  have f30_1 := Fld.other W30 Fo (Or.inr (slot_ne (Or.inr (hw _ (List.mem_of_getElem? (i := 28) rfl))) (Or.inl (hw _ (List.mem_of_getElem? (i := 37) rfl))) (by decide) (t := (.object "java/util/Deque")) (t' := .long) (by decide) (by decide)))
  have f30_2 := Fld.same W30 Fc
  have f30_3 := Fld.other W30 Fl (Or.inr (slot_ne (Or.inl (hw _ (List.mem_of_getElem? (i := 30) rfl))) (Or.inl (hw _ (List.mem_of_getElem? (i := 37) rfl))) (by decide) (t := .int) (t' := .long) (by decide) (by decide)))
  have f30_4 := Old.wr OL W30 gt
  have f30_5 := Exa.wr W30 Ed
  have f30_6 := Fld.other W30 Fe (Or.inl (Ne.symm ntd))
  have f30_7 := Fld.other W30 Fh (Or.inl (Ne.symm ntd))
  have f30_8 := Fld.other W30 Ft (Or.inl (Ne.symm ntd))
  have f30_9 := Ad.other W30 (Ne.symm nte)
  have Z30 : n0 ≤ h30.size := Nat.le_trans Z0 (Keep.of_wr W30).1
  have N30 := Fr.snoc X30 N0 gt
  have pre31 : ∀ t, Steps p.tables e below (T30.setTop (mkF m 11 #[.val (.ref p0), .val (.int p1)] [])) t → Steps p.tables e below (s₁.setTop (entryFrame m #[(.ref p0), (.int p1)] 2)) t := fun t kont => pre29 t (st30 _ kont)
  have pre32 : ∀ t, Steps p.tables e below (T30.setTop (mkF m 12 #[.val (.ref p0), .val (.int p1)] [(.ref p0)])) t → Steps p.tables e below (s₁.setTop (entryFrame m #[(.ref p0), (.int p1)] 2)) t := by
    intro t kont
    refine pre31 t ?_
    show Steps p.tables e below (T30.setTop (mkF m 11 #[.val (.ref p0), .val (.int p1)] [])) _
    refine XS.aloadN X30.here hx rfl (hb hby d5_11) rfl rfl ?_
    exact kont
  obtain ⟨T33, X33, e33, st33⟩ := getF X30 hx hZ hown (host := "") (Or.inl (hw _ (List.mem_of_getElem? (i := 36) rfl))) Via.refl e30 f30_2 (g := (mkF m 12 #[.val (.ref p0), .val (.int p1)] [(.ref p0)])) rfl rfl (hb hby d5_12)
  have pre34 : ∀ t, Steps p.tables e below (T33.setTop (mkF m 15 #[.val (.ref p0), .val (.int p1)] [(.long (cnt + (p1.toInt64)))])) t → Steps p.tables e below (s₁.setTop (entryFrame m #[(.ref p0), (.int p1)] 2)) t := fun t kont => pre32 t (st33 _ kont)
  have pre35 : ∀ t, Steps p.tables e below (T33.setTop (mkF m 19 #[.val (.ref p0), .val (.int p1)] [(.int (lcmpW (cnt + (p1.toInt64)) (1048576 : Int64)))])) t → Steps p.tables e below (s₁.setTop (entryFrame m #[(.ref p0), (.int p1)] 2)) t := by
    intro t kont
    refine pre34 t ?_
    show Steps p.tables e below (T33.setTop (mkF m 15 #[.val (.ref p0), .val (.int p1)] [(.long (cnt + (p1.toInt64)))])) _
    refine X33.ldc2Long hx hown (mvT hZ (hw _ (List.mem_of_getElem? (i := 38) rfl))) (g := (mkF m 15 #[.val (.ref p0), .val (.int p1)] [(.long (cnt + (p1.toInt64)))])) rfl (hb hby d5_15) _ ?_
    show Steps p.tables e below (T33.setTop (mkF m 18 #[.val (.ref p0), .val (.int p1)] [(.long (1048576 : Int64)), (.long (cnt + (p1.toInt64)))])) _
    refine XS.lcmp X33.here hx rfl (hb hby d5_18) rfl ?_
    exact kont
  by_cases hc19 : (1048576 : Int64) < (cnt + (p1.toInt64))
  · have pre36 : ∀ t, Steps p.tables e below (T33.setTop (mkF m 27 #[.val (.ref p0), .val (.int p1)] [(.int (0 : Int32))])) t → Steps p.tables e below (s₁.setTop (entryFrame m #[(.ref p0), (.int p1)] 2)) t := by
      intro t kont
      refine pre35 t ?_
      show Steps p.tables e below (T33.setTop (mkF m 19 #[.val (.ref p0), .val (.int p1)] [(.int (lcmpW (cnt + (p1.toInt64)) (1048576 : Int64)))])) _
      refine XS.ifYes X33.here hx rfl (pc0 := 19) (pc' := 26) rfl (hb hby d5_19) rfl ((if0 _ _).trans (tlt ((lw_gt _ _).mpr hc19)).2.2.1) (by decide) (by decide) ?_
      show Steps p.tables e below (T33.setTop (mkF m 26 #[.val (.ref p0), .val (.int p1)] [])) _
      refine XS.iconst X33.here hx rfl (hb hby d5_26) ?_
      exact kont
    obtain ⟨fs, hr, hrun, hended, hW, hsame⟩ := X33.leave (v := some (.int (0 : Int32))) (fun h => by rw [Bd.returns] at h; cases h) (BodyLoose.notSynchronized Bd)
    refine ⟨_, _, pre36 _ ?_, hrun, hended, _, _, rfl, ?_, ⟨_, rfl⟩, hW, hsame.mono (by decide) (by decide)⟩
    · exact retN X33 hx (t := .boolean) Bd.returns (by simp) (hb hby d5_27) hr
    · show Q5 Z p0 p1 d el kc cnt ln hd f h0 n0 _ T33.heap _
      rw [e33]
      refine ⟨?_, N30, Z30, ⟨f30_0, f30_1, f30_2, f30_3, ⟨f30_5, f30_6, f30_7, f30_8, f30_9, Od, nde, gd, ge⟩, ntd, nte, gt, f30_4⟩⟩
      unfold own_add; rw [if_pos hc19]
  · have pre37 : ∀ t, Steps p.tables e below (T33.setTop (mkF m 27 #[.val (.ref p0), .val (.int p1)] [(.int (1 : Int32))])) t → Steps p.tables e below (s₁.setTop (entryFrame m #[(.ref p0), (.int p1)] 2)) t := by
      intro t kont
      refine pre35 t ?_
      show Steps p.tables e below (T33.setTop (mkF m 19 #[.val (.ref p0), .val (.int p1)] [(.int (lcmpW (cnt + (p1.toInt64)) (1048576 : Int64)))])) _
      refine XS.ifNo X33.here hx rfl (hb hby d5_19) rfl ((if0 _ _).trans (flt (fun q => hc19 ((lw_gt _ _).mp q))).2.2.1) ?_
      show Steps p.tables e below (T33.setTop (mkF m 22 #[.val (.ref p0), .val (.int p1)] [])) _
      refine XS.iconst X33.here hx rfl (hb hby d5_22) ?_
      show Steps p.tables e below (T33.setTop (mkF m 23 #[.val (.ref p0), .val (.int p1)] [(.int (1 : Int32))])) _
      refine XS.goto X33.here hx rfl (pc0 := 23) (pc' := 27) rfl (hb hby d5_23) (by decide) (by decide) ?_
      exact kont
    obtain ⟨fs, hr, hrun, hended, hW, hsame⟩ := X33.leave (v := some (.int (1 : Int32))) (fun h => by rw [Bd.returns] at h; cases h) (BodyLoose.notSynchronized Bd)
    refine ⟨_, _, pre37 _ ?_, hrun, hended, _, _, rfl, ?_, ⟨_, rfl⟩, hW, hsame.mono (by decide) (by decide)⟩
    · exact retN X33 hx (t := .boolean) Bd.returns (by simp) (hb hby d5_27) hr
    · show Q5 Z p0 p1 d el kc cnt ln hd f h0 n0 _ T33.heap _
      rw [e33]
      refine ⟨?_, N30, Z30, ⟨f30_0, f30_1, f30_2, f30_3, ⟨f30_5, f30_6, f30_7, f30_8, f30_9, Od, nde, gd, ge⟩, ntd, nte, gt, f30_4⟩⟩
      unfold own_add; rw [if_neg hc19]
theorem d14_0 : decode prog_109_method_7_code 0 = .ok (.aload_n 0, 1) := by decide +kernel
theorem d14_1 : decode prog_109_method_7_code 1 = .ok (.lconst 0, 1) := by decide +kernel
theorem d14_2 : decode prog_109_method_7_code 2 = .ok (.putfield 34, 3) := by decide +kernel
theorem d14_5 : decode prog_109_method_7_code 5 = .ok (.aload_n 0, 1) := by decide +kernel
theorem d14_6 : decode prog_109_method_7_code 6 = .ok (.iload_n 1, 1) := by decide +kernel
theorem d14_7 : decode prog_109_method_7_code 7 = .ok (.putfield 16, 3) := by decide +kernel
theorem d14_10 : decode prog_109_method_7_code 10 = .ok (.return_, 1) := by decide +kernel
theorem ef_14 (m : MethodId) (x0 : Addr) (x1 : Int32) : entryFrame m #[(.ref x0), (.int x1)] 2 = mkF m 0 #[.val (.ref x0), .val (.int x1)] [] := by first | (simp [entryFrame, mkF, argsToLocals, Value.category]; done) | rfl
def Q14 (Z : State) (p0 : Addr) (p1 : Int32) (d : Addr) (el : Addr) (kc : ClassId) (cnt : Int64) (ln : Int32) (hd : Int32) (f : Nat → Value) (h0 : Heap) (n0 : Nat) (v : Option Value) (h : Heap) (L : List Loc) : Prop := v = none ∧ Fr n0 L ∧ n0 ≤ h.size ∧ own_tc Z h n0 p0 d el kc (0 : Int64) p1 hd f
set_option maxRecDepth 65536 in
set_option maxHeartbeats 40000000 in
theorem rm14 (l : Launch) (Z : State) (a0 : Array Value) (hw : ∀ d ∈ tables_1, d.before a0 Z = true) (ws : List Jvm.Cond) (p0 : Addr) (p1 : Int32) (d : Addr) (el : Addr) (kc : ClassId) (cnt : Int64) (ln : Int32) (hd : Int32) (f : Nat → Value) (h0 : Heap) (n0 : Nat) (Z0 : n0 ≤ h0.size) (Htc : own_tc Z h0 n0 p0 d el kc cnt ln hd f) :
    MetFree l (⟨"com/example/arkivsmed/arkivsmed/xml/TextCount", "restart", "(I)V"⟩ : MethodName) (head1 (Jvm.Cond.code (⟨"com/example/arkivsmed/arkivsmed/xml/TextCount", "restart", "(I)V"⟩ : MethodName) prog_109_method_7_code 2 none :: ws) ({ frames := 0, cells := 0, slots := 0, locals := 0 } : Room)) (fun a U => a = #[(.ref p0), (.int p1)] ∧ Z.Warmed39 U.vm ∧ U.heap = h0) (fun _ _ _ _ _ => True) (fun _ U o U' => ∃ v L, o = .returned v ∧ Q14 Z p0 p1 d el kc cnt ln hd f h0 n0 v U'.heap L ∧ FrameEnd U o U' L ({ frames := 0, cells := 0, slots := 0, locals := 0 } : Room).cells ({ frames := 0, cells := 0, slots := 0, locals := 0 } : Room).slots) := by
  refine MetFree.of_bodySF (plainFor_of_name pn_1) hisR ?_
  intro p e s m args below meth c s₁ Bd hml0 hP hK
  obtain ⟨rfl, hZ, hh⟩ := hP
  have hx := Bd.exec
  have hby := Bd.bytes
  have hml : c.maxLocals = 2 := hml0
  have hown : s.vm.findClass "com/example/arkivsmed/arkivsmed/xml/TextCount" = some m.cls := findClass_of_methodNamed Bd.named
  have hnm := (name_of_methodNamed Bd.named Bd.method).1
  have X0 : Stand p l e ({ frames := 0, cells := 0, slots := 0, locals := 0 } : Room) s m #[(.ref p0), (.int p1)] below meth c s₁ [] 0 0 := Stand.of_body Bd
  have e0 : s₁.heap = h0 := by rw [← hh, Bd.state]; rfl
  have N0 := Fr.nil n0
  have pre0 : ∀ t, Steps p.tables e below (s₁.setTop (mkF m 0 #[.val (.ref p0), .val (.int p1)] [])) t → Steps p.tables e below (s₁.setTop (entryFrame m #[(.ref p0), (.int p1)] 2)) t := fun t k => castTop (ef_14 m p0 p1) k
  obtain ⟨Et, Fo, Fc, Fl, Dq, ntd, nte, gt, OL⟩ := id Htc
  obtain ⟨Ed, Fe, Fh, Ft, Ad, Od, nde, gd, ge⟩ := id Dq
  have pre38 : ∀ t, Steps p.tables e below (s₁.setTop (mkF m 2 #[.val (.ref p0), .val (.int p1)] [(.long (0 : Int64)), (.ref p0)])) t → Steps p.tables e below (s₁.setTop (entryFrame m #[(.ref p0), (.int p1)] 2)) t := by
    intro t kont
    refine pre0 t ?_
    show Steps p.tables e below (s₁.setTop (mkF m 0 #[.val (.ref p0), .val (.int p1)] [])) _
    refine XS.aloadN X0.here hx rfl (hb hby d14_0) rfl rfl ?_
    show Steps p.tables e below (s₁.setTop (mkF m 1 #[.val (.ref p0), .val (.int p1)] [(.ref p0)])) _
    refine XS.lconst X0.here hx rfl (hb hby d14_1) ?_
    exact kont
  obtain ⟨T39, h39, X39, e39, W39, st39⟩ := putF X0 hx hZ hown (host := "") (Or.inl (hw _ (List.mem_of_getElem? (i := 36) rfl))) Via.refl e0 Fc Et (Or.inl (hw _ (List.mem_of_getElem? (i := 37) rfl))) (hw _ (List.mem_of_getElem? (i := 2) rfl)) (ty := .long) (by decide) rfl rfl (g := (mkF m 2 #[.val (.ref p0), .val (.int p1)] [(.long (0 : Int64)), (.ref p0)])) rfl rfl (hb hby d14_2)
  have f39_0 := Exa.wr W39 Et
  have f39_1 := Fld.other W39 Fo (Or.inr (slot_ne (Or.inr (hw _ (List.mem_of_getElem? (i := 28) rfl))) (Or.inl (hw _ (List.mem_of_getElem? (i := 37) rfl))) (by decide) (t := (.object "java/util/Deque")) (t' := .long) (by decide) (by decide)))
  have f39_2 := Fld.same W39 Fc
  have f39_3 := Fld.other W39 Fl (Or.inr (slot_ne (Or.inl (hw _ (List.mem_of_getElem? (i := 30) rfl))) (Or.inl (hw _ (List.mem_of_getElem? (i := 37) rfl))) (by decide) (t := .int) (t' := .long) (by decide) (by decide)))
  have f39_4 := Old.wr OL W39 gt
  have f39_5 := Exa.wr W39 Ed
  have f39_6 := Fld.other W39 Fe (Or.inl (Ne.symm ntd))
  have f39_7 := Fld.other W39 Fh (Or.inl (Ne.symm ntd))
  have f39_8 := Fld.other W39 Ft (Or.inl (Ne.symm ntd))
  have f39_9 := Ad.other W39 (Ne.symm nte)
  have Z39 : n0 ≤ h39.size := Nat.le_trans Z0 (Keep.of_wr W39).1
  have N39 := Fr.snoc X39 N0 gt
  have pre40 : ∀ t, Steps p.tables e below (T39.setTop (mkF m 5 #[.val (.ref p0), .val (.int p1)] [])) t → Steps p.tables e below (s₁.setTop (entryFrame m #[(.ref p0), (.int p1)] 2)) t := fun t kont => pre38 t (st39 _ kont)
  have pre41 : ∀ t, Steps p.tables e below (T39.setTop (mkF m 7 #[.val (.ref p0), .val (.int p1)] [(.int p1), (.ref p0)])) t → Steps p.tables e below (s₁.setTop (entryFrame m #[(.ref p0), (.int p1)] 2)) t := by
    intro t kont
    refine pre40 t ?_
    show Steps p.tables e below (T39.setTop (mkF m 5 #[.val (.ref p0), .val (.int p1)] [])) _
    refine XS.aloadN X39.here hx rfl (hb hby d14_5) rfl rfl ?_
    show Steps p.tables e below (T39.setTop (mkF m 6 #[.val (.ref p0), .val (.int p1)] [(.ref p0)])) _
    refine XS.iloadN X39.here hx rfl (hb hby d14_6) rfl ?_
    exact kont
  obtain ⟨T42, h42, X42, e42, W42, st42⟩ := putF X39 hx hZ hown (host := "") (Or.inl (hw _ (List.mem_of_getElem? (i := 29) rfl))) Via.refl e39 f39_3 f39_0 (Or.inl (hw _ (List.mem_of_getElem? (i := 30) rfl))) (hw _ (List.mem_of_getElem? (i := 2) rfl)) (ty := .int) (by decide) rfl rfl (g := (mkF m 7 #[.val (.ref p0), .val (.int p1)] [(.int p1), (.ref p0)])) rfl rfl (hb hby d14_7)
  have f42_0 := Exa.wr W42 f39_0
  have f42_1 := Fld.other W42 f39_1 (Or.inr (slot_ne (Or.inr (hw _ (List.mem_of_getElem? (i := 28) rfl))) (Or.inl (hw _ (List.mem_of_getElem? (i := 30) rfl))) (by decide) (t := (.object "java/util/Deque")) (t' := .int) (by decide) (by decide)))
  have f42_2 := Fld.other W42 f39_2 (Or.inr (slot_ne (Or.inl (hw _ (List.mem_of_getElem? (i := 37) rfl))) (Or.inl (hw _ (List.mem_of_getElem? (i := 30) rfl))) (by decide) (t := .long) (t' := .int) (by decide) (by decide)))
  have f42_3 := Fld.same W42 f39_3
  have f42_4 := Old.wr f39_4 W42 gt
  have f42_5 := Exa.wr W42 f39_5
  have f42_6 := Fld.other W42 f39_6 (Or.inl (Ne.symm ntd))
  have f42_7 := Fld.other W42 f39_7 (Or.inl (Ne.symm ntd))
  have f42_8 := Fld.other W42 f39_8 (Or.inl (Ne.symm ntd))
  have f42_9 := f39_9.other W42 (Ne.symm nte)
  have Z42 : n0 ≤ h42.size := Nat.le_trans Z39 (Keep.of_wr W42).1
  have N42 := Fr.snoc X42 N39 gt
  have pre43 : ∀ t, Steps p.tables e below (T42.setTop (mkF m 10 #[.val (.ref p0), .val (.int p1)] [])) t → Steps p.tables e below (s₁.setTop (entryFrame m #[(.ref p0), (.int p1)] 2)) t := fun t kont => pre41 t (st42 _ kont)
  obtain ⟨fs, hr, hrun, hended, hW, hsame⟩ := X42.leave (v := none) (fun _ => rfl) (BodyLoose.notSynchronized Bd)
  refine ⟨_, _, pre43 _ ?_, hrun, hended, _, _, rfl, ?_, ⟨_, rfl⟩, hW, hsame.mono (by decide) (by decide)⟩
  · exact X42.returnOut hx Bd.returns (hb hby d14_10) hr
  · show Q14 Z p0 p1 d el kc cnt ln hd f h0 n0 _ T42.heap _
    rw [e42]
    refine ⟨?_, N42, Z42, ⟨f42_0, f42_1, f42_2, f42_3, ⟨f42_5, f42_6, f42_7, f42_8, f42_9, Od, nde, gd, ge⟩, ntd, nte, gt, f42_4⟩⟩
    rfl
theorem d15_0 : decode prog_109_method_5_code 0 = .ok (.aload_n 0, 1) := by decide +kernel
theorem d15_1 : decode prog_109_method_5_code 1 = .ok (.getfield 16, 3) := by decide +kernel
theorem d15_4 : decode prog_109_method_5_code 4 = .ok (.ireturn, 1) := by decide +kernel
theorem ef_15 (m : MethodId) (x0 : Addr) : entryFrame m #[(.ref x0)] 1 = mkF m 0 #[.val (.ref x0)] [] := by first | (simp [entryFrame, mkF, argsToLocals, Value.category]; done) | rfl
def Q15 (Z : State) (p0 : Addr) (d : Addr) (el : Addr) (kc : ClassId) (cnt : Int64) (ln : Int32) (hd : Int32) (f : Nat → Value) (h0 : Heap) (n0 : Nat) (v : Option Value) (h : Heap) (L : List Loc) : Prop := v = some (.int ln) ∧ Fr n0 L ∧ n0 ≤ h.size ∧ own_tc Z h n0 p0 d el kc cnt ln hd f
set_option maxRecDepth 65536 in
set_option maxHeartbeats 40000000 in
theorem rm15 (l : Launch) (Z : State) (a0 : Array Value) (hw : ∀ d ∈ tables_1, d.before a0 Z = true) (ws : List Jvm.Cond) (p0 : Addr) (d : Addr) (el : Addr) (kc : ClassId) (cnt : Int64) (ln : Int32) (hd : Int32) (f : Nat → Value) (h0 : Heap) (n0 : Nat) (Z0 : n0 ≤ h0.size) (Htc : own_tc Z h0 n0 p0 d el kc cnt ln hd f) :
    MetFree l (⟨"com/example/arkivsmed/arkivsmed/xml/TextCount", "line", "()I"⟩ : MethodName) (head1 (Jvm.Cond.code (⟨"com/example/arkivsmed/arkivsmed/xml/TextCount", "line", "()I"⟩ : MethodName) prog_109_method_5_code 1 (some .int) :: ws) ({ frames := 0, cells := 0, slots := 0, locals := 0 } : Room)) (fun a U => a = #[(.ref p0)] ∧ Z.Warmed39 U.vm ∧ U.heap = h0) (fun _ _ _ _ _ => True) (fun _ U o U' => ∃ v L, o = .returned v ∧ Q15 Z p0 d el kc cnt ln hd f h0 n0 v U'.heap L ∧ FrameEnd U o U' L ({ frames := 0, cells := 0, slots := 0, locals := 0 } : Room).cells ({ frames := 0, cells := 0, slots := 0, locals := 0 } : Room).slots) := by
  refine MetFree.of_bodySF (plainFor_of_name pn_1) hisR ?_
  intro p e s m args below meth c s₁ Bd hml0 hP hK
  obtain ⟨rfl, hZ, hh⟩ := hP
  have hx := Bd.exec
  have hby := Bd.bytes
  have hml : c.maxLocals = 1 := hml0
  have hown : s.vm.findClass "com/example/arkivsmed/arkivsmed/xml/TextCount" = some m.cls := findClass_of_methodNamed Bd.named
  have hnm := (name_of_methodNamed Bd.named Bd.method).1
  have X0 : Stand p l e ({ frames := 0, cells := 0, slots := 0, locals := 0 } : Room) s m #[(.ref p0)] below meth c s₁ [] 0 0 := Stand.of_body Bd
  have e0 : s₁.heap = h0 := by rw [← hh, Bd.state]; rfl
  have N0 := Fr.nil n0
  have pre0 : ∀ t, Steps p.tables e below (s₁.setTop (mkF m 0 #[.val (.ref p0)] [])) t → Steps p.tables e below (s₁.setTop (entryFrame m #[(.ref p0)] 1)) t := fun t k => castTop (ef_15 m p0) k
  obtain ⟨Et, Fo, Fc, Fl, Dq, ntd, nte, gt, OL⟩ := id Htc
  obtain ⟨Ed, Fe, Fh, Ft, Ad, Od, nde, gd, ge⟩ := id Dq
  have pre44 : ∀ t, Steps p.tables e below (s₁.setTop (mkF m 1 #[.val (.ref p0)] [(.ref p0)])) t → Steps p.tables e below (s₁.setTop (entryFrame m #[(.ref p0)] 1)) t := by
    intro t kont
    refine pre0 t ?_
    show Steps p.tables e below (s₁.setTop (mkF m 0 #[.val (.ref p0)] [])) _
    refine XS.aloadN X0.here hx rfl (hb hby d15_0) rfl rfl ?_
    exact kont
  obtain ⟨T45, X45, e45, st45⟩ := getF X0 hx hZ hown (host := "") (Or.inl (hw _ (List.mem_of_getElem? (i := 29) rfl))) Via.refl e0 Fl (g := (mkF m 1 #[.val (.ref p0)] [(.ref p0)])) rfl rfl (hb hby d15_1)
  have pre46 : ∀ t, Steps p.tables e below (T45.setTop (mkF m 4 #[.val (.ref p0)] [(.int ln)])) t → Steps p.tables e below (s₁.setTop (entryFrame m #[(.ref p0)] 1)) t := fun t kont => pre44 t (st45 _ kont)
  obtain ⟨fs, hr, hrun, hended, hW, hsame⟩ := X45.leave (v := some (.int ln)) (fun h => by rw [Bd.returns] at h; cases h) (BodyLoose.notSynchronized Bd)
  refine ⟨_, _, pre46 _ ?_, hrun, hended, _, _, rfl, ?_, ⟨_, rfl⟩, hW, hsame.mono (by decide) (by decide)⟩
  · exact retI X45 hx Bd.returns (hb hby d15_4) hr
  · show Q15 Z p0 d el kc cnt ln hd f h0 n0 _ T45.heap _
    rw [e45]
    refine ⟨?_, N0, Z0, ⟨Et, Fo, Fc, Fl, ⟨Ed, Fe, Fh, Ft, Ad, Od, nde, gd, ge⟩, ntd, nte, gt, OL⟩⟩
    rfl
theorem d7_0 : decode jdk_43_method_3_code 0 = .ok (.iload_n 0, 1) := by decide +kernel
theorem d7_1 : decode jdk_43_method_3_code 1 = .ok (.sipush 255, 3) := by decide +kernel
theorem d7_4 : decode jdk_43_method_3_code 4 = .ok (.if_icmp .gt 7, 3) := by decide +kernel
theorem d7_11 : decode jdk_43_method_3_code 11 = .ok (.iconst 0, 1) := by decide +kernel
theorem d7_12 : decode jdk_43_method_3_code 12 = .ok (.ireturn, 1) := by decide +kernel
theorem d7_7 : decode jdk_43_method_3_code 7 = .ok (.iconst 1, 1) := by decide +kernel
theorem d7_8 : decode jdk_43_method_3_code 8 = .ok (.goto 4, 3) := by decide +kernel
def own_can (p0 : Int32) : Int32 := (if (255 : Int32) < p0 then (0 : Int32) else (1 : Int32))
theorem pn_7 : plainName "java/lang/StringLatin1" = true := by first | (simp [plainName, overriddenIn]; done) | decide +kernel
theorem ef_7 (m : MethodId) (x0 : Int32) : entryFrame m #[(.int x0)] 1 = mkF m 0 #[.val (.int x0)] [] := by first | (simp [entryFrame, mkF, argsToLocals, Value.category]; done) | rfl
def Q7 (Z : State) (p0 : Int32) (h0 : Heap) (n0 : Nat) (v : Option Value) (h : Heap) (L : List Loc) : Prop := v = some (.int (own_can p0)) ∧ Fr n0 L ∧ h = h0
set_option maxRecDepth 65536 in
set_option maxHeartbeats 40000000 in
theorem rm7 (l : Launch) (Z : State) (a0 : Array Value) (hw : ∀ d ∈ tables_1, d.before a0 Z = true) (ws : List Jvm.Cond) (p0 : Int32) (h0 : Heap) (n0 : Nat) (Z0 : n0 ≤ h0.size) :
    MetFree l (⟨"java/lang/StringLatin1", "canEncode", "(C)Z"⟩ : MethodName) (head1 (Jvm.Cond.code (⟨"java/lang/StringLatin1", "canEncode", "(C)Z"⟩ : MethodName) jdk_43_method_3_code 1 (some .boolean) :: ws) ({ frames := 0, cells := 0, slots := 0, locals := 0 } : Room)) (fun a U => a = #[(.int p0)] ∧ Z.Warmed39 U.vm ∧ U.heap = h0) (fun _ _ _ _ _ => True) (fun _ U o U' => ∃ v L, o = .returned v ∧ Q7 Z p0 h0 n0 v U'.heap L ∧ FrameEnd U o U' L ({ frames := 0, cells := 0, slots := 0, locals := 0 } : Room).cells ({ frames := 0, cells := 0, slots := 0, locals := 0 } : Room).slots) := by
  refine MetFree.of_bodySF (plainFor_of_name pn_7) hisR ?_
  intro p e s m args below meth c s₁ Bd hml0 hP hK
  obtain ⟨rfl, hZ, hh⟩ := hP
  have hx := Bd.exec
  have hby := Bd.bytes
  have hml : c.maxLocals = 1 := hml0
  have hown : s.vm.findClass "java/lang/StringLatin1" = some m.cls := findClass_of_methodNamed Bd.named
  have hnm := (name_of_methodNamed Bd.named Bd.method).1
  have X0 : Stand p l e ({ frames := 0, cells := 0, slots := 0, locals := 0 } : Room) s m #[(.int p0)] below meth c s₁ [] 0 0 := Stand.of_body Bd
  have e0 : s₁.heap = h0 := by rw [← hh, Bd.state]; rfl
  have N0 := Fr.nil n0
  have pre0 : ∀ t, Steps p.tables e below (s₁.setTop (mkF m 0 #[.val (.int p0)] [])) t → Steps p.tables e below (s₁.setTop (entryFrame m #[(.int p0)] 1)) t := fun t k => castTop (ef_7 m p0) k
  have pre47 : ∀ t, Steps p.tables e below (s₁.setTop (mkF m 4 #[.val (.int p0)] [(.int (255 : Int32)), (.int p0)])) t → Steps p.tables e below (s₁.setTop (entryFrame m #[(.int p0)] 1)) t := by
    intro t kont
    refine pre0 t ?_
    show Steps p.tables e below (s₁.setTop (mkF m 0 #[.val (.int p0)] [])) _
    refine XS.iloadN X0.here hx rfl (hb hby d7_0) rfl ?_
    show Steps p.tables e below (s₁.setTop (mkF m 1 #[.val (.int p0)] [(.int p0)])) _
    refine XS.sipush X0.here hx rfl (hb hby d7_1) ?_
    exact kont
  by_cases hc4 : (255 : Int32) < p0
  · have pre48 : ∀ t, Steps p.tables e below (s₁.setTop (mkF m 12 #[.val (.int p0)] [(.int (0 : Int32))])) t → Steps p.tables e below (s₁.setTop (entryFrame m #[(.int p0)] 1)) t := by
      intro t kont
      refine pre47 t ?_
      show Steps p.tables e below (s₁.setTop (mkF m 4 #[.val (.int p0)] [(.int (255 : Int32)), (.int p0)])) _
      refine XS.icmpYes X0.here hx rfl (pc0 := 4) (pc' := 11) rfl (hb hby d7_4) rfl (tlt hc4).2.2.1 (by decide) (by decide) ?_
      show Steps p.tables e below (s₁.setTop (mkF m 11 #[.val (.int p0)] [])) _
      refine XS.iconst X0.here hx rfl (hb hby d7_11) ?_
      exact kont
    obtain ⟨fs, hr, hrun, hended, hW, hsame⟩ := X0.leave (v := some (.int (0 : Int32))) (fun h => by rw [Bd.returns] at h; cases h) (BodyLoose.notSynchronized Bd)
    refine ⟨_, _, pre48 _ ?_, hrun, hended, _, _, rfl, ?_, ⟨_, rfl⟩, hW, hsame.mono (by decide) (by decide)⟩
    · exact retN X0 hx (t := .boolean) Bd.returns (by simp) (hb hby d7_12) hr
    · show Q7 Z p0 h0 n0 _ s₁.heap _
      rw [e0]
      refine ⟨?_, N0, rfl⟩
      unfold own_can; rw [if_pos hc4]
  · have pre49 : ∀ t, Steps p.tables e below (s₁.setTop (mkF m 12 #[.val (.int p0)] [(.int (1 : Int32))])) t → Steps p.tables e below (s₁.setTop (entryFrame m #[(.int p0)] 1)) t := by
      intro t kont
      refine pre47 t ?_
      show Steps p.tables e below (s₁.setTop (mkF m 4 #[.val (.int p0)] [(.int (255 : Int32)), (.int p0)])) _
      refine XS.icmpNo X0.here hx rfl (hb hby d7_4) rfl (flt hc4).2.2.1 ?_
      show Steps p.tables e below (s₁.setTop (mkF m 7 #[.val (.int p0)] [])) _
      refine XS.iconst X0.here hx rfl (hb hby d7_7) ?_
      show Steps p.tables e below (s₁.setTop (mkF m 8 #[.val (.int p0)] [(.int (1 : Int32))])) _
      refine XS.goto X0.here hx rfl (pc0 := 8) (pc' := 12) rfl (hb hby d7_8) (by decide) (by decide) ?_
      exact kont
    obtain ⟨fs, hr, hrun, hended, hW, hsame⟩ := X0.leave (v := some (.int (1 : Int32))) (fun h => by rw [Bd.returns] at h; cases h) (BodyLoose.notSynchronized Bd)
    refine ⟨_, _, pre49 _ ?_, hrun, hended, _, _, rfl, ?_, ⟨_, rfl⟩, hW, hsame.mono (by decide) (by decide)⟩
    · exact retN X0 hx (t := .boolean) Bd.returns (by simp) (hb hby d7_12) hr
    · show Q7 Z p0 h0 n0 _ s₁.heap _
      rw [e0]
      refine ⟨?_, N0, rfl⟩
      unfold own_can; rw [if_neg hc4]
theorem d8_0 : decode jdk_43_method_46_code 0 = .ok (.iconst 1, 1) := by decide +kernel
theorem d8_1 : decode jdk_43_method_46_code 1 = .ok (.newarray .byte, 2) := by decide +kernel
theorem d8_3 : decode jdk_43_method_46_code 3 = .ok (.dup, 1) := by decide +kernel
theorem d8_4 : decode jdk_43_method_46_code 4 = .ok (.iconst 0, 1) := by decide +kernel
theorem d8_5 : decode jdk_43_method_46_code 5 = .ok (.iload_n 0, 1) := by decide +kernel
theorem d8_6 : decode jdk_43_method_46_code 6 = .ok (.i2b, 1) := by decide +kernel
theorem d8_7 : decode jdk_43_method_46_code 7 = .ok (.bastore, 1) := by decide +kernel
theorem d8_8 : decode jdk_43_method_46_code 8 = .ok (.areturn, 1) := by decide +kernel
theorem ef_8 (m : MethodId) (x0 : Int32) : entryFrame m #[(.int x0)] 1 = mkF m 0 #[.val (.int x0)] [] := by first | (simp [entryFrame, mkF, argsToLocals, Value.category]; done) | rfl
def Q8 (Z : State) (p0 : Int32) (h0 : Heap) (n0 : Nat) (v : Option Value) (h : Heap) (L : List Loc) : Prop := ∃ a, v = some (.ref a) ∧ h0.size ≤ a ∧ Fr n0 L ∧ Keep h0 h []
set_option maxRecDepth 65536 in
set_option maxHeartbeats 40000000 in
theorem rm8 (l : Launch) (Z : State) (a0 : Array Value) (hw : ∀ d ∈ tables_1, d.before a0 Z = true) (ws : List Jvm.Cond) (p0 : Int32) (h0 : Heap) (n0 : Nat) (Z0 : n0 ≤ h0.size) :
    MetFree l (⟨"java/lang/StringLatin1", "toBytes", "(C)[B"⟩ : MethodName) (head1 (Jvm.Cond.code (⟨"java/lang/StringLatin1", "toBytes", "(C)[B"⟩ : MethodName) jdk_43_method_46_code 1 (some (.array .byte)) :: ws) ({ frames := 0, cells := 1, slots := 1, locals := 0 } : Room)) (fun a U => a = #[(.int p0)] ∧ Z.Warmed39 U.vm ∧ U.heap = h0) (fun _ _ _ _ _ => True) (fun _ U o U' => ∃ v L, o = .returned v ∧ Q8 Z p0 h0 n0 v U'.heap L ∧ FrameEnd U o U' L ({ frames := 0, cells := 1, slots := 1, locals := 0 } : Room).cells ({ frames := 0, cells := 1, slots := 1, locals := 0 } : Room).slots) := by
  refine MetFree.of_bodySF (plainFor_of_name pn_7) hisR ?_
  intro p e s m args below meth c s₁ Bd hml0 hP hK
  obtain ⟨rfl, hZ, hh⟩ := hP
  have hx := Bd.exec
  have hby := Bd.bytes
  have hml : c.maxLocals = 1 := hml0
  have hown : s.vm.findClass "java/lang/StringLatin1" = some m.cls := findClass_of_methodNamed Bd.named
  have hnm := (name_of_methodNamed Bd.named Bd.method).1
  have X0 : Stand p l e ({ frames := 0, cells := 1, slots := 1, locals := 0 } : Room) s m #[(.int p0)] below meth c s₁ [] 0 0 := Stand.of_body Bd
  have e0 : s₁.heap = h0 := by rw [← hh, Bd.state]; rfl
  have N0 := Fr.nil n0
  have pre0 : ∀ t, Steps p.tables e below (s₁.setTop (mkF m 0 #[.val (.int p0)] [])) t → Steps p.tables e below (s₁.setTop (entryFrame m #[(.int p0)] 1)) t := fun t k => castTop (ef_8 m p0) k
  have pre50 : ∀ t, Steps p.tables e below (s₁.setTop (mkF m 1 #[.val (.int p0)] [(.int (1 : Int32))])) t → Steps p.tables e below (s₁.setTop (entryFrame m #[(.int p0)] 1)) t := by
    intro t kont
    refine pre0 t ?_
    show Steps p.tables e below (s₁.setTop (mkF m 0 #[.val (.int p0)] [])) _
    refine XS.iconst X0.here hx rfl (hb hby d8_0) ?_
    exact kont
  obtain ⟨T51, h51, k51, X51, e51, E51, A51, st51⟩ := newP X0 hx hZ (hw _ (List.mem_of_getElem? (i := 53) rfl)) e0 (g := (mkF m 1 #[.val (.int p0)] [(.int (1 : Int32))])) rfl (hb hby d8_1) rfl (by decide) (cap := 1) (by decide) (by decide) (by decide) (by decide)
  obtain ⟨b1, g51⟩ : ∃ z, z = h0.size := ⟨_, rfl⟩
  rw [← g51] at A51 st51
  have g_b1 : n0 ≤ b1 := Nat.le_trans Z0 (Nat.le_of_eq g51.symm)
  have sz_b1 : h0.size ≤ b1 := Nat.le_trans (Keep.refl h0 []).1 (Nat.le_of_eq g51.symm)
  have K51 : Keep h0 h51 [] := (Keep.refl h0 []).ext E51
  have V51 := own_arr.newB A51 (i := 1) rfl
  have Z51 : n0 ≤ h51.size := Nat.le_trans Z0 E51.1
  have pre52 : ∀ t, Steps p.tables e below (T51.setTop (mkF m 3 #[.val (.int p0)] [(.ref b1)])) t → Steps p.tables e below (s₁.setTop (entryFrame m #[(.int p0)] 1)) t := fun t kont => pre50 t (st51 _ kont)
  have pre53 : ∀ t, Steps p.tables e below (T51.setTop (mkF m 7 #[.val (.int p0)] [(.int (p0.toInt8.toInt32)), (.int (0 : Int32)), (.ref b1), (.ref b1)])) t → Steps p.tables e below (s₁.setTop (entryFrame m #[(.int p0)] 1)) t := by
    intro t kont
    refine pre52 t ?_
    show Steps p.tables e below (T51.setTop (mkF m 3 #[.val (.int p0)] [(.ref b1)])) _
    refine XS.dup X51.here hx rfl (hb hby d8_3) rfl rfl ?_
    show Steps p.tables e below (T51.setTop (mkF m 4 #[.val (.int p0)] [(.ref b1), (.ref b1)])) _
    refine XS.iconst X51.here hx rfl (hb hby d8_4) ?_
    show Steps p.tables e below (T51.setTop (mkF m 5 #[.val (.int p0)] [(.int (0 : Int32)), (.ref b1), (.ref b1)])) _
    refine XS.iloadN X51.here hx rfl (hb hby d8_5) rfl ?_
    show Steps p.tables e below (T51.setTop (mkF m 6 #[.val (.int p0)] [(.int p0), (.int (0 : Int32)), (.ref b1), (.ref b1)])) _
    refine XS.i2b X51.here hx rfl (hb hby d8_6) rfl ?_
    exact kont
  obtain ⟨T54, h54, X54, e54, W54, V54, st54⟩ := own_stB X51 hx hZ e51 V51 (k := 0) (by decide) (by decide) (by decide) (fr := (mkF m 7 #[.val (.int p0)] [(.int (p0.toInt8.toInt32)), (.int (0 : Int32)), (.ref b1), (.ref b1)])) rfl rfl (hb hby d8_7)
  obtain ⟨u7, hu7⟩ : ∃ z : Nat → Int32, z = fun i => if i = 0 then (p0.toInt8.toInt32).toInt8.toInt32 else (fun _ => (0 : Int32)) i := ⟨_, rfl⟩
  replace V54 : own_arr Z h54 b1 .byte 1 (fun i => .int (u7 i)) := by rw [hu7]; exact V54
  have K54 : Keep h0 h54 [] := (K51).wr W54 (Or.inr sz_b1)
  have Z54 : n0 ≤ h54.size := Nat.le_trans Z51 (Keep.of_wr W54).1
  have N54 := Fr.snoc X54 N0 g_b1
  have pre55 : ∀ t, Steps p.tables e below (T54.setTop (mkF m 8 #[.val (.int p0)] [(.ref b1)])) t → Steps p.tables e below (s₁.setTop (entryFrame m #[(.int p0)] 1)) t := fun t kont => pre53 t (st54 _ kont)
  obtain ⟨fs, hr, hrun, hended, hW, hsame⟩ := X54.leave (v := some (.ref b1)) (fun h => by rw [Bd.returns] at h; cases h) (BodyLoose.notSynchronized Bd)
  refine ⟨_, _, pre55 _ ?_, hrun, hended, _, _, rfl, ?_, ⟨_, rfl⟩, hW, hsame.mono (by decide) (by decide)⟩
  · jvm_step X54.here [X54.here.top, hx, (hb hby d8_8), X54.method', Bd.returns, Value.isRef, FieldType.isReference]
    first | (intro acts; rw [hr _ acts rfl rfl rfl]) | rw [hr _ _ rfl rfl rfl]
    exact Steps.refl _
  · show Q8 Z p0 h0 n0 _ T54.heap _
    rw [e54]
    exact ⟨_, rfl, sz_b1, N54, K54⟩
theorem d9_0 : decode jdk_42_method_151_code 0 = .ok (.aload_n 0, 1) := by decide +kernel
theorem d9_1 : decode jdk_42_method_151_code 1 = .ok (.invokespecial 1, 3) := by decide +kernel
theorem d9_4 : decode jdk_42_method_151_code 4 = .ok (.aload_n 0, 1) := by decide +kernel
theorem d9_5 : decode jdk_42_method_151_code 5 = .ok (.aload_n 1, 1) := by decide +kernel
theorem d9_6 : decode jdk_42_method_151_code 6 = .ok (.putfield 9, 3) := by decide +kernel
theorem d9_9 : decode jdk_42_method_151_code 9 = .ok (.aload_n 0, 1) := by decide +kernel
theorem d9_10 : decode jdk_42_method_151_code 10 = .ok (.iload_n 2, 1) := by decide +kernel
theorem d9_11 : decode jdk_42_method_151_code 11 = .ok (.putfield 15, 3) := by decide +kernel
theorem d9_14 : decode jdk_42_method_151_code 14 = .ok (.return_, 1) := by decide +kernel
theorem pn_9 : plainName "java/lang/String" = true := by first | (simp [plainName, overriddenIn]; done) | decide +kernel
theorem ef_9 (m : MethodId) (x0 : Addr) (x1 : Addr) (x2 : Int32) : entryFrame m #[(.ref x0), (.ref x1), (.int x2)] 3 = mkF m 0 #[.val (.ref x0), .val (.ref x1), .val (.int x2)] [] := by first | (simp [entryFrame, mkF, argsToLocals, Value.category]; done) | rfl
def Q9 (Z : State) (p0 : Addr) (p1 : Addr) (h0 : Heap) (n0 : Nat) (v : Option Value) (h : Heap) (L : List Loc) : Prop := v = none ∧ Fr n0 L ∧ Keep h0 h [p0]
set_option maxRecDepth 65536 in
set_option maxHeartbeats 40000000 in
theorem rm9 (l : Launch) (Z : State) (a0 : Array Value) (hw : ∀ d ∈ tables_1, d.before a0 Z = true) (ws : List Jvm.Cond) (p0 : Addr) (p1 : Addr) (h0 : Heap) (n0 : Nat) (Z0 : n0 ≤ h0.size) (Ep : Exa Z h0 p0 "java/lang/String") (Fv : Fld Z h0 p0 "java/lang/String" "value" "[B" .null) (Fk : Fld Z h0 p0 "java/lang/String" "coder" "B" (.int (0 : Int32))) (gp : n0 ≤ p0) :
    MetFree l (⟨"java/lang/String", "<init>", "([BB)V"⟩ : MethodName) (head1 (Jvm.Cond.code (⟨"java/lang/String", "<init>", "([BB)V"⟩ : MethodName) jdk_42_method_151_code 3 none :: ws) ({ frames := 1, cells := 0, slots := 0, locals := 12 } : Room)) (fun a U => a = #[(.ref p0), (.ref p1), (.int (0 : Int32))] ∧ Z.Warmed39 U.vm ∧ U.heap = h0) (fun _ _ _ _ _ => True) (fun _ U o U' => ∃ v L, o = .returned v ∧ Q9 Z p0 p1 h0 n0 v U'.heap L ∧ FrameEnd U o U' L ({ frames := 1, cells := 0, slots := 0, locals := 12 } : Room).cells ({ frames := 1, cells := 0, slots := 0, locals := 12 } : Room).slots) := by
  refine MetFree.of_bodySF (plainFor_of_name pn_9) hisR ?_
  intro p e s m args below meth c s₁ Bd hml0 hP hK
  obtain ⟨rfl, hZ, hh⟩ := hP
  have hx := Bd.exec
  have hby := Bd.bytes
  have hml : c.maxLocals = 3 := hml0
  have hown : s.vm.findClass "java/lang/String" = some m.cls := findClass_of_methodNamed Bd.named
  have hnm := (name_of_methodNamed Bd.named Bd.method).1
  have X0 : Stand p l e ({ frames := 1, cells := 0, slots := 0, locals := 12 } : Room) s m #[(.ref p0), (.ref p1), (.int (0 : Int32))] below meth c s₁ [] 0 0 := Stand.of_body Bd
  have e0 : s₁.heap = h0 := by rw [← hh, Bd.state]; rfl
  have N0 := Fr.nil n0
  have pre0 : ∀ t, Steps p.tables e below (s₁.setTop (mkF m 0 #[.val (.ref p0), .val (.ref p1), .val (.int (0 : Int32))] [])) t → Steps p.tables e below (s₁.setTop (entryFrame m #[(.ref p0), (.ref p1), (.int (0 : Int32))] 3)) t := fun t k => castTop (ef_9 m p0 p1 (0 : Int32)) k
  have pre56 : ∀ t, Steps p.tables e below (s₁.setTop (mkF m 1 #[.val (.ref p0), .val (.ref p1), .val (.int (0 : Int32))] [(.ref p0)])) t → Steps p.tables e below (s₁.setTop (entryFrame m #[(.ref p0), (.ref p1), (.int (0 : Int32))] 3)) t := by
    intro t kont
    refine pre0 t ?_
    show Steps p.tables e below (s₁.setTop (mkF m 0 #[.val (.ref p0), .val (.ref p1), .val (.int (0 : Int32))] [])) _
    refine XS.aloadN X0.here hx rfl (hb hby d9_0) rfl rfl ?_
    exact kont
  obtain ⟨T57, X57, e57, st57⟩ := initO X0 hx hZ hown (hw _ (List.mem_of_getElem? (i := 58) rfl)) (hw _ (List.mem_of_getElem? (i := 8) rfl)) (hw _ (List.mem_of_getElem? (i := 9) rfl)) e0 (g := (mkF m 1 #[.val (.ref p0), .val (.ref p1), .val (.int (0 : Int32))] [(.ref p0)])) rfl (by rw [hml]; rfl) rfl (hb hby d9_1) (by decide) (W := 0) (by show 2 * 0 + _ ≤ _; exact Nat.le_of_eq rfl) (by decide)
  have pre58 : ∀ t, Steps p.tables e below (T57.setTop (mkF m 4 #[.val (.ref p0), .val (.ref p1), .val (.int (0 : Int32))] [])) t → Steps p.tables e below (s₁.setTop (entryFrame m #[(.ref p0), (.ref p1), (.int (0 : Int32))] 3)) t := fun t kont => pre56 t (st57 _ kont)
  have pre59 : ∀ t, Steps p.tables e below (T57.setTop (mkF m 6 #[.val (.ref p0), .val (.ref p1), .val (.int (0 : Int32))] [(.ref p1), (.ref p0)])) t → Steps p.tables e below (s₁.setTop (entryFrame m #[(.ref p0), (.ref p1), (.int (0 : Int32))] 3)) t := by
    intro t kont
    refine pre58 t ?_
    show Steps p.tables e below (T57.setTop (mkF m 4 #[.val (.ref p0), .val (.ref p1), .val (.int (0 : Int32))] [])) _
    refine XS.aloadN X57.here hx rfl (hb hby d9_4) rfl rfl ?_
    show Steps p.tables e below (T57.setTop (mkF m 5 #[.val (.ref p0), .val (.ref p1), .val (.int (0 : Int32))] [(.ref p0)])) _
    refine XS.aloadN X57.here hx rfl (hb hby d9_5) rfl rfl ?_
    exact kont
  obtain ⟨T60, h60, X60, e60, W60, st60⟩ := putF X57 hx hZ hown (host := "") (Or.inl (hw _ (List.mem_of_getElem? (i := 59) rfl))) Via.refl e57 Fv Ep (Or.inr ⟨(hw _ (List.mem_of_getElem? (i := 60) rfl)), rfl, hnm⟩) (hw _ (List.mem_of_getElem? (i := 49) rfl)) (ty := (.array .byte)) (by decide) rfl rfl (g := (mkF m 6 #[.val (.ref p0), .val (.ref p1), .val (.int (0 : Int32))] [(.ref p1), (.ref p0)])) rfl rfl (hb hby d9_6)
  have f60_0 := Exa.wr W60 Ep
  have f60_1 := Fld.same W60 Fv
  have f60_2 := Fld.other W60 Fk (Or.inr (slot_ne (Or.inr (hw _ (List.mem_of_getElem? (i := 62) rfl))) (Or.inr (hw _ (List.mem_of_getElem? (i := 60) rfl))) (by decide) (t := .byte) (t' := (.array .byte)) (by decide) (by decide)))
  have K60 : Keep h0 h60 [p0] := (Keep.refl h0 [p0]).wr W60 (Or.inl (List.mem_of_getElem? (i := 0) rfl))
  have Z60 : n0 ≤ h60.size := Nat.le_trans Z0 (Keep.of_wr W60).1
  have N60 := Fr.snoc X60 N0 gp
  have pre61 : ∀ t, Steps p.tables e below (T60.setTop (mkF m 9 #[.val (.ref p0), .val (.ref p1), .val (.int (0 : Int32))] [])) t → Steps p.tables e below (s₁.setTop (entryFrame m #[(.ref p0), (.ref p1), (.int (0 : Int32))] 3)) t := fun t kont => pre59 t (st60 _ kont)
  have pre62 : ∀ t, Steps p.tables e below (T60.setTop (mkF m 11 #[.val (.ref p0), .val (.ref p1), .val (.int (0 : Int32))] [(.int (0 : Int32)), (.ref p0)])) t → Steps p.tables e below (s₁.setTop (entryFrame m #[(.ref p0), (.ref p1), (.int (0 : Int32))] 3)) t := by
    intro t kont
    refine pre61 t ?_
    show Steps p.tables e below (T60.setTop (mkF m 9 #[.val (.ref p0), .val (.ref p1), .val (.int (0 : Int32))] [])) _
    refine XS.aloadN X60.here hx rfl (hb hby d9_9) rfl rfl ?_
    show Steps p.tables e below (T60.setTop (mkF m 10 #[.val (.ref p0), .val (.ref p1), .val (.int (0 : Int32))] [(.ref p0)])) _
    refine XS.iloadN X60.here hx rfl (hb hby d9_10) rfl ?_
    exact kont
  obtain ⟨T63, h63, X63, e63, W63, st63⟩ := putFN X60 hx hZ hown (hw _ (List.mem_of_getElem? (i := 61) rfl)) Via.refl e60 f60_2 f60_0 (Or.inr ⟨(hw _ (List.mem_of_getElem? (i := 62) rfl)), rfl, hnm⟩) (hw _ (List.mem_of_getElem? (i := 49) rfl)) (ty := .byte) (v' := (.int (0 : Int32))) (by decide) rfl (fits_nar_byte (0 : Int32)) (g := (mkF m 11 #[.val (.ref p0), .val (.ref p1), .val (.int (0 : Int32))] [(.int (0 : Int32)), (.ref p0)])) rfl rfl (hb hby d9_11)
  have f63_0 := Exa.wr W63 f60_0
  have f63_1 := Fld.other W63 f60_1 (Or.inr (slot_ne (Or.inr (hw _ (List.mem_of_getElem? (i := 60) rfl))) (Or.inr (hw _ (List.mem_of_getElem? (i := 62) rfl))) (by decide) (t := (.array .byte)) (t' := .byte) (by decide) (by decide)))
  have f63_2 := Fld.same W63 f60_2
  have K63 : Keep h0 h63 [p0] := (K60).wr W63 (Or.inl (List.mem_of_getElem? (i := 0) rfl))
  have Z63 : n0 ≤ h63.size := Nat.le_trans Z60 (Keep.of_wr W63).1
  have N63 := Fr.snoc X63 N60 gp
  have pre64 : ∀ t, Steps p.tables e below (T63.setTop (mkF m 14 #[.val (.ref p0), .val (.ref p1), .val (.int (0 : Int32))] [])) t → Steps p.tables e below (s₁.setTop (entryFrame m #[(.ref p0), (.ref p1), (.int (0 : Int32))] 3)) t := fun t kont => pre62 t (st63 _ kont)
  obtain ⟨fs, hr, hrun, hended, hW, hsame⟩ := X63.leave (v := none) (fun _ => rfl) (BodyLoose.notSynchronized Bd)
  refine ⟨_, _, pre64 _ ?_, hrun, hended, _, _, rfl, ?_, ⟨_, rfl⟩, hW, hsame.mono (by decide) (by decide)⟩
  · exact X63.returnOut hx Bd.returns (hb hby d9_14) hr
  · show Q9 Z p0 p1 h0 n0 _ T63.heap _
    rw [e63]
    exact ⟨rfl, N63, K63⟩
theorem own_canv {c : Int32} (h : ¬ (255 : Int32) < c) : ¬ own_can c = (0 : Int32) := by unfold own_can; rw [if_neg h]; decide
theorem d6_0 : decode jdk_42_method_139_code 0 = .ok (.getstatic 38, 3) := by decide +kernel
theorem d6_3 : decode jdk_42_method_139_code 3 = .ok (.ifCond .eq 23, 3) := by decide +kernel
theorem d6_6 : decode jdk_42_method_139_code 6 = .ok (.iload_n 0, 1) := by decide +kernel
theorem d6_7 : decode jdk_42_method_139_code 7 = .ok (.invokestatic 1015, 3) := by decide +kernel
theorem pd_1 : parseMethodDescriptor "(C)Z" = some ⟨[.char], some .boolean⟩ := by decide +kernel
theorem d6_10 : decode jdk_42_method_139_code 10 = .ok (.ifCond .eq 16, 3) := by decide +kernel
theorem d6_13 : decode jdk_42_method_139_code 13 = .ok (.new 10, 3) := by decide +kernel
theorem d6_16 : decode jdk_42_method_139_code 16 = .ok (.dup, 1) := by decide +kernel
theorem d6_17 : decode jdk_42_method_139_code 17 = .ok (.iload_n 0, 1) := by decide +kernel
theorem d6_18 : decode jdk_42_method_139_code 18 = .ok (.invokestatic 1018, 3) := by decide +kernel
theorem pd_2 : parseMethodDescriptor "(C)[B" = some ⟨[.char], some (.array .byte)⟩ := by decide +kernel
theorem d6_21 : decode jdk_42_method_139_code 21 = .ok (.iconst 0, 1) := by decide +kernel
theorem d6_22 : decode jdk_42_method_139_code 22 = .ok (.invokespecial 209, 3) := by decide +kernel
theorem pd_3 : parseMethodDescriptor "([BB)V" = some ⟨[(.array .byte), .byte], none⟩ := by decide +kernel
theorem d6_25 : decode jdk_42_method_139_code 25 = .ok (.areturn, 1) := by decide +kernel
theorem ef_6 (m : MethodId) (x0 : Int32) : entryFrame m #[(.int x0)] 1 = mkF m 0 #[.val (.int x0)] [] := by first | (simp [entryFrame, mkF, argsToLocals, Value.category]; done) | rfl
def Q6 (Z : State) (p0 : Int32) (w : Int32) (h0 : Heap) (n0 : Nat) (v : Option Value) (h : Heap) (L : List Loc) : Prop := ∃ a, v = some (.ref a) ∧ h0.size ≤ a ∧ Fr n0 L ∧ Keep h0 h [] ∧ Exa Z h a "java/lang/String"
set_option maxRecDepth 65536 in
set_option maxHeartbeats 40000000 in
theorem rm6 (l : Launch) (Z : State) (a0 : Array Value) (hw : ∀ d ∈ tables_1, d.before a0 Z = true) (ws : List Jvm.Cond) (p0 : Int32) (w : Int32) (h0 : Heap) (n0 : Nat) (Z0 : n0 ≤ h0.size) (OL : Old Z n0 h0) (Sc : Sta Z Z.heap "java/lang/String" "COMPACT_STRINGS" "Z" (.int w)) (hw0 : ¬ w = (0 : Int32)) (hc : ¬ (255 : Int32) < p0) :
    MetFree l (⟨"java/lang/String", "valueOf", "(C)Ljava/lang/String;"⟩ : MethodName) (head1 (Jvm.Cond.code (⟨"java/lang/String", "valueOf", "(C)Ljava/lang/String;"⟩ : MethodName) jdk_42_method_139_code 1 (some (.object "java/lang/String")) :: ws) ({ frames := 2, cells := 2, slots := 5, locals := 27 } : Room)) (fun a U => a = #[(.int p0)] ∧ Z.Warmed39 U.vm ∧ U.heap = h0) (fun _ _ _ _ _ => True) (fun _ U o U' => ∃ v L, o = .returned v ∧ Q6 Z p0 w h0 n0 v U'.heap L ∧ FrameEnd U o U' L ({ frames := 2, cells := 2, slots := 5, locals := 27 } : Room).cells ({ frames := 2, cells := 2, slots := 5, locals := 27 } : Room).slots) := by
  refine MetFree.of_bodySF (plainFor_of_name pn_9) hisR ?_
  intro p e s m args below meth c s₁ Bd hml0 hP hK
  obtain ⟨rfl, hZ, hh⟩ := hP
  have hx := Bd.exec
  have hby := Bd.bytes
  have hml : c.maxLocals = 1 := hml0
  have hown : s.vm.findClass "java/lang/String" = some m.cls := findClass_of_methodNamed Bd.named
  have hnm := (name_of_methodNamed Bd.named Bd.method).1
  have X0 : Stand p l e ({ frames := 2, cells := 2, slots := 5, locals := 27 } : Room) s m #[(.int p0)] below meth c s₁ [] 0 0 := Stand.of_body Bd
  have e0 : s₁.heap = h0 := by rw [← hh, Bd.state]; rfl
  have N0 := Fr.nil n0
  have pre0 : ∀ t, Steps p.tables e below (s₁.setTop (mkF m 0 #[.val (.int p0)] [])) t → Steps p.tables e below (s₁.setTop (entryFrame m #[(.int p0)] 1)) t := fun t k => castTop (ef_6 m p0) k
  obtain ⟨T65, X65, e65, st65⟩ := getS2 X0 hx hZ hown (host := "") (Or.inl (hw _ (List.mem_of_getElem? (i := 43) rfl))) Via.refl e0 (Sta.ext OL.2 Sc) (g := (mkF m 0 #[.val (.int p0)] [])) rfl (hb hby d6_0)
  have pre66 : ∀ t, Steps p.tables e below (T65.setTop (mkF m 3 #[.val (.int p0)] [(.int w)])) t → Steps p.tables e below (s₁.setTop (entryFrame m #[(.int p0)] 1)) t := fun t kont => pre0 t (st65 _ kont)
  by_cases hc3 : w = (0 : Int32)
  · exfalso
    first | exact hw0 hc3 | exact own_canv hc hc10
  · have pre67 : ∀ t, Steps p.tables e below (T65.setTop (mkF m 7 #[.val (.int p0)] [(.int p0)])) t → Steps p.tables e below (s₁.setTop (entryFrame m #[(.int p0)] 1)) t := by
      intro t kont
      refine pre66 t ?_
      show Steps p.tables e below (T65.setTop (mkF m 3 #[.val (.int p0)] [(.int w)])) _
      refine XS.ifNo X65.here hx rfl (hb hby d6_3) rfl ((if0 _ _).trans (feq hc3).1) ?_
      show Steps p.tables e below (T65.setTop (mkF m 6 #[.val (.int p0)] [])) _
      refine XS.iloadN X65.here hx rfl (hb hby d6_6) rfl ?_
      exact kont
    obtain ⟨_, _, ⟨T68, L68, k68, n68⟩, -, X68, ⟨Lc68, hQ68, l68, y68, z68⟩, st68⟩ := Jvm.LawKit.callS X65 hx (y := (⟨"java/lang/StringLatin1", "canEncode", "(C)Z"⟩ : MethodName)) hown (mvT hZ (hw _ (List.mem_of_getElem? (i := 44) rfl))) (mvT hZ (hw _ (List.mem_of_getElem? (i := 45) rfl))) (mvT hZ (hw _ (List.mem_of_getElem? (i := 46) rfl))) (mvT hZ (hw _ (List.mem_of_getElem? (i := 47) rfl))) (by decide) (backOf (W := 0) (rm7 l Z a0 hw [] p0  h0 n0 Z0) hZ (hw _ (List.mem_of_getElem? (i := 47) rfl)) (hw _ (List.mem_of_getElem? (i := 46) rfl)) (by decide) (by decide)) (g := (mkF m 7 #[.val (.int p0)] [(.int p0)])) rfl (by rw [hml]; rfl) (argsL := [(.int p0)]) (rest := []) (lenOf pd_1 rfl) rfl (by show 2 * 0 + _ ≤ _; exact Nat.le_of_eq rfl) (hb hby d6_7) (fun _ _ => ⟨rfl, e65, (by decide : 0 + 0 ≤ _), (by decide : 0 + 0 ≤ _)⟩)
    dsimp only [Pt.U, Pt.locs, Pt.cells, Pt.slots] at X68 l68 y68 z68 st68 hQ68
    subst l68 y68 z68
    obtain ⟨rfl, N68q, e68⟩ := hQ68
    have N68 := Fr.app N0 N68q
    have pre69 : ∀ t, Steps p.tables e below (T68.setTop (mkF m 10 #[.val (.int p0)] [(.int (own_can p0))])) t → Steps p.tables e below (s₁.setTop (entryFrame m #[(.int p0)] 1)) t := fun t kont => pre67 t (st68 _ kont)
    by_cases hc10 : (own_can p0) = (0 : Int32)
    · exfalso
      first | exact hw0 hc3 | exact own_canv hc hc10
    · have pre70 : ∀ t, Steps p.tables e below (T68.setTop (mkF m 13 #[.val (.int p0)] [])) t → Steps p.tables e below (s₁.setTop (entryFrame m #[(.int p0)] 1)) t := by
        intro t kont
        refine pre69 t ?_
        show Steps p.tables e below (T68.setTop (mkF m 10 #[.val (.int p0)] [(.int (own_can p0))])) _
        refine XS.ifNo X68.here hx rfl (hb hby d6_10) rfl ((if0 _ _).trans (feq hc10).1) ?_
        exact kont
      obtain ⟨T71, h71, X71, e71, E71, A71, D71, -, st71⟩ := newO X68 hx hZ hown (hw _ (List.mem_of_getElem? (i := 48) rfl)) (hw _ (List.mem_of_getElem? (i := 49) rfl)) (hw _ (List.mem_of_getElem? (i := 41) rfl)) e68 (g := (mkF m 13 #[.val (.int p0)] [])) rfl (hb hby d6_13) (by decide) (by decide)
      obtain ⟨b13, g71⟩ : ∃ z, z = h0.size := ⟨_, rfl⟩
      rw [← g71] at A71 D71 st71
      have g_b13 : n0 ≤ b13 := Nat.le_trans Z0 (Nat.le_of_eq g71.symm)
      have sz_b13 : h0.size ≤ b13 := Nat.le_trans (Keep.refl h0 []).1 (Nat.le_of_eq g71.symm)
      have f71_0 := OL.ext E71
      have K71 : Keep h0 h71 [] := (Keep.refl h0 []).ext E71
      have F71_value : Fld Z h71 b13 "java/lang/String" "value" "[B" .null := D71 (Or.inr (hw _ (List.mem_of_getElem? (i := 60) rfl))) (ty := (.array .byte)) (by decide)
      have F71_coder : Fld Z h71 b13 "java/lang/String" "coder" "B" (.int (0 : Int32)) := D71 (Or.inr (hw _ (List.mem_of_getElem? (i := 62) rfl))) (ty := .byte) (by decide)
      have Z71 : n0 ≤ h71.size := Nat.le_trans Z0 E71.1
      have pre72 : ∀ t, Steps p.tables e below (T71.setTop (mkF m 16 #[.val (.int p0)] [(.ref b13)])) t → Steps p.tables e below (s₁.setTop (entryFrame m #[(.int p0)] 1)) t := fun t kont => pre70 t (st71 _ kont)
      have pre73 : ∀ t, Steps p.tables e below (T71.setTop (mkF m 18 #[.val (.int p0)] [(.int p0), (.ref b13), (.ref b13)])) t → Steps p.tables e below (s₁.setTop (entryFrame m #[(.int p0)] 1)) t := by
        intro t kont
        refine pre72 t ?_
        show Steps p.tables e below (T71.setTop (mkF m 16 #[.val (.int p0)] [(.ref b13)])) _
        refine XS.dup X71.here hx rfl (hb hby d6_16) rfl rfl ?_
        show Steps p.tables e below (T71.setTop (mkF m 17 #[.val (.int p0)] [(.ref b13), (.ref b13)])) _
        refine XS.iloadN X71.here hx rfl (hb hby d6_17) rfl ?_
        exact kont
      obtain ⟨_, _, ⟨T74, L74, k74, n74⟩, -, X74, ⟨Lc74, hQ74, l74, y74, z74⟩, st74⟩ := Jvm.LawKit.callS X71 hx (y := (⟨"java/lang/StringLatin1", "toBytes", "(C)[B"⟩ : MethodName)) hown (mvT hZ (hw _ (List.mem_of_getElem? (i := 50) rfl))) (mvT hZ (hw _ (List.mem_of_getElem? (i := 51) rfl))) (mvT hZ (hw _ (List.mem_of_getElem? (i := 46) rfl))) (mvT hZ (hw _ (List.mem_of_getElem? (i := 52) rfl))) (by decide) (backOf (W := 2) (rm8 l Z a0 hw [] p0  h71 n0 Z71) hZ (hw _ (List.mem_of_getElem? (i := 52) rfl)) (hw _ (List.mem_of_getElem? (i := 46) rfl)) (by decide) (by decide)) (g := (mkF m 18 #[.val (.int p0)] [(.int p0), (.ref b13), (.ref b13)])) rfl (by rw [hml]; rfl) (argsL := [(.int p0)]) (rest := [(.ref b13), (.ref b13)]) (lenOf pd_2 rfl) rfl (by show 2 * 0 + _ ≤ _; exact Nat.le_of_eq rfl) (hb hby d6_18) (fun _ _ => ⟨rfl, e71, (by decide : 1 + 1 ≤ _), (by decide : 4 + 1 ≤ _)⟩)
      dsimp only [Pt.U, Pt.locs, Pt.cells, Pt.slots] at X74 l74 y74 z74 st74 hQ74
      subst l74 y74 z74
      obtain ⟨by74, rfl, S74, N74q, K74⟩ := hQ74
      have N74 := Fr.app N68 N74q
      have f74_0 := Old.keep f71_0 K74 all0
      have f74_1 := Exa.keep A71 K74
      have f74_2 := Fld.keep F71_value K74 nin0
      have f74_3 := Fld.keep F71_coder K74 nin0
      have Z74 : n0 ≤ T74.heap.size := Nat.le_trans Z71 (K74).1
      have KK74 : Keep h0 T74.heap [] := (K71).trans K74 all0
      have pre75 : ∀ t, Steps p.tables e below (T74.setTop (mkF m 21 #[.val (.int p0)] [(.ref by74), (.ref b13), (.ref b13)])) t → Steps p.tables e below (s₁.setTop (entryFrame m #[(.int p0)] 1)) t := fun t kont => pre73 t (st74 _ kont)
      have pre76 : ∀ t, Steps p.tables e below (T74.setTop (mkF m 22 #[.val (.int p0)] [(.int (0 : Int32)), (.ref by74), (.ref b13), (.ref b13)])) t → Steps p.tables e below (s₁.setTop (entryFrame m #[(.int p0)] 1)) t := by
        intro t kont
        refine pre75 t ?_
        show Steps p.tables e below (T74.setTop (mkF m 21 #[.val (.int p0)] [(.ref by74), (.ref b13), (.ref b13)])) _
        refine XS.iconst X74.here hx rfl (hb hby d6_21) ?_
        exact kont
      obtain ⟨_, _, ⟨T77, L77, k77, n77⟩, -, X77, ⟨Lc77, hQ77, l77, y77, z77⟩, st77⟩ := X74.specialBack hx (y := (⟨"java/lang/String", "<init>", "([BB)V"⟩ : MethodName)) rfl hown (mvT hZ (hw _ (List.mem_of_getElem? (i := 54) rfl))) (mvT hZ (hw _ (List.mem_of_getElem? (i := 55) rfl))) (mvT hZ (hw _ (List.mem_of_getElem? (i := 57) rfl))) (by decide) (backOf (W := 1) (rm9 l Z a0 hw [] b13 by74  T74.heap n0 Z74 f74_1 f74_2 f74_3 g_b13) hZ (hw _ (List.mem_of_getElem? (i := 57) rfl)) (hw _ (List.mem_of_getElem? (i := 41) rfl)) (by decide) (by decide)) (g := (mkF m 22 #[.val (.int p0)] [(.int (0 : Int32)), (.ref by74), (.ref b13), (.ref b13)])) rfl (by rw [hml]; rfl) (Steps.refl _) (a := b13) (argsL := [(.ref by74), (.int (0 : Int32))]) (rest := [(.ref b13)]) (lenOf pd_3 rfl) rfl (by show 2 * 0 + _ ≤ _; exact Nat.le_of_eq rfl) (hb hby d6_22) (fun _ _ => ⟨rfl, rfl, (by decide : 2 + 0 ≤ _), (by decide : 5 + 0 ≤ _)⟩)
      dsimp only [Pt.U, Pt.locs, Pt.cells, Pt.slots] at X77 l77 y77 z77 st77 hQ77
      subst l77 y77 z77
      obtain ⟨rfl, N77q, K77⟩ := hQ77
      have N77 := Fr.app N74 N77q
      have f77_0 := Old.keep f74_0 K77 (allS g_b13 all0)
      have f77_1 := Exa.keep f74_1 K77
      have Z77 : n0 ≤ T77.heap.size := Nat.le_trans Z74 (K77).1
      have KK77 : Keep h0 T77.heap [] := (KK74).trans K77 (allS (Or.inr sz_b13) all0)
      have pre78 : ∀ t, Steps p.tables e below (T77.setTop (mkF m 25 #[.val (.int p0)] [(.ref b13)])) t → Steps p.tables e below (s₁.setTop (entryFrame m #[(.int p0)] 1)) t := fun t kont => pre76 t (st77.trans kont)
      obtain ⟨fs, hr, hrun, hended, hW, hsame⟩ := X77.leave (v := some (.ref b13)) (fun h => by rw [Bd.returns] at h; cases h) (BodyLoose.notSynchronized Bd)
      refine ⟨_, _, pre78 _ ?_, hrun, hended, _, _, rfl, ?_, ⟨_, rfl⟩, hW, hsame.mono (by decide) (by decide)⟩
      · jvm_step X77.here [X77.here.top, hx, (hb hby d6_25), X77.method', Bd.returns, Value.isRef, FieldType.isReference]
        first | (intro acts; rw [hr _ acts rfl rfl rfl]) | rw [hr _ _ rfl rfl rfl]
        exact Steps.refl _
      · show Q6 Z p0 w h0 n0 _ T77.heap _
        exact ⟨_, rfl, sz_b13, N77, KK77, f77_1⟩
theorem d13_0 : decode jdk_21_method_7_code 0 = .ok (.iinc 0 (-1), 3) := by decide +kernel
theorem d13_3 : decode jdk_21_method_7_code 3 = .ok (.iload_n 0, 1) := by decide +kernel
theorem d13_4 : decode jdk_21_method_7_code 4 = .ok (.ifCond .ge 7, 3) := by decide +kernel
theorem d13_7 : decode jdk_21_method_7_code 7 = .ok (.iload_n 1, 1) := by decide +kernel
theorem d13_8 : decode jdk_21_method_7_code 8 = .ok (.iconst 1, 1) := by decide +kernel
theorem d13_9 : decode jdk_21_method_7_code 9 = .ok (.isub, 1) := by decide +kernel
theorem d13_10 : decode jdk_21_method_7_code 10 = .ok (.istore_n 0, 1) := by decide +kernel
theorem d13_11 : decode jdk_21_method_7_code 11 = .ok (.iload_n 0, 1) := by decide +kernel
theorem d13_12 : decode jdk_21_method_7_code 12 = .ok (.ireturn, 1) := by decide +kernel
def own_dec (p0 : Int32) (p1 : Int32) : Int32 := (if (p0 + (-1 : Int32)) < (0 : Int32) then (p1 - (1 : Int32)) else (p0 + (-1 : Int32)))
theorem ef_13 (m : MethodId) (x0 : Int32) (x1 : Int32) : entryFrame m #[(.int x0), (.int x1)] 2 = mkF m 0 #[.val (.int x0), .val (.int x1)] [] := by first | (simp [entryFrame, mkF, argsToLocals, Value.category]; done) | rfl
def Q13 (Z : State) (p0 : Int32) (p1 : Int32) (h0 : Heap) (n0 : Nat) (v : Option Value) (h : Heap) (L : List Loc) : Prop := v = some (.int (own_dec p0 p1)) ∧ Fr n0 L ∧ h = h0
set_option maxRecDepth 65536 in
set_option maxHeartbeats 40000000 in
theorem rm13 (l : Launch) (Z : State) (a0 : Array Value) (hw : ∀ d ∈ tables_1, d.before a0 Z = true) (ws : List Jvm.Cond) (p0 : Int32) (p1 : Int32) (h0 : Heap) (n0 : Nat) (Z0 : n0 ≤ h0.size) :
    MetFree l (⟨"java/util/ArrayDeque", "dec", "(II)I"⟩ : MethodName) (head1 (Jvm.Cond.code (⟨"java/util/ArrayDeque", "dec", "(II)I"⟩ : MethodName) jdk_21_method_7_code 2 (some .int) :: ws) ({ frames := 0, cells := 0, slots := 0, locals := 0 } : Room)) (fun a U => a = #[(.int p0), (.int p1)] ∧ Z.Warmed39 U.vm ∧ U.heap = h0) (fun _ _ _ _ _ => True) (fun _ U o U' => ∃ v L, o = .returned v ∧ Q13 Z p0 p1 h0 n0 v U'.heap L ∧ FrameEnd U o U' L ({ frames := 0, cells := 0, slots := 0, locals := 0 } : Room).cells ({ frames := 0, cells := 0, slots := 0, locals := 0 } : Room).slots) := by
  refine MetFree.of_bodySF (plainFor_of_name pn_3) hisR ?_
  intro p e s m args below meth c s₁ Bd hml0 hP hK
  obtain ⟨rfl, hZ, hh⟩ := hP
  have hx := Bd.exec
  have hby := Bd.bytes
  have hml : c.maxLocals = 2 := hml0
  have hown : s.vm.findClass "java/util/ArrayDeque" = some m.cls := findClass_of_methodNamed Bd.named
  have hnm := (name_of_methodNamed Bd.named Bd.method).1
  have X0 : Stand p l e ({ frames := 0, cells := 0, slots := 0, locals := 0 } : Room) s m #[(.int p0), (.int p1)] below meth c s₁ [] 0 0 := Stand.of_body Bd
  have e0 : s₁.heap = h0 := by rw [← hh, Bd.state]; rfl
  have N0 := Fr.nil n0
  have pre0 : ∀ t, Steps p.tables e below (s₁.setTop (mkF m 0 #[.val (.int p0), .val (.int p1)] [])) t → Steps p.tables e below (s₁.setTop (entryFrame m #[(.int p0), (.int p1)] 2)) t := fun t k => castTop (ef_13 m p0 p1) k
  have pre79 : ∀ t, Steps p.tables e below (s₁.setTop (mkF m 4 #[.val (.int (p0 + (-1 : Int32))), .val (.int p1)] [(.int (p0 + (-1 : Int32)))])) t → Steps p.tables e below (s₁.setTop (entryFrame m #[(.int p0), (.int p1)] 2)) t := by
    intro t kont
    refine pre0 t ?_
    show Steps p.tables e below (s₁.setTop (mkF m 0 #[.val (.int p0), .val (.int p1)] [])) _
    refine XS.iinc X0.here hx rfl (hb hby d13_0) rfl (l' := #[.val (.int (p0 + (-1 : Int32))), .val (.int p1)]) rfl ?_
    show Steps p.tables e below (s₁.setTop (mkF m 3 #[.val (.int (p0 + (-1 : Int32))), .val (.int p1)] [])) _
    refine XS.iloadN X0.here hx rfl (hb hby d13_3) rfl ?_
    exact kont
  by_cases hc4 : (p0 + (-1 : Int32)) < (0 : Int32)
  · have pre80 : ∀ t, Steps p.tables e below (s₁.setTop (mkF m 12 #[.val (.int (p1 - (1 : Int32))), .val (.int p1)] [(.int (p1 - (1 : Int32)))])) t → Steps p.tables e below (s₁.setTop (entryFrame m #[(.int p0), (.int p1)] 2)) t := by
      intro t kont
      refine pre79 t ?_
      show Steps p.tables e below (s₁.setTop (mkF m 4 #[.val (.int (p0 + (-1 : Int32))), .val (.int p1)] [(.int (p0 + (-1 : Int32)))])) _
      refine XS.ifNo X0.here hx rfl (hb hby d13_4) rfl ((if0 _ _).trans (tlt hc4).2.1) ?_
      show Steps p.tables e below (s₁.setTop (mkF m 7 #[.val (.int (p0 + (-1 : Int32))), .val (.int p1)] [])) _
      refine XS.iloadN X0.here hx rfl (hb hby d13_7) rfl ?_
      show Steps p.tables e below (s₁.setTop (mkF m 8 #[.val (.int (p0 + (-1 : Int32))), .val (.int p1)] [(.int p1)])) _
      refine XS.iconst X0.here hx rfl (hb hby d13_8) ?_
      show Steps p.tables e below (s₁.setTop (mkF m 9 #[.val (.int (p0 + (-1 : Int32))), .val (.int p1)] [(.int (1 : Int32)), (.int p1)])) _
      refine XS.isub X0.here hx rfl (hb hby d13_9) rfl ?_
      show Steps p.tables e below (s₁.setTop (mkF m 10 #[.val (.int (p0 + (-1 : Int32))), .val (.int p1)] [(.int (p1 - (1 : Int32)))])) _
      refine XS.istoreN X0.here hx rfl (hb hby d13_10) rfl (l' := #[.val (.int (p1 - (1 : Int32))), .val (.int p1)]) rfl ?_
      show Steps p.tables e below (s₁.setTop (mkF m 11 #[.val (.int (p1 - (1 : Int32))), .val (.int p1)] [])) _
      refine XS.iloadN X0.here hx rfl (hb hby d13_11) rfl ?_
      exact kont
    obtain ⟨fs, hr, hrun, hended, hW, hsame⟩ := X0.leave (v := some (.int (p1 - (1 : Int32)))) (fun h => by rw [Bd.returns] at h; cases h) (BodyLoose.notSynchronized Bd)
    refine ⟨_, _, pre80 _ ?_, hrun, hended, _, _, rfl, ?_, ⟨_, rfl⟩, hW, hsame.mono (by decide) (by decide)⟩
    · exact retI X0 hx Bd.returns (hb hby d13_12) hr
    · show Q13 Z p0 p1 h0 n0 _ s₁.heap _
      rw [e0]
      refine ⟨?_, N0, rfl⟩
      unfold own_dec; rw [if_pos hc4]
  · have pre81 : ∀ t, Steps p.tables e below (s₁.setTop (mkF m 12 #[.val (.int (p0 + (-1 : Int32))), .val (.int p1)] [(.int (p0 + (-1 : Int32)))])) t → Steps p.tables e below (s₁.setTop (entryFrame m #[(.int p0), (.int p1)] 2)) t := by
      intro t kont
      refine pre79 t ?_
      show Steps p.tables e below (s₁.setTop (mkF m 4 #[.val (.int (p0 + (-1 : Int32))), .val (.int p1)] [(.int (p0 + (-1 : Int32)))])) _
      refine XS.ifYes X0.here hx rfl (pc0 := 4) (pc' := 11) rfl (hb hby d13_4) rfl ((if0 _ _).trans (flt hc4).2.1) (by decide) (by decide) ?_
      show Steps p.tables e below (s₁.setTop (mkF m 11 #[.val (.int (p0 + (-1 : Int32))), .val (.int p1)] [])) _
      refine XS.iloadN X0.here hx rfl (hb hby d13_11) rfl ?_
      exact kont
    obtain ⟨fs, hr, hrun, hended, hW, hsame⟩ := X0.leave (v := some (.int (p0 + (-1 : Int32)))) (fun h => by rw [Bd.returns] at h; cases h) (BodyLoose.notSynchronized Bd)
    refine ⟨_, _, pre81 _ ?_, hrun, hended, _, _, rfl, ?_, ⟨_, rfl⟩, hW, hsame.mono (by decide) (by decide)⟩
    · exact retI X0 hx Bd.returns (hb hby d13_12) hr
    · show Q13 Z p0 p1 h0 n0 _ s₁.heap _
      rw [e0]
      refine ⟨?_, N0, rfl⟩
      unfold own_dec; rw [if_neg hc4]
theorem d21_0 : decode jdk_21_method_6_code 0 = .ok (.iinc 0 1, 3) := by decide +kernel
theorem d21_3 : decode jdk_21_method_6_code 3 = .ok (.iload_n 0, 1) := by decide +kernel
theorem d21_4 : decode jdk_21_method_6_code 4 = .ok (.iload_n 1, 1) := by decide +kernel
theorem d21_5 : decode jdk_21_method_6_code 5 = .ok (.if_icmp .lt 5, 3) := by decide +kernel
theorem d21_10 : decode jdk_21_method_6_code 10 = .ok (.iload_n 0, 1) := by decide +kernel
theorem d21_11 : decode jdk_21_method_6_code 11 = .ok (.ireturn, 1) := by decide +kernel
theorem d21_8 : decode jdk_21_method_6_code 8 = .ok (.iconst 0, 1) := by decide +kernel
theorem d21_9 : decode jdk_21_method_6_code 9 = .ok (.istore_n 0, 1) := by decide +kernel
def own_inc (p0 : Int32) (p1 : Int32) : Int32 := (if (p0 + (1 : Int32)) < p1 then (p0 + (1 : Int32)) else (0 : Int32))
theorem ef_21 (m : MethodId) (x0 : Int32) (x1 : Int32) : entryFrame m #[(.int x0), (.int x1)] 2 = mkF m 0 #[.val (.int x0), .val (.int x1)] [] := by first | (simp [entryFrame, mkF, argsToLocals, Value.category]; done) | rfl
def Q21 (Z : State) (p0 : Int32) (p1 : Int32) (h0 : Heap) (n0 : Nat) (v : Option Value) (h : Heap) (L : List Loc) : Prop := v = some (.int (own_inc p0 p1)) ∧ Fr n0 L ∧ h = h0
set_option maxRecDepth 65536 in
set_option maxHeartbeats 40000000 in
theorem rm21 (l : Launch) (Z : State) (a0 : Array Value) (hw : ∀ d ∈ tables_1, d.before a0 Z = true) (ws : List Jvm.Cond) (p0 : Int32) (p1 : Int32) (h0 : Heap) (n0 : Nat) (Z0 : n0 ≤ h0.size) :
    MetFree l (⟨"java/util/ArrayDeque", "inc", "(II)I"⟩ : MethodName) (head1 (Jvm.Cond.code (⟨"java/util/ArrayDeque", "inc", "(II)I"⟩ : MethodName) jdk_21_method_6_code 2 (some .int) :: ws) ({ frames := 0, cells := 0, slots := 0, locals := 0 } : Room)) (fun a U => a = #[(.int p0), (.int p1)] ∧ Z.Warmed39 U.vm ∧ U.heap = h0) (fun _ _ _ _ _ => True) (fun _ U o U' => ∃ v L, o = .returned v ∧ Q21 Z p0 p1 h0 n0 v U'.heap L ∧ FrameEnd U o U' L ({ frames := 0, cells := 0, slots := 0, locals := 0 } : Room).cells ({ frames := 0, cells := 0, slots := 0, locals := 0 } : Room).slots) := by
  refine MetFree.of_bodySF (plainFor_of_name pn_3) hisR ?_
  intro p e s m args below meth c s₁ Bd hml0 hP hK
  obtain ⟨rfl, hZ, hh⟩ := hP
  have hx := Bd.exec
  have hby := Bd.bytes
  have hml : c.maxLocals = 2 := hml0
  have hown : s.vm.findClass "java/util/ArrayDeque" = some m.cls := findClass_of_methodNamed Bd.named
  have hnm := (name_of_methodNamed Bd.named Bd.method).1
  have X0 : Stand p l e ({ frames := 0, cells := 0, slots := 0, locals := 0 } : Room) s m #[(.int p0), (.int p1)] below meth c s₁ [] 0 0 := Stand.of_body Bd
  have e0 : s₁.heap = h0 := by rw [← hh, Bd.state]; rfl
  have N0 := Fr.nil n0
  have pre0 : ∀ t, Steps p.tables e below (s₁.setTop (mkF m 0 #[.val (.int p0), .val (.int p1)] [])) t → Steps p.tables e below (s₁.setTop (entryFrame m #[(.int p0), (.int p1)] 2)) t := fun t k => castTop (ef_21 m p0 p1) k
  have pre82 : ∀ t, Steps p.tables e below (s₁.setTop (mkF m 5 #[.val (.int (p0 + (1 : Int32))), .val (.int p1)] [(.int p1), (.int (p0 + (1 : Int32)))])) t → Steps p.tables e below (s₁.setTop (entryFrame m #[(.int p0), (.int p1)] 2)) t := by
    intro t kont
    refine pre0 t ?_
    show Steps p.tables e below (s₁.setTop (mkF m 0 #[.val (.int p0), .val (.int p1)] [])) _
    refine XS.iinc X0.here hx rfl (hb hby d21_0) rfl (l' := #[.val (.int (p0 + (1 : Int32))), .val (.int p1)]) rfl ?_
    show Steps p.tables e below (s₁.setTop (mkF m 3 #[.val (.int (p0 + (1 : Int32))), .val (.int p1)] [])) _
    refine XS.iloadN X0.here hx rfl (hb hby d21_3) rfl ?_
    show Steps p.tables e below (s₁.setTop (mkF m 4 #[.val (.int (p0 + (1 : Int32))), .val (.int p1)] [(.int (p0 + (1 : Int32)))])) _
    refine XS.iloadN X0.here hx rfl (hb hby d21_4) rfl ?_
    exact kont
  by_cases hc5 : (p0 + (1 : Int32)) < p1
  · have pre83 : ∀ t, Steps p.tables e below (s₁.setTop (mkF m 11 #[.val (.int (p0 + (1 : Int32))), .val (.int p1)] [(.int (p0 + (1 : Int32)))])) t → Steps p.tables e below (s₁.setTop (entryFrame m #[(.int p0), (.int p1)] 2)) t := by
      intro t kont
      refine pre82 t ?_
      show Steps p.tables e below (s₁.setTop (mkF m 5 #[.val (.int (p0 + (1 : Int32))), .val (.int p1)] [(.int p1), (.int (p0 + (1 : Int32)))])) _
      refine XS.icmpYes X0.here hx rfl (pc0 := 5) (pc' := 10) rfl (hb hby d21_5) rfl (tlt hc5).1 (by decide) (by decide) ?_
      show Steps p.tables e below (s₁.setTop (mkF m 10 #[.val (.int (p0 + (1 : Int32))), .val (.int p1)] [])) _
      refine XS.iloadN X0.here hx rfl (hb hby d21_10) rfl ?_
      exact kont
    obtain ⟨fs, hr, hrun, hended, hW, hsame⟩ := X0.leave (v := some (.int (p0 + (1 : Int32)))) (fun h => by rw [Bd.returns] at h; cases h) (BodyLoose.notSynchronized Bd)
    refine ⟨_, _, pre83 _ ?_, hrun, hended, _, _, rfl, ?_, ⟨_, rfl⟩, hW, hsame.mono (by decide) (by decide)⟩
    · exact retI X0 hx Bd.returns (hb hby d21_11) hr
    · show Q21 Z p0 p1 h0 n0 _ s₁.heap _
      rw [e0]
      refine ⟨?_, N0, rfl⟩
      unfold own_inc; rw [if_pos hc5]
  · have pre84 : ∀ t, Steps p.tables e below (s₁.setTop (mkF m 11 #[.val (.int (0 : Int32)), .val (.int p1)] [(.int (0 : Int32))])) t → Steps p.tables e below (s₁.setTop (entryFrame m #[(.int p0), (.int p1)] 2)) t := by
      intro t kont
      refine pre82 t ?_
      show Steps p.tables e below (s₁.setTop (mkF m 5 #[.val (.int (p0 + (1 : Int32))), .val (.int p1)] [(.int p1), (.int (p0 + (1 : Int32)))])) _
      refine XS.icmpNo X0.here hx rfl (hb hby d21_5) rfl (flt hc5).1 ?_
      show Steps p.tables e below (s₁.setTop (mkF m 8 #[.val (.int (p0 + (1 : Int32))), .val (.int p1)] [])) _
      refine XS.iconst X0.here hx rfl (hb hby d21_8) ?_
      show Steps p.tables e below (s₁.setTop (mkF m 9 #[.val (.int (p0 + (1 : Int32))), .val (.int p1)] [(.int (0 : Int32))])) _
      refine XS.istoreN X0.here hx rfl (hb hby d21_9) rfl (l' := #[.val (.int (0 : Int32)), .val (.int p1)]) rfl ?_
      show Steps p.tables e below (s₁.setTop (mkF m 10 #[.val (.int (0 : Int32)), .val (.int p1)] [])) _
      refine XS.iloadN X0.here hx rfl (hb hby d21_10) rfl ?_
      exact kont
    obtain ⟨fs, hr, hrun, hended, hW, hsame⟩ := X0.leave (v := some (.int (0 : Int32))) (fun h => by rw [Bd.returns] at h; cases h) (BodyLoose.notSynchronized Bd)
    refine ⟨_, _, pre84 _ ?_, hrun, hended, _, _, rfl, ?_, ⟨_, rfl⟩, hW, hsame.mono (by decide) (by decide)⟩
    · exact retI X0 hx Bd.returns (hb hby d21_11) hr
    · show Q21 Z p0 p1 h0 n0 _ s₁.heap _
      rw [e0]
      refine ⟨?_, N0, rfl⟩
      unfold own_inc; rw [if_neg hc5]
theorem d12_0 : decode jdk_21_method_12_code 0 = .ok (.aload_n 1, 1) := by decide +kernel
theorem d12_1 : decode jdk_21_method_12_code 1 = .ok (.ifnonnull 11, 3) := by decide +kernel
theorem d12_12 : decode jdk_21_method_12_code 12 = .ok (.aload_n 0, 1) := by decide +kernel
theorem d12_13 : decode jdk_21_method_12_code 13 = .ok (.getfield 3, 3) := by decide +kernel
theorem d12_16 : decode jdk_21_method_12_code 16 = .ok (.astore_n 2, 1) := by decide +kernel
theorem d12_17 : decode jdk_21_method_12_code 17 = .ok (.aload_n 2, 1) := by decide +kernel
theorem d12_18 : decode jdk_21_method_12_code 18 = .ok (.aload_n 0, 1) := by decide +kernel
theorem d12_19 : decode jdk_21_method_12_code 19 = .ok (.aload_n 0, 1) := by decide +kernel
theorem d12_20 : decode jdk_21_method_12_code 20 = .ok (.getfield 24, 3) := by decide +kernel
theorem d12_23 : decode jdk_21_method_12_code 23 = .ok (.aload_n 2, 1) := by decide +kernel
theorem d12_24 : decode jdk_21_method_12_code 24 = .ok (.arraylength, 1) := by decide +kernel
theorem d12_25 : decode jdk_21_method_12_code 25 = .ok (.invokestatic 68, 3) := by decide +kernel
theorem pd_4 : parseMethodDescriptor "(II)I" = some ⟨[.int, .int], some .int⟩ := by decide +kernel
theorem d12_28 : decode jdk_21_method_12_code 28 = .ok (.dup_x1, 1) := by decide +kernel
theorem d12_29 : decode jdk_21_method_12_code 29 = .ok (.putfield 24, 3) := by decide +kernel
theorem d12_32 : decode jdk_21_method_12_code 32 = .ok (.aload_n 1, 1) := by decide +kernel
theorem d12_33 : decode jdk_21_method_12_code 33 = .ok (.aastore, 1) := by decide +kernel
theorem d12_34 : decode jdk_21_method_12_code 34 = .ok (.aload_n 0, 1) := by decide +kernel
theorem d12_35 : decode jdk_21_method_12_code 35 = .ok (.getfield 24, 3) := by decide +kernel
theorem d12_38 : decode jdk_21_method_12_code 38 = .ok (.aload_n 0, 1) := by decide +kernel
theorem d12_39 : decode jdk_21_method_12_code 39 = .ok (.getfield 20, 3) := by decide +kernel
theorem d12_42 : decode jdk_21_method_12_code 42 = .ok (.if_icmp .ne 8, 3) := by decide +kernel
theorem d12_50 : decode jdk_21_method_12_code 50 = .ok (.return_, 1) := by decide +kernel
theorem ef_12 (m : MethodId) (x0 : Addr) (x1 : Addr) : entryFrame m #[(.ref x0), (.ref x1)] 3 = mkF m 0 #[.val (.ref x0), .val (.ref x1), .unset] [] := by first | (simp [entryFrame, mkF, argsToLocals, Value.category]; done) | rfl
def Q12 (Z : State) (p0 : Addr) (p1 : Addr) (el : Addr) (kc : ClassId) (h0 : Heap) (n0 : Nat) (v : Option Value) (h : Heap) (L : List Loc) : Prop := v = none ∧ Fr n0 L ∧ Keep h0 h [p0, el] ∧ own_dq Z h n0 p0 el kc (16 : Int32) (fun i => if i = 16 then Value.ref p1 else (fun _ => Value.null) i)
set_option maxRecDepth 65536 in
set_option maxHeartbeats 40000000 in
theorem rm12 (l : Launch) (Z : State) (a0 : Array Value) (hw : ∀ d ∈ tables_1, d.before a0 Z = true) (ws : List Jvm.Cond) (p0 : Addr) (p1 : Addr) (el : Addr) (kc : ClassId) (h0 : Heap) (n0 : Nat) (Z0 : n0 ≤ h0.size) (Hd : own_dq Z h0 n0 p0 el kc (0 : Int32) (fun _ => Value.null)) (E1 : Exa Z h0 p1 "java/lang/String") :
    MetFree l (⟨"java/util/ArrayDeque", "addFirst", "(Ljava/lang/Object;)V"⟩ : MethodName) (head1 (Jvm.Cond.code (⟨"java/util/ArrayDeque", "addFirst", "(Ljava/lang/Object;)V"⟩ : MethodName) jdk_21_method_12_code 3 none :: ws) ({ frames := 1, cells := 0, slots := 0, locals := 15 } : Room)) (fun a U => a = #[(.ref p0), (.ref p1)] ∧ Z.Warmed39 U.vm ∧ U.heap = h0) (fun _ _ _ _ _ => True) (fun _ U o U' => ∃ v L, o = .returned v ∧ Q12 Z p0 p1 el kc h0 n0 v U'.heap L ∧ FrameEnd U o U' L ({ frames := 1, cells := 0, slots := 0, locals := 15 } : Room).cells ({ frames := 1, cells := 0, slots := 0, locals := 15 } : Room).slots) := by
  refine MetFree.of_bodySF (plainFor_of_name pn_3) hisR ?_
  intro p e s m args below meth c s₁ Bd hml0 hP hK
  obtain ⟨rfl, hZ, hh⟩ := hP
  have hx := Bd.exec
  have hby := Bd.bytes
  have hml : c.maxLocals = 3 := hml0
  have hown : s.vm.findClass "java/util/ArrayDeque" = some m.cls := findClass_of_methodNamed Bd.named
  have hnm := (name_of_methodNamed Bd.named Bd.method).1
  have X0 : Stand p l e ({ frames := 1, cells := 0, slots := 0, locals := 15 } : Room) s m #[(.ref p0), (.ref p1)] below meth c s₁ [] 0 0 := Stand.of_body Bd
  have e0 : s₁.heap = h0 := by rw [← hh, Bd.state]; rfl
  have N0 := Fr.nil n0
  have pre0 : ∀ t, Steps p.tables e below (s₁.setTop (mkF m 0 #[.val (.ref p0), .val (.ref p1), .unset] [])) t → Steps p.tables e below (s₁.setTop (entryFrame m #[(.ref p0), (.ref p1)] 3)) t := fun t k => castTop (ef_12 m p0 p1) k
  obtain ⟨Ed, Fe, Fh, Ft, Ad, Od, nde, gd, ge⟩ := id Hd
  have pre85 : ∀ t, Steps p.tables e below (s₁.setTop (mkF m 13 #[.val (.ref p0), .val (.ref p1), .unset] [(.ref p0)])) t → Steps p.tables e below (s₁.setTop (entryFrame m #[(.ref p0), (.ref p1)] 3)) t := by
    intro t kont
    refine pre0 t ?_
    show Steps p.tables e below (s₁.setTop (mkF m 0 #[.val (.ref p0), .val (.ref p1), .unset] [])) _
    refine XS.aloadN X0.here hx rfl (hb hby d12_0) rfl rfl ?_
    show Steps p.tables e below (s₁.setTop (mkF m 1 #[.val (.ref p0), .val (.ref p1), .unset] [(.ref p1)])) _
    refine XS.ifnonnullYes X0.here hx rfl (pc0 := 1) (pc' := 12) rfl (hb hby d12_1) rfl (by decide) (by decide) ?_
    show Steps p.tables e below (s₁.setTop (mkF m 12 #[.val (.ref p0), .val (.ref p1), .unset] [])) _
    refine XS.aloadN X0.here hx rfl (hb hby d12_12) rfl rfl ?_
    exact kont
  obtain ⟨T86, X86, e86, st86⟩ := getF X0 hx hZ hown (host := "") (Or.inl (hw _ (List.mem_of_getElem? (i := 25) rfl))) Via.refl e0 Fe (g := (mkF m 13 #[.val (.ref p0), .val (.ref p1), .unset] [(.ref p0)])) rfl rfl (hb hby d12_13)
  have pre87 : ∀ t, Steps p.tables e below (T86.setTop (mkF m 16 #[.val (.ref p0), .val (.ref p1), .unset] [(.ref el)])) t → Steps p.tables e below (s₁.setTop (entryFrame m #[(.ref p0), (.ref p1)] 3)) t := fun t kont => pre85 t (st86 _ kont)
  have pre88 : ∀ t, Steps p.tables e below (T86.setTop (mkF m 20 #[.val (.ref p0), .val (.ref p1), .val (.ref el)] [(.ref p0), (.ref p0), (.ref el)])) t → Steps p.tables e below (s₁.setTop (entryFrame m #[(.ref p0), (.ref p1)] 3)) t := by
    intro t kont
    refine pre87 t ?_
    show Steps p.tables e below (T86.setTop (mkF m 16 #[.val (.ref p0), .val (.ref p1), .unset] [(.ref el)])) _
    refine XS.astoreN X86.here hx rfl (hb hby d12_16) rfl rfl (l' := #[.val (.ref p0), .val (.ref p1), .val (.ref el)]) rfl ?_
    show Steps p.tables e below (T86.setTop (mkF m 17 #[.val (.ref p0), .val (.ref p1), .val (.ref el)] [])) _
    refine XS.aloadN X86.here hx rfl (hb hby d12_17) rfl rfl ?_
    show Steps p.tables e below (T86.setTop (mkF m 18 #[.val (.ref p0), .val (.ref p1), .val (.ref el)] [(.ref el)])) _
    refine XS.aloadN X86.here hx rfl (hb hby d12_18) rfl rfl ?_
    show Steps p.tables e below (T86.setTop (mkF m 19 #[.val (.ref p0), .val (.ref p1), .val (.ref el)] [(.ref p0), (.ref el)])) _
    refine XS.aloadN X86.here hx rfl (hb hby d12_19) rfl rfl ?_
    exact kont
  obtain ⟨T89, X89, e89, st89⟩ := getF X86 hx hZ hown (host := "") (Or.inl (hw _ (List.mem_of_getElem? (i := 82) rfl))) Via.refl e86 Fh (g := (mkF m 20 #[.val (.ref p0), .val (.ref p1), .val (.ref el)] [(.ref p0), (.ref p0), (.ref el)])) rfl rfl (hb hby d12_20)
  have pre90 : ∀ t, Steps p.tables e below (T89.setTop (mkF m 23 #[.val (.ref p0), .val (.ref p1), .val (.ref el)] [(.int (0 : Int32)), (.ref p0), (.ref el)])) t → Steps p.tables e below (s₁.setTop (entryFrame m #[(.ref p0), (.ref p1)] 3)) t := fun t kont => pre88 t (st89 _ kont)
  have pre91 : ∀ t, Steps p.tables e below (T89.setTop (mkF m 25 #[.val (.ref p0), .val (.ref p1), .val (.ref el)] [(.int (17 : Int32)), (.int (0 : Int32)), (.ref p0), (.ref el)])) t → Steps p.tables e below (s₁.setTop (entryFrame m #[(.ref p0), (.ref p1)] 3)) t := by
    intro t kont
    refine pre90 t ?_
    show Steps p.tables e below (T89.setTop (mkF m 23 #[.val (.ref p0), .val (.ref p1), .val (.ref el)] [(.int (0 : Int32)), (.ref p0), (.ref el)])) _
    refine XS.aloadN X89.here hx rfl (hb hby d12_23) rfl rfl ?_
    show Steps p.tables e below (T89.setTop (mkF m 24 #[.val (.ref p0), .val (.ref p1), .val (.ref el)] [(.ref el), (.int (0 : Int32)), (.ref p0), (.ref el)])) _
    refine own_lenR X89 hx hZ e89 Ad (z := (17 : Int32)) (by decide) (fr := (mkF m 24 #[.val (.ref p0), .val (.ref p1), .val (.ref el)] [(.ref el), (.int (0 : Int32)), (.ref p0), (.ref el)])) rfl rfl (hb hby d12_24) _ ?_
    exact kont
  obtain ⟨_, _, ⟨T92, L92, k92, n92⟩, -, X92, ⟨Lc92, hQ92, l92, y92, z92⟩, st92⟩ := Jvm.LawKit.callS X89 hx (y := (⟨"java/util/ArrayDeque", "dec", "(II)I"⟩ : MethodName)) hown (mvT hZ (hw _ (List.mem_of_getElem? (i := 84) rfl))) (mvT hZ (hw _ (List.mem_of_getElem? (i := 85) rfl))) (mvT hZ (hw _ (List.mem_of_getElem? (i := 12) rfl))) (mvT hZ (hw _ (List.mem_of_getElem? (i := 86) rfl))) (by decide) (backOf (W := 2) (rm13 l Z a0 hw [] (0 : Int32) (17 : Int32)  h0 n0 Z0) hZ (hw _ (List.mem_of_getElem? (i := 86) rfl)) (hw _ (List.mem_of_getElem? (i := 12) rfl)) (by decide) (by decide)) (g := (mkF m 25 #[.val (.ref p0), .val (.ref p1), .val (.ref el)] [(.int (17 : Int32)), (.int (0 : Int32)), (.ref p0), (.ref el)])) rfl (by rw [hml]; rfl) (argsL := [(.int (0 : Int32)), (.int (17 : Int32))]) (rest := [(.ref p0), (.ref el)]) (lenOf pd_4 rfl) rfl (by show 2 * 0 + _ ≤ _; exact Nat.le_of_eq rfl) (hb hby d12_25) (fun _ _ => ⟨rfl, e89, (by decide : 0 + 0 ≤ _), (by decide : 0 + 0 ≤ _)⟩)
  dsimp only [Pt.U, Pt.locs, Pt.cells, Pt.slots] at X92 l92 y92 z92 st92 hQ92
  subst l92 y92 z92
  obtain ⟨rfl, N92q, e92⟩ := hQ92
  have N92 := Fr.app N0 N92q
  have pre93 : ∀ t, Steps p.tables e below (T92.setTop (mkF m 28 #[.val (.ref p0), .val (.ref p1), .val (.ref el)] [(.int (own_dec (0 : Int32) (17 : Int32))), (.ref p0), (.ref el)])) t → Steps p.tables e below (s₁.setTop (entryFrame m #[(.ref p0), (.ref p1)] 3)) t := fun t kont => pre91 t (st92 _ kont)
  have rq94 : (own_dec (0 : Int32) (17 : Int32)) = (16 : Int32) := (by decide)
  rw [rq94] at pre93
  have pre95 : ∀ t, Steps p.tables e below (T92.setTop (mkF m 29 #[.val (.ref p0), .val (.ref p1), .val (.ref el)] [(.int (16 : Int32)), (.ref p0), (.int (16 : Int32)), (.ref el)])) t → Steps p.tables e below (s₁.setTop (entryFrame m #[(.ref p0), (.ref p1)] 3)) t := by
    intro t kont
    refine pre93 t ?_
    show Steps p.tables e below (T92.setTop (mkF m 28 #[.val (.ref p0), .val (.ref p1), .val (.ref el)] [(.int (16 : Int32)), (.ref p0), (.ref el)])) _
    refine XS.dupX1 X92.here hx rfl (hb hby d12_28) rfl rfl rfl ?_
    exact kont
  obtain ⟨T96, h96, X96, e96, W96, st96⟩ := putF X92 hx hZ hown (host := "") (Or.inl (hw _ (List.mem_of_getElem? (i := 82) rfl))) Via.refl e92 Fh Ed (Or.inl (hw _ (List.mem_of_getElem? (i := 83) rfl))) (hw _ (List.mem_of_getElem? (i := 11) rfl)) (ty := .int) (by decide) rfl rfl (g := (mkF m 29 #[.val (.ref p0), .val (.ref p1), .val (.ref el)] [(.int (16 : Int32)), (.ref p0), (.int (16 : Int32)), (.ref el)])) rfl rfl (hb hby d12_29)
  have f96_0 := Exa.wr W96 Ed
  have f96_1 := Fld.other W96 Fe (Or.inr (slot_ne (Or.inl (hw _ (List.mem_of_getElem? (i := 26) rfl))) (Or.inl (hw _ (List.mem_of_getElem? (i := 83) rfl))) (by decide) (t := (.array (.object "java/lang/Object"))) (t' := .int) (by decide) (by decide)))
  have f96_2 := Fld.same W96 Fh
  have f96_3 := Fld.other W96 Ft (Or.inr (slot_ne (Or.inl (hw _ (List.mem_of_getElem? (i := 89) rfl))) (Or.inl (hw _ (List.mem_of_getElem? (i := 83) rfl))) (by decide) (t := .int) (t' := .int) (by decide) (by decide)))
  have f96_4 := Ad.other W96 (Ne.symm nde)
  have f96_5 := Exa.wr W96 E1
  have K96 : Keep h0 h96 [p0, el] := (Keep.refl h0 [p0, el]).wr W96 (Or.inl (List.mem_of_getElem? (i := 0) rfl))
  have Z96 : n0 ≤ h96.size := Nat.le_trans Z0 (Keep.of_wr W96).1
  have N96 := Fr.snoc X96 N92 gd
  have pre97 : ∀ t, Steps p.tables e below (T96.setTop (mkF m 32 #[.val (.ref p0), .val (.ref p1), .val (.ref el)] [(.int (16 : Int32)), (.ref el)])) t → Steps p.tables e below (s₁.setTop (entryFrame m #[(.ref p0), (.ref p1)] 3)) t := fun t kont => pre95 t (st96 _ kont)
  have pre98 : ∀ t, Steps p.tables e below (T96.setTop (mkF m 33 #[.val (.ref p0), .val (.ref p1), .val (.ref el)] [(.ref p1), (.int (16 : Int32)), (.ref el)])) t → Steps p.tables e below (s₁.setTop (entryFrame m #[(.ref p0), (.ref p1)] 3)) t := by
    intro t kont
    refine pre97 t ?_
    show Steps p.tables e below (T96.setTop (mkF m 32 #[.val (.ref p0), .val (.ref p1), .val (.ref el)] [(.int (16 : Int32)), (.ref el)])) _
    refine XS.aloadN X96.here hx rfl (hb hby d12_32) rfl rfl ?_
    exact kont
  obtain ⟨T99, h99, X99, e99, W99, V99, st99⟩ := own_stR X96 hx hZ e96 f96_4 Od (v := (.ref p1)) (Or.inr ⟨_, rfl, (Ins.of_exa f96_5 (hw _ (List.mem_of_getElem? (i := 87) rfl)))⟩) (k := 16) (by decide) (by decide) (by decide) (fr := (mkF m 33 #[.val (.ref p0), .val (.ref p1), .val (.ref el)] [(.ref p1), (.int (16 : Int32)), (.ref el)])) rfl rfl (hb hby d12_33)
  have f99_0 := Exa.wr W99 f96_0
  have f99_1 := Fld.other W99 f96_1 (Or.inl nde)
  have f99_2 := Fld.other W99 f96_2 (Or.inl nde)
  have f99_3 := Fld.other W99 f96_3 (Or.inl nde)
  have f99_4 := Exa.wr W99 f96_5
  have K99 : Keep h0 h99 [p0, el] := (K96).wr W99 (Or.inl (List.mem_of_getElem? (i := 1) rfl))
  have Z99 : n0 ≤ h99.size := Nat.le_trans Z96 (Keep.of_wr W99).1
  have N99 := Fr.snoc X99 N96 ge
  have pre100 : ∀ t, Steps p.tables e below (T99.setTop (mkF m 34 #[.val (.ref p0), .val (.ref p1), .val (.ref el)] [])) t → Steps p.tables e below (s₁.setTop (entryFrame m #[(.ref p0), (.ref p1)] 3)) t := fun t kont => pre98 t (st99 _ kont)
  have pre101 : ∀ t, Steps p.tables e below (T99.setTop (mkF m 35 #[.val (.ref p0), .val (.ref p1), .val (.ref el)] [(.ref p0)])) t → Steps p.tables e below (s₁.setTop (entryFrame m #[(.ref p0), (.ref p1)] 3)) t := by
    intro t kont
    refine pre100 t ?_
    show Steps p.tables e below (T99.setTop (mkF m 34 #[.val (.ref p0), .val (.ref p1), .val (.ref el)] [])) _
    refine XS.aloadN X99.here hx rfl (hb hby d12_34) rfl rfl ?_
    exact kont
  obtain ⟨T102, X102, e102, st102⟩ := getF X99 hx hZ hown (host := "") (Or.inl (hw _ (List.mem_of_getElem? (i := 82) rfl))) Via.refl e99 f99_2 (g := (mkF m 35 #[.val (.ref p0), .val (.ref p1), .val (.ref el)] [(.ref p0)])) rfl rfl (hb hby d12_35)
  have pre103 : ∀ t, Steps p.tables e below (T102.setTop (mkF m 38 #[.val (.ref p0), .val (.ref p1), .val (.ref el)] [(.int (16 : Int32))])) t → Steps p.tables e below (s₁.setTop (entryFrame m #[(.ref p0), (.ref p1)] 3)) t := fun t kont => pre101 t (st102 _ kont)
  have pre104 : ∀ t, Steps p.tables e below (T102.setTop (mkF m 39 #[.val (.ref p0), .val (.ref p1), .val (.ref el)] [(.ref p0), (.int (16 : Int32))])) t → Steps p.tables e below (s₁.setTop (entryFrame m #[(.ref p0), (.ref p1)] 3)) t := by
    intro t kont
    refine pre103 t ?_
    show Steps p.tables e below (T102.setTop (mkF m 38 #[.val (.ref p0), .val (.ref p1), .val (.ref el)] [(.int (16 : Int32))])) _
    refine XS.aloadN X102.here hx rfl (hb hby d12_38) rfl rfl ?_
    exact kont
  obtain ⟨T105, X105, e105, st105⟩ := getF X102 hx hZ hown (host := "") (Or.inl (hw _ (List.mem_of_getElem? (i := 88) rfl))) Via.refl e102 f99_3 (g := (mkF m 39 #[.val (.ref p0), .val (.ref p1), .val (.ref el)] [(.ref p0), (.int (16 : Int32))])) rfl rfl (hb hby d12_39)
  have pre106 : ∀ t, Steps p.tables e below (T105.setTop (mkF m 42 #[.val (.ref p0), .val (.ref p1), .val (.ref el)] [(.int (0 : Int32)), (.int (16 : Int32))])) t → Steps p.tables e below (s₁.setTop (entryFrame m #[(.ref p0), (.ref p1)] 3)) t := fun t kont => pre104 t (st105 _ kont)
  have pre107 : ∀ t, Steps p.tables e below (T105.setTop (mkF m 50 #[.val (.ref p0), .val (.ref p1), .val (.ref el)] [])) t → Steps p.tables e below (s₁.setTop (entryFrame m #[(.ref p0), (.ref p1)] 3)) t := by
    intro t kont
    refine pre106 t ?_
    show Steps p.tables e below (T105.setTop (mkF m 42 #[.val (.ref p0), .val (.ref p1), .val (.ref el)] [(.int (0 : Int32)), (.int (16 : Int32))])) _
    refine XS.icmpYes X105.here hx rfl (pc0 := 42) (pc' := 50) rfl (hb hby d12_42) rfl (feq (by decide)).2 (by decide) (by decide) ?_
    exact kont
  obtain ⟨fs, hr, hrun, hended, hW, hsame⟩ := X105.leave (v := none) (fun _ => rfl) (BodyLoose.notSynchronized Bd)
  refine ⟨_, _, pre107 _ ?_, hrun, hended, _, _, rfl, ?_, ⟨_, rfl⟩, hW, hsame.mono (by decide) (by decide)⟩
  · exact X105.returnOut hx Bd.returns (hb hby d12_50) hr
  · show Q12 Z p0 p1 el kc h0 n0 _ T105.heap _
    rw [e105]
    exact ⟨rfl, N99, K99, ⟨f99_0, f99_1, f99_2, f99_3, V99, Od, nde, gd, ge⟩⟩
theorem d11_0 : decode jdk_21_method_34_code 0 = .ok (.aload_n 0, 1) := by decide +kernel
theorem d11_1 : decode jdk_21_method_34_code 1 = .ok (.aload_n 1, 1) := by decide +kernel
theorem d11_2 : decode jdk_21_method_34_code 2 = .ok (.invokevirtual 86, 3) := by decide +kernel
theorem pd_5 : parseMethodDescriptor "(Ljava/lang/Object;)V" = some ⟨[(.object "java/lang/Object")], none⟩ := by decide +kernel
theorem d11_5 : decode jdk_21_method_34_code 5 = .ok (.return_, 1) := by decide +kernel
theorem ef_11 (m : MethodId) (x0 : Addr) (x1 : Addr) : entryFrame m #[(.ref x0), (.ref x1)] 2 = mkF m 0 #[.val (.ref x0), .val (.ref x1)] [] := by first | (simp [entryFrame, mkF, argsToLocals, Value.category]; done) | rfl
def Q11 (Z : State) (p0 : Addr) (p1 : Addr) (el : Addr) (kc : ClassId) (h0 : Heap) (n0 : Nat) (v : Option Value) (h : Heap) (L : List Loc) : Prop := v = none ∧ Fr n0 L ∧ Keep h0 h [p0, el] ∧ own_dq Z h n0 p0 el kc (16 : Int32) (fun i => if i = 16 then Value.ref p1 else (fun _ => Value.null) i)
set_option maxRecDepth 65536 in
set_option maxHeartbeats 40000000 in
theorem rm11 (l : Launch) (Z : State) (a0 : Array Value) (hw : ∀ d ∈ tables_1, d.before a0 Z = true) (ws : List Jvm.Cond) (p0 : Addr) (p1 : Addr) (el : Addr) (kc : ClassId) (h0 : Heap) (n0 : Nat) (Z0 : n0 ≤ h0.size) (Hd : own_dq Z h0 n0 p0 el kc (0 : Int32) (fun _ => Value.null)) (E1 : Exa Z h0 p1 "java/lang/String") :
    MetFree l (⟨"java/util/ArrayDeque", "push", "(Ljava/lang/Object;)V"⟩ : MethodName) (head1 (Jvm.Cond.code (⟨"java/util/ArrayDeque", "push", "(Ljava/lang/Object;)V"⟩ : MethodName) jdk_21_method_34_code 2 none :: ws) ({ frames := 2, cells := 0, slots := 0, locals := 29 } : Room)) (fun a U => a = #[(.ref p0), (.ref p1)] ∧ Z.Warmed39 U.vm ∧ U.heap = h0) (fun _ _ _ _ _ => True) (fun _ U o U' => ∃ v L, o = .returned v ∧ Q11 Z p0 p1 el kc h0 n0 v U'.heap L ∧ FrameEnd U o U' L ({ frames := 2, cells := 0, slots := 0, locals := 29 } : Room).cells ({ frames := 2, cells := 0, slots := 0, locals := 29 } : Room).slots) := by
  refine MetFree.of_bodySF (plainFor_of_name pn_3) hisR ?_
  intro p e s m args below meth c s₁ Bd hml0 hP hK
  obtain ⟨rfl, hZ, hh⟩ := hP
  have hx := Bd.exec
  have hby := Bd.bytes
  have hml : c.maxLocals = 2 := hml0
  have hown : s.vm.findClass "java/util/ArrayDeque" = some m.cls := findClass_of_methodNamed Bd.named
  have hnm := (name_of_methodNamed Bd.named Bd.method).1
  have X0 : Stand p l e ({ frames := 2, cells := 0, slots := 0, locals := 29 } : Room) s m #[(.ref p0), (.ref p1)] below meth c s₁ [] 0 0 := Stand.of_body Bd
  have e0 : s₁.heap = h0 := by rw [← hh, Bd.state]; rfl
  have N0 := Fr.nil n0
  have pre0 : ∀ t, Steps p.tables e below (s₁.setTop (mkF m 0 #[.val (.ref p0), .val (.ref p1)] [])) t → Steps p.tables e below (s₁.setTop (entryFrame m #[(.ref p0), (.ref p1)] 2)) t := fun t k => castTop (ef_11 m p0 p1) k
  obtain ⟨Ed, Fe, Fh, Ft, Ad, Od, nde, gd, ge⟩ := id Hd
  have pre108 : ∀ t, Steps p.tables e below (s₁.setTop (mkF m 2 #[.val (.ref p0), .val (.ref p1)] [(.ref p1), (.ref p0)])) t → Steps p.tables e below (s₁.setTop (entryFrame m #[(.ref p0), (.ref p1)] 2)) t := by
    intro t kont
    refine pre0 t ?_
    show Steps p.tables e below (s₁.setTop (mkF m 0 #[.val (.ref p0), .val (.ref p1)] [])) _
    refine XS.aloadN X0.here hx rfl (hb hby d11_0) rfl rfl ?_
    show Steps p.tables e below (s₁.setTop (mkF m 1 #[.val (.ref p0), .val (.ref p1)] [(.ref p0)])) _
    refine XS.aloadN X0.here hx rfl (hb hby d11_1) rfl rfl ?_
    exact kont
  obtain ⟨cq109, kq109, q109a, q109b, q109c⟩ := isOf hZ e0 Ed
  obtain ⟨_, _, ⟨T109, L109, k109, n109⟩, -, X109, ⟨Lc109, hQ109, l109, y109, z109⟩, st109⟩ := X0.virtualBack hx (y := (⟨"java/util/ArrayDeque", "addFirst", "(Ljava/lang/Object;)V"⟩ : MethodName)) (z := (⟨"java/util/ArrayDeque", "addFirst", "(Ljava/lang/Object;)V"⟩ : MethodName)) hown (mvT hZ (hw _ (List.mem_of_getElem? (i := 77) rfl))) (mvT hZ (hw _ (List.mem_of_getElem? (i := 78) rfl))) (notFace_of_selects (args := #[]) (mvT hZ (hw _ (List.mem_of_getElem? (i := 80) rfl)))) (mvT hZ (hw _ (List.mem_of_getElem? (i := 80) rfl))) (mvT hZ (hw _ (List.mem_of_getElem? (i := 79) rfl))) (by decide) (backOf (W := 0) (rm12 l Z a0 hw [] p0 p1 el kc  h0 n0 Z0 ⟨Ed, Fe, Fh, Ft, Ad, Od, nde, gd, ge⟩ E1) hZ (hw _ (List.mem_of_getElem? (i := 81) rfl)) (hw _ (List.mem_of_getElem? (i := 12) rfl)) (by decide) (by decide)) q109a q109c (g := (mkF m 2 #[.val (.ref p0), .val (.ref p1)] [(.ref p1), (.ref p0)])) rfl (by rw [hml]; rfl) (Steps.refl _) (argsL := [(.ref p1)]) (rest := []) (lenOf pd_5 rfl) rfl (by show 2 * 0 + _ ≤ _; exact Nat.le_of_eq rfl) (hb hby d11_2) (fun _ _ => ⟨rfl, e0, (by decide : 0 + 0 ≤ _), (by decide : 0 + 0 ≤ _)⟩)
  dsimp only [Pt.U, Pt.locs, Pt.cells, Pt.slots] at X109 l109 y109 z109 st109 hQ109
  subst l109 y109 z109
  obtain ⟨rfl, N109q, K109, D109⟩ := hQ109
  have N109 := Fr.app N0 N109q
  have f109_4 := Exa.keep E1 K109
  have Z109 : n0 ≤ T109.heap.size := Nat.le_trans Z0 (K109).1
  have KK109 : Keep h0 T109.heap [p0, el] := (Keep.refl h0 [p0, el]).trans K109 (allS (Or.inl (List.mem_of_getElem? (i := 0) rfl)) (allS (Or.inl (List.mem_of_getElem? (i := 1) rfl)) all0))
  obtain ⟨Ed109, Fe109, Fh109, Ft109, Ad109, Od109, nde109, gd109, ge109⟩ := id D109
  have pre110 : ∀ t, Steps p.tables e below (T109.setTop (mkF m 5 #[.val (.ref p0), .val (.ref p1)] [])) t → Steps p.tables e below (s₁.setTop (entryFrame m #[(.ref p0), (.ref p1)] 2)) t := fun t kont => pre108 t (st109.trans kont)
  obtain ⟨fs, hr, hrun, hended, hW, hsame⟩ := X109.leave (v := none) (fun _ => rfl) (BodyLoose.notSynchronized Bd)
  refine ⟨_, _, pre110 _ ?_, hrun, hended, _, _, rfl, ?_, ⟨_, rfl⟩, hW, hsame.mono (by decide) (by decide)⟩
  · exact X109.returnOut hx Bd.returns (hb hby d11_5) hr
  · show Q11 Z p0 p1 el kc h0 n0 _ T109.heap _
    exact ⟨rfl, N109, KK109, ⟨Ed109, Fe109, Fh109, Ft109, Ad109, Od109, nde109, gd109, ge109⟩⟩
theorem d20_0 : decode jdk_21_method_10_code 0 = .ok (.aload_n 0, 1) := by decide +kernel
theorem d20_1 : decode jdk_21_method_10_code 1 = .ok (.iload_n 1, 1) := by decide +kernel
theorem d20_2 : decode jdk_21_method_10_code 2 = .ok (.aaload, 1) := by decide +kernel
theorem d20_3 : decode jdk_21_method_10_code 3 = .ok (.areturn, 1) := by decide +kernel
theorem ef_20 (m : MethodId) (x0 : Addr) (x1 : Int32) : entryFrame m #[(.ref x0), (.int x1)] 2 = mkF m 0 #[.val (.ref x0), .val (.int x1)] [] := by first | (simp [entryFrame, mkF, argsToLocals, Value.category]; done) | rfl
def Q20 (Z : State) (p0 : Addr) (kc : ClassId) (f : Nat → Value) (y : Addr) (h0 : Heap) (n0 : Nat) (v : Option Value) (h : Heap) (L : List Loc) : Prop := v = some (.ref y) ∧ Fr n0 L ∧ h = h0
set_option maxRecDepth 65536 in
set_option maxHeartbeats 40000000 in
theorem rm20 (l : Launch) (Z : State) (a0 : Array Value) (hw : ∀ d ∈ tables_1, d.before a0 Z = true) (ws : List Jvm.Cond) (p0 : Addr) (kc : ClassId) (f : Nat → Value) (y : Addr) (h0 : Heap) (n0 : Nat) (Z0 : n0 ≤ h0.size) (A : own_arrR Z h0 p0 kc 17 f) (hv : f 16 = Value.ref y) :
    MetFree l (⟨"java/util/ArrayDeque", "elementAt", "([Ljava/lang/Object;I)Ljava/lang/Object;"⟩ : MethodName) (head1 (Jvm.Cond.code (⟨"java/util/ArrayDeque", "elementAt", "([Ljava/lang/Object;I)Ljava/lang/Object;"⟩ : MethodName) jdk_21_method_10_code 2 (some (.object "java/lang/Object")) :: ws) ({ frames := 0, cells := 0, slots := 0, locals := 0 } : Room)) (fun a U => a = #[(.ref p0), (.int (16 : Int32))] ∧ Z.Warmed39 U.vm ∧ U.heap = h0) (fun _ _ _ _ _ => True) (fun _ U o U' => ∃ v L, o = .returned v ∧ Q20 Z p0 kc f y h0 n0 v U'.heap L ∧ FrameEnd U o U' L ({ frames := 0, cells := 0, slots := 0, locals := 0 } : Room).cells ({ frames := 0, cells := 0, slots := 0, locals := 0 } : Room).slots) := by
  refine MetFree.of_bodySF (plainFor_of_name pn_3) hisR ?_
  intro p e s m args below meth c s₁ Bd hml0 hP hK
  obtain ⟨rfl, hZ, hh⟩ := hP
  have hx := Bd.exec
  have hby := Bd.bytes
  have hml : c.maxLocals = 2 := hml0
  have hown : s.vm.findClass "java/util/ArrayDeque" = some m.cls := findClass_of_methodNamed Bd.named
  have hnm := (name_of_methodNamed Bd.named Bd.method).1
  have X0 : Stand p l e ({ frames := 0, cells := 0, slots := 0, locals := 0 } : Room) s m #[(.ref p0), (.int (16 : Int32))] below meth c s₁ [] 0 0 := Stand.of_body Bd
  have e0 : s₁.heap = h0 := by rw [← hh, Bd.state]; rfl
  have N0 := Fr.nil n0
  have pre0 : ∀ t, Steps p.tables e below (s₁.setTop (mkF m 0 #[.val (.ref p0), .val (.int (16 : Int32))] [])) t → Steps p.tables e below (s₁.setTop (entryFrame m #[(.ref p0), (.int (16 : Int32))] 2)) t := fun t k => castTop (ef_20 m p0 (16 : Int32)) k
  have pre111 : ∀ t, Steps p.tables e below (s₁.setTop (mkF m 3 #[.val (.ref p0), .val (.int (16 : Int32))] [(.ref y)])) t → Steps p.tables e below (s₁.setTop (entryFrame m #[(.ref p0), (.int (16 : Int32))] 2)) t := by
    intro t kont
    refine pre0 t ?_
    show Steps p.tables e below (s₁.setTop (mkF m 0 #[.val (.ref p0), .val (.int (16 : Int32))] [])) _
    refine XS.aloadN X0.here hx rfl (hb hby d20_0) rfl rfl ?_
    show Steps p.tables e below (s₁.setTop (mkF m 1 #[.val (.ref p0), .val (.int (16 : Int32))] [(.ref p0)])) _
    refine XS.iloadN X0.here hx rfl (hb hby d20_1) rfl ?_
    show Steps p.tables e below (s₁.setTop (mkF m 2 #[.val (.ref p0), .val (.int (16 : Int32))] [(.int (16 : Int32)), (.ref p0)])) _
    refine own_ldR X0 hx hZ e0 A (k := 16) (by decide) (by decide) (by decide) (v := (.ref y)) hv (fr := (mkF m 2 #[.val (.ref p0), .val (.int (16 : Int32))] [(.int (16 : Int32)), (.ref p0)])) rfl rfl (hb hby d20_2) _ ?_
    exact kont
  obtain ⟨fs, hr, hrun, hended, hW, hsame⟩ := X0.leave (v := some (.ref y)) (fun h => by rw [Bd.returns] at h; cases h) (BodyLoose.notSynchronized Bd)
  refine ⟨_, _, pre111 _ ?_, hrun, hended, _, _, rfl, ?_, ⟨_, rfl⟩, hW, hsame.mono (by decide) (by decide)⟩
  · jvm_step X0.here [X0.here.top, hx, (hb hby d20_3), X0.method', Bd.returns, Value.isRef, FieldType.isReference]
    first | (intro acts; rw [hr _ acts rfl rfl rfl]) | rw [hr _ _ rfl rfl rfl]
    exact Steps.refl _
  · show Q20 Z p0 kc f y h0 n0 _ s₁.heap _
    rw [e0]
    exact ⟨rfl, N0, rfl⟩
theorem d19_0 : decode jdk_21_method_20_code 0 = .ok (.aload_n 0, 1) := by decide +kernel
theorem d19_1 : decode jdk_21_method_20_code 1 = .ok (.getfield 3, 3) := by decide +kernel
theorem d19_4 : decode jdk_21_method_20_code 4 = .ok (.dup, 1) := by decide +kernel
theorem d19_5 : decode jdk_21_method_20_code 5 = .ok (.astore_n 1, 1) := by decide +kernel
theorem d19_6 : decode jdk_21_method_20_code 6 = .ok (.aload_n 0, 1) := by decide +kernel
theorem d19_7 : decode jdk_21_method_20_code 7 = .ok (.getfield 24, 3) := by decide +kernel
theorem d19_10 : decode jdk_21_method_20_code 10 = .ok (.dup, 1) := by decide +kernel
theorem d19_11 : decode jdk_21_method_20_code 11 = .ok (.istore_n 2, 1) := by decide +kernel
theorem d19_12 : decode jdk_21_method_20_code 12 = .ok (.invokestatic 103, 3) := by decide +kernel
theorem pd_6 : parseMethodDescriptor "([Ljava/lang/Object;I)Ljava/lang/Object;" = some ⟨[(.array (.object "java/lang/Object")), .int], some (.object "java/lang/Object")⟩ := by decide +kernel
theorem d19_15 : decode jdk_21_method_20_code 15 = .ok (.astore_n 3, 1) := by decide +kernel
theorem d19_16 : decode jdk_21_method_20_code 16 = .ok (.aload_n 3, 1) := by decide +kernel
theorem d19_17 : decode jdk_21_method_20_code 17 = .ok (.ifnull 17, 3) := by decide +kernel
theorem d19_20 : decode jdk_21_method_20_code 20 = .ok (.aload_n 1, 1) := by decide +kernel
theorem d19_21 : decode jdk_21_method_20_code 21 = .ok (.iload_n 2, 1) := by decide +kernel
theorem d19_22 : decode jdk_21_method_20_code 22 = .ok (.aconst_null, 1) := by decide +kernel
theorem d19_23 : decode jdk_21_method_20_code 23 = .ok (.aastore, 1) := by decide +kernel
theorem d19_24 : decode jdk_21_method_20_code 24 = .ok (.aload_n 0, 1) := by decide +kernel
theorem d19_25 : decode jdk_21_method_20_code 25 = .ok (.iload_n 2, 1) := by decide +kernel
theorem d19_26 : decode jdk_21_method_20_code 26 = .ok (.aload_n 1, 1) := by decide +kernel
theorem d19_27 : decode jdk_21_method_20_code 27 = .ok (.arraylength, 1) := by decide +kernel
theorem d19_28 : decode jdk_21_method_20_code 28 = .ok (.invokestatic 74, 3) := by decide +kernel
theorem d19_31 : decode jdk_21_method_20_code 31 = .ok (.putfield 24, 3) := by decide +kernel
theorem d19_34 : decode jdk_21_method_20_code 34 = .ok (.aload_n 3, 1) := by decide +kernel
theorem d19_35 : decode jdk_21_method_20_code 35 = .ok (.areturn, 1) := by decide +kernel
theorem ef_19 (m : MethodId) (x0 : Addr) : entryFrame m #[(.ref x0)] 4 = mkF m 0 #[.val (.ref x0), .unset, .unset, .unset] [] := by first | (simp [entryFrame, mkF, argsToLocals, Value.category]; done) | rfl
def Q19 (Z : State) (p0 : Addr) (el : Addr) (kc : ClassId) (y : Addr) (h0 : Heap) (n0 : Nat) (v : Option Value) (h : Heap) (L : List Loc) : Prop := v = some (.ref y) ∧ Fr n0 L ∧ Keep h0 h [p0, el] ∧ own_dq Z h n0 p0 el kc (0 : Int32) (fun i => if i = 16 then Value.null else (fun i => if i = 16 then Value.ref y else (fun _ => Value.null) i) i)
set_option maxRecDepth 65536 in
set_option maxHeartbeats 40000000 in
theorem rm19 (l : Launch) (Z : State) (a0 : Array Value) (hw : ∀ d ∈ tables_1, d.before a0 Z = true) (ws : List Jvm.Cond) (p0 : Addr) (el : Addr) (kc : ClassId) (y : Addr) (h0 : Heap) (n0 : Nat) (Z0 : n0 ≤ h0.size) (Hd : own_dq Z h0 n0 p0 el kc (16 : Int32) (fun i => if i = 16 then Value.ref y else (fun _ => Value.null) i)) :
    MetFree l (⟨"java/util/ArrayDeque", "pollFirst", "()Ljava/lang/Object;"⟩ : MethodName) (head1 (Jvm.Cond.code (⟨"java/util/ArrayDeque", "pollFirst", "()Ljava/lang/Object;"⟩ : MethodName) jdk_21_method_20_code 4 (some (.object "java/lang/Object")) :: ws) ({ frames := 1, cells := 0, slots := 0, locals := 14 } : Room)) (fun a U => a = #[(.ref p0)] ∧ Z.Warmed39 U.vm ∧ U.heap = h0) (fun _ _ _ _ _ => True) (fun _ U o U' => ∃ v L, o = .returned v ∧ Q19 Z p0 el kc y h0 n0 v U'.heap L ∧ FrameEnd U o U' L ({ frames := 1, cells := 0, slots := 0, locals := 14 } : Room).cells ({ frames := 1, cells := 0, slots := 0, locals := 14 } : Room).slots) := by
  refine MetFree.of_bodySF (plainFor_of_name pn_3) hisR ?_
  intro p e s m args below meth c s₁ Bd hml0 hP hK
  obtain ⟨rfl, hZ, hh⟩ := hP
  have hx := Bd.exec
  have hby := Bd.bytes
  have hml : c.maxLocals = 4 := hml0
  have hown : s.vm.findClass "java/util/ArrayDeque" = some m.cls := findClass_of_methodNamed Bd.named
  have hnm := (name_of_methodNamed Bd.named Bd.method).1
  have X0 : Stand p l e ({ frames := 1, cells := 0, slots := 0, locals := 14 } : Room) s m #[(.ref p0)] below meth c s₁ [] 0 0 := Stand.of_body Bd
  have e0 : s₁.heap = h0 := by rw [← hh, Bd.state]; rfl
  have N0 := Fr.nil n0
  have pre0 : ∀ t, Steps p.tables e below (s₁.setTop (mkF m 0 #[.val (.ref p0), .unset, .unset, .unset] [])) t → Steps p.tables e below (s₁.setTop (entryFrame m #[(.ref p0)] 4)) t := fun t k => castTop (ef_19 m p0) k
  obtain ⟨Ed, Fe, Fh, Ft, Ad, Od, nde, gd, ge⟩ := id Hd
  have pre112 : ∀ t, Steps p.tables e below (s₁.setTop (mkF m 1 #[.val (.ref p0), .unset, .unset, .unset] [(.ref p0)])) t → Steps p.tables e below (s₁.setTop (entryFrame m #[(.ref p0)] 4)) t := by
    intro t kont
    refine pre0 t ?_
    show Steps p.tables e below (s₁.setTop (mkF m 0 #[.val (.ref p0), .unset, .unset, .unset] [])) _
    refine XS.aloadN X0.here hx rfl (hb hby d19_0) rfl rfl ?_
    exact kont
  obtain ⟨T113, X113, e113, st113⟩ := getF X0 hx hZ hown (host := "") (Or.inl (hw _ (List.mem_of_getElem? (i := 25) rfl))) Via.refl e0 Fe (g := (mkF m 1 #[.val (.ref p0), .unset, .unset, .unset] [(.ref p0)])) rfl rfl (hb hby d19_1)
  have pre114 : ∀ t, Steps p.tables e below (T113.setTop (mkF m 4 #[.val (.ref p0), .unset, .unset, .unset] [(.ref el)])) t → Steps p.tables e below (s₁.setTop (entryFrame m #[(.ref p0)] 4)) t := fun t kont => pre112 t (st113 _ kont)
  have pre115 : ∀ t, Steps p.tables e below (T113.setTop (mkF m 7 #[.val (.ref p0), .val (.ref el), .unset, .unset] [(.ref p0), (.ref el)])) t → Steps p.tables e below (s₁.setTop (entryFrame m #[(.ref p0)] 4)) t := by
    intro t kont
    refine pre114 t ?_
    show Steps p.tables e below (T113.setTop (mkF m 4 #[.val (.ref p0), .unset, .unset, .unset] [(.ref el)])) _
    refine XS.dup X113.here hx rfl (hb hby d19_4) rfl rfl ?_
    show Steps p.tables e below (T113.setTop (mkF m 5 #[.val (.ref p0), .unset, .unset, .unset] [(.ref el), (.ref el)])) _
    refine XS.astoreN X113.here hx rfl (hb hby d19_5) rfl rfl (l' := #[.val (.ref p0), .val (.ref el), .unset, .unset]) rfl ?_
    show Steps p.tables e below (T113.setTop (mkF m 6 #[.val (.ref p0), .val (.ref el), .unset, .unset] [(.ref el)])) _
    refine XS.aloadN X113.here hx rfl (hb hby d19_6) rfl rfl ?_
    exact kont
  obtain ⟨T116, X116, e116, st116⟩ := getF X113 hx hZ hown (host := "") (Or.inl (hw _ (List.mem_of_getElem? (i := 82) rfl))) Via.refl e113 Fh (g := (mkF m 7 #[.val (.ref p0), .val (.ref el), .unset, .unset] [(.ref p0), (.ref el)])) rfl rfl (hb hby d19_7)
  have pre117 : ∀ t, Steps p.tables e below (T116.setTop (mkF m 10 #[.val (.ref p0), .val (.ref el), .unset, .unset] [(.int (16 : Int32)), (.ref el)])) t → Steps p.tables e below (s₁.setTop (entryFrame m #[(.ref p0)] 4)) t := fun t kont => pre115 t (st116 _ kont)
  have pre118 : ∀ t, Steps p.tables e below (T116.setTop (mkF m 12 #[.val (.ref p0), .val (.ref el), .val (.int (16 : Int32)), .unset] [(.int (16 : Int32)), (.ref el)])) t → Steps p.tables e below (s₁.setTop (entryFrame m #[(.ref p0)] 4)) t := by
    intro t kont
    refine pre117 t ?_
    show Steps p.tables e below (T116.setTop (mkF m 10 #[.val (.ref p0), .val (.ref el), .unset, .unset] [(.int (16 : Int32)), (.ref el)])) _
    refine XS.dup X116.here hx rfl (hb hby d19_10) rfl rfl ?_
    show Steps p.tables e below (T116.setTop (mkF m 11 #[.val (.ref p0), .val (.ref el), .unset, .unset] [(.int (16 : Int32)), (.int (16 : Int32)), (.ref el)])) _
    refine XS.istoreN X116.here hx rfl (hb hby d19_11) rfl (l' := #[.val (.ref p0), .val (.ref el), .val (.int (16 : Int32)), .unset]) rfl ?_
    exact kont
  obtain ⟨_, _, ⟨T119, L119, k119, n119⟩, -, X119, ⟨Lc119, hQ119, l119, y119, z119⟩, st119⟩ := Jvm.LawKit.callS X116 hx (y := (⟨"java/util/ArrayDeque", "elementAt", "([Ljava/lang/Object;I)Ljava/lang/Object;"⟩ : MethodName)) hown (mvT hZ (hw _ (List.mem_of_getElem? (i := 122) rfl))) (mvT hZ (hw _ (List.mem_of_getElem? (i := 123) rfl))) (mvT hZ (hw _ (List.mem_of_getElem? (i := 12) rfl))) (mvT hZ (hw _ (List.mem_of_getElem? (i := 124) rfl))) (by decide) (backOf (W := 0) (rm20 l Z a0 hw [] el kc (fun i => if i = 16 then Value.ref y else (fun _ => Value.null) i) y  h0 n0 Z0 Ad rfl) hZ (hw _ (List.mem_of_getElem? (i := 124) rfl)) (hw _ (List.mem_of_getElem? (i := 12) rfl)) (by decide) (by decide)) (g := (mkF m 12 #[.val (.ref p0), .val (.ref el), .val (.int (16 : Int32)), .unset] [(.int (16 : Int32)), (.ref el)])) rfl (by rw [hml]; rfl) (argsL := [(.ref el), (.int (16 : Int32))]) (rest := []) (lenOf pd_6 rfl) rfl (by show 2 * 0 + _ ≤ _; exact Nat.le_of_eq rfl) (hb hby d19_12) (fun _ _ => ⟨rfl, e116, (by decide : 0 + 0 ≤ _), (by decide : 0 + 0 ≤ _)⟩)
  dsimp only [Pt.U, Pt.locs, Pt.cells, Pt.slots] at X119 l119 y119 z119 st119 hQ119
  subst l119 y119 z119
  obtain ⟨rfl, N119q, e119⟩ := hQ119
  have N119 := Fr.app N0 N119q
  have pre120 : ∀ t, Steps p.tables e below (T119.setTop (mkF m 15 #[.val (.ref p0), .val (.ref el), .val (.int (16 : Int32)), .unset] [(.ref y)])) t → Steps p.tables e below (s₁.setTop (entryFrame m #[(.ref p0)] 4)) t := fun t kont => pre118 t (st119 _ kont)
  have pre121 : ∀ t, Steps p.tables e below (T119.setTop (mkF m 23 #[.val (.ref p0), .val (.ref el), .val (.int (16 : Int32)), .val (.ref y)] [.null, (.int (16 : Int32)), (.ref el)])) t → Steps p.tables e below (s₁.setTop (entryFrame m #[(.ref p0)] 4)) t := by
    intro t kont
    refine pre120 t ?_
    show Steps p.tables e below (T119.setTop (mkF m 15 #[.val (.ref p0), .val (.ref el), .val (.int (16 : Int32)), .unset] [(.ref y)])) _
    refine XS.astoreN X119.here hx rfl (hb hby d19_15) rfl rfl (l' := #[.val (.ref p0), .val (.ref el), .val (.int (16 : Int32)), .val (.ref y)]) rfl ?_
    show Steps p.tables e below (T119.setTop (mkF m 16 #[.val (.ref p0), .val (.ref el), .val (.int (16 : Int32)), .val (.ref y)] [])) _
    refine XS.aloadN X119.here hx rfl (hb hby d19_16) rfl rfl ?_
    show Steps p.tables e below (T119.setTop (mkF m 17 #[.val (.ref p0), .val (.ref el), .val (.int (16 : Int32)), .val (.ref y)] [(.ref y)])) _
    refine XS.ifnullNo X119.here hx rfl (hb hby d19_17) rfl ?_
    show Steps p.tables e below (T119.setTop (mkF m 20 #[.val (.ref p0), .val (.ref el), .val (.int (16 : Int32)), .val (.ref y)] [])) _
    refine XS.aloadN X119.here hx rfl (hb hby d19_20) rfl rfl ?_
    show Steps p.tables e below (T119.setTop (mkF m 21 #[.val (.ref p0), .val (.ref el), .val (.int (16 : Int32)), .val (.ref y)] [(.ref el)])) _
    refine XS.iloadN X119.here hx rfl (hb hby d19_21) rfl ?_
    show Steps p.tables e below (T119.setTop (mkF m 22 #[.val (.ref p0), .val (.ref el), .val (.int (16 : Int32)), .val (.ref y)] [(.int (16 : Int32)), (.ref el)])) _
    refine XS.aconstNull X119.here hx rfl (hb hby d19_22) ?_
    exact kont
  obtain ⟨T122, h122, X122, e122, W122, V122, st122⟩ := own_stR X119 hx hZ e119 Ad Od (v := .null) (Or.inl rfl) (k := 16) (by decide) (by decide) (by decide) (fr := (mkF m 23 #[.val (.ref p0), .val (.ref el), .val (.int (16 : Int32)), .val (.ref y)] [.null, (.int (16 : Int32)), (.ref el)])) rfl rfl (hb hby d19_23)
  have f122_0 := Exa.wr W122 Ed
  have f122_1 := Fld.other W122 Fe (Or.inl nde)
  have f122_2 := Fld.other W122 Fh (Or.inl nde)
  have f122_3 := Fld.other W122 Ft (Or.inl nde)
  have K122 : Keep h0 h122 [p0, el] := (Keep.refl h0 [p0, el]).wr W122 (Or.inl (List.mem_of_getElem? (i := 1) rfl))
  have Z122 : n0 ≤ h122.size := Nat.le_trans Z0 (Keep.of_wr W122).1
  have N122 := Fr.snoc X122 N119 ge
  have pre123 : ∀ t, Steps p.tables e below (T122.setTop (mkF m 24 #[.val (.ref p0), .val (.ref el), .val (.int (16 : Int32)), .val (.ref y)] [])) t → Steps p.tables e below (s₁.setTop (entryFrame m #[(.ref p0)] 4)) t := fun t kont => pre121 t (st122 _ kont)
  have pre124 : ∀ t, Steps p.tables e below (T122.setTop (mkF m 28 #[.val (.ref p0), .val (.ref el), .val (.int (16 : Int32)), .val (.ref y)] [(.int (17 : Int32)), (.int (16 : Int32)), (.ref p0)])) t → Steps p.tables e below (s₁.setTop (entryFrame m #[(.ref p0)] 4)) t := by
    intro t kont
    refine pre123 t ?_
    show Steps p.tables e below (T122.setTop (mkF m 24 #[.val (.ref p0), .val (.ref el), .val (.int (16 : Int32)), .val (.ref y)] [])) _
    refine XS.aloadN X122.here hx rfl (hb hby d19_24) rfl rfl ?_
    show Steps p.tables e below (T122.setTop (mkF m 25 #[.val (.ref p0), .val (.ref el), .val (.int (16 : Int32)), .val (.ref y)] [(.ref p0)])) _
    refine XS.iloadN X122.here hx rfl (hb hby d19_25) rfl ?_
    show Steps p.tables e below (T122.setTop (mkF m 26 #[.val (.ref p0), .val (.ref el), .val (.int (16 : Int32)), .val (.ref y)] [(.int (16 : Int32)), (.ref p0)])) _
    refine XS.aloadN X122.here hx rfl (hb hby d19_26) rfl rfl ?_
    show Steps p.tables e below (T122.setTop (mkF m 27 #[.val (.ref p0), .val (.ref el), .val (.int (16 : Int32)), .val (.ref y)] [(.ref el), (.int (16 : Int32)), (.ref p0)])) _
    refine own_lenR X122 hx hZ e122 V122 (z := (17 : Int32)) (by decide) (fr := (mkF m 27 #[.val (.ref p0), .val (.ref el), .val (.int (16 : Int32)), .val (.ref y)] [(.ref el), (.int (16 : Int32)), (.ref p0)])) rfl rfl (hb hby d19_27) _ ?_
    exact kont
  obtain ⟨_, _, ⟨T125, L125, k125, n125⟩, -, X125, ⟨Lc125, hQ125, l125, y125, z125⟩, st125⟩ := Jvm.LawKit.callS X122 hx (y := (⟨"java/util/ArrayDeque", "inc", "(II)I"⟩ : MethodName)) hown (mvT hZ (hw _ (List.mem_of_getElem? (i := 125) rfl))) (mvT hZ (hw _ (List.mem_of_getElem? (i := 126) rfl))) (mvT hZ (hw _ (List.mem_of_getElem? (i := 12) rfl))) (mvT hZ (hw _ (List.mem_of_getElem? (i := 127) rfl))) (by decide) (backOf (W := 1) (rm21 l Z a0 hw [] (16 : Int32) (17 : Int32)  h122 n0 Z122) hZ (hw _ (List.mem_of_getElem? (i := 127) rfl)) (hw _ (List.mem_of_getElem? (i := 12) rfl)) (by decide) (by decide)) (g := (mkF m 28 #[.val (.ref p0), .val (.ref el), .val (.int (16 : Int32)), .val (.ref y)] [(.int (17 : Int32)), (.int (16 : Int32)), (.ref p0)])) rfl (by rw [hml]; rfl) (argsL := [(.int (16 : Int32)), (.int (17 : Int32))]) (rest := [(.ref p0)]) (lenOf pd_4 rfl) rfl (by show 2 * 0 + _ ≤ _; exact Nat.le_of_eq rfl) (hb hby d19_28) (fun _ _ => ⟨rfl, e122, (by decide : 0 + 0 ≤ _), (by decide : 0 + 0 ≤ _)⟩)
  dsimp only [Pt.U, Pt.locs, Pt.cells, Pt.slots] at X125 l125 y125 z125 st125 hQ125
  subst l125 y125 z125
  obtain ⟨rfl, N125q, e125⟩ := hQ125
  have N125 := Fr.app N122 N125q
  have pre126 : ∀ t, Steps p.tables e below (T125.setTop (mkF m 31 #[.val (.ref p0), .val (.ref el), .val (.int (16 : Int32)), .val (.ref y)] [(.int (own_inc (16 : Int32) (17 : Int32))), (.ref p0)])) t → Steps p.tables e below (s₁.setTop (entryFrame m #[(.ref p0)] 4)) t := fun t kont => pre124 t (st125 _ kont)
  have rq127 : (own_inc (16 : Int32) (17 : Int32)) = (0 : Int32) := (by decide)
  rw [rq127] at pre126
  obtain ⟨T128, h128, X128, e128, W128, st128⟩ := putF X125 hx hZ hown (host := "") (Or.inl (hw _ (List.mem_of_getElem? (i := 82) rfl))) Via.refl e125 f122_2 f122_0 (Or.inl (hw _ (List.mem_of_getElem? (i := 83) rfl))) (hw _ (List.mem_of_getElem? (i := 11) rfl)) (ty := .int) (by decide) rfl rfl (g := (mkF m 31 #[.val (.ref p0), .val (.ref el), .val (.int (16 : Int32)), .val (.ref y)] [(.int (0 : Int32)), (.ref p0)])) rfl rfl (hb hby d19_31)
  have f128_0 := Exa.wr W128 f122_0
  have f128_1 := Fld.other W128 f122_1 (Or.inr (slot_ne (Or.inl (hw _ (List.mem_of_getElem? (i := 26) rfl))) (Or.inl (hw _ (List.mem_of_getElem? (i := 83) rfl))) (by decide) (t := (.array (.object "java/lang/Object"))) (t' := .int) (by decide) (by decide)))
  have f128_2 := Fld.same W128 f122_2
  have f128_3 := Fld.other W128 f122_3 (Or.inr (slot_ne (Or.inl (hw _ (List.mem_of_getElem? (i := 89) rfl))) (Or.inl (hw _ (List.mem_of_getElem? (i := 83) rfl))) (by decide) (t := .int) (t' := .int) (by decide) (by decide)))
  have f128_4 := V122.other W128 (Ne.symm nde)
  have K128 : Keep h0 h128 [p0, el] := (K122).wr W128 (Or.inl (List.mem_of_getElem? (i := 0) rfl))
  have Z128 : n0 ≤ h128.size := Nat.le_trans Z122 (Keep.of_wr W128).1
  have N128 := Fr.snoc X128 N125 gd
  have pre129 : ∀ t, Steps p.tables e below (T128.setTop (mkF m 34 #[.val (.ref p0), .val (.ref el), .val (.int (16 : Int32)), .val (.ref y)] [])) t → Steps p.tables e below (s₁.setTop (entryFrame m #[(.ref p0)] 4)) t := fun t kont => pre126 t (st128 _ kont)
  have pre130 : ∀ t, Steps p.tables e below (T128.setTop (mkF m 35 #[.val (.ref p0), .val (.ref el), .val (.int (16 : Int32)), .val (.ref y)] [(.ref y)])) t → Steps p.tables e below (s₁.setTop (entryFrame m #[(.ref p0)] 4)) t := by
    intro t kont
    refine pre129 t ?_
    show Steps p.tables e below (T128.setTop (mkF m 34 #[.val (.ref p0), .val (.ref el), .val (.int (16 : Int32)), .val (.ref y)] [])) _
    refine XS.aloadN X128.here hx rfl (hb hby d19_34) rfl rfl ?_
    exact kont
  obtain ⟨fs, hr, hrun, hended, hW, hsame⟩ := X128.leave (v := some (.ref y)) (fun h => by rw [Bd.returns] at h; cases h) (BodyLoose.notSynchronized Bd)
  refine ⟨_, _, pre130 _ ?_, hrun, hended, _, _, rfl, ?_, ⟨_, rfl⟩, hW, hsame.mono (by decide) (by decide)⟩
  · jvm_step X128.here [X128.here.top, hx, (hb hby d19_35), X128.method', Bd.returns, Value.isRef, FieldType.isReference]
    first | (intro acts; rw [hr _ acts rfl rfl rfl]) | rw [hr _ _ rfl rfl rfl]
    exact Steps.refl _
  · show Q19 Z p0 el kc y h0 n0 _ T128.heap _
    rw [e128]
    exact ⟨rfl, N128, K128, ⟨f128_0, f128_1, f128_2, f128_3, f128_4, Od, nde, gd, ge⟩⟩
theorem d18_0 : decode jdk_21_method_18_code 0 = .ok (.aload_n 0, 1) := by decide +kernel
theorem d18_1 : decode jdk_21_method_18_code 1 = .ok (.invokevirtual 93, 3) := by decide +kernel
theorem pd_7 : parseMethodDescriptor "()Ljava/lang/Object;" = some ⟨[], some (.object "java/lang/Object")⟩ := by decide +kernel
theorem d18_4 : decode jdk_21_method_18_code 4 = .ok (.astore_n 1, 1) := by decide +kernel
theorem d18_5 : decode jdk_21_method_18_code 5 = .ok (.aload_n 1, 1) := by decide +kernel
theorem d18_6 : decode jdk_21_method_18_code 6 = .ok (.ifnonnull 11, 3) := by decide +kernel
theorem d18_17 : decode jdk_21_method_18_code 17 = .ok (.aload_n 1, 1) := by decide +kernel
theorem d18_18 : decode jdk_21_method_18_code 18 = .ok (.areturn, 1) := by decide +kernel
theorem ef_18 (m : MethodId) (x0 : Addr) : entryFrame m #[(.ref x0)] 2 = mkF m 0 #[.val (.ref x0), .unset] [] := by first | (simp [entryFrame, mkF, argsToLocals, Value.category]; done) | rfl
def Q18 (Z : State) (p0 : Addr) (el : Addr) (kc : ClassId) (y : Addr) (h0 : Heap) (n0 : Nat) (v : Option Value) (h : Heap) (L : List Loc) : Prop := v = some (.ref y) ∧ Fr n0 L ∧ Keep h0 h [p0, el] ∧ own_dq Z h n0 p0 el kc (0 : Int32) (fun i => if i = 16 then Value.null else (fun i => if i = 16 then Value.ref y else (fun _ => Value.null) i) i)
set_option maxRecDepth 65536 in
set_option maxHeartbeats 40000000 in
theorem rm18 (l : Launch) (Z : State) (a0 : Array Value) (hw : ∀ d ∈ tables_1, d.before a0 Z = true) (ws : List Jvm.Cond) (p0 : Addr) (el : Addr) (kc : ClassId) (y : Addr) (h0 : Heap) (n0 : Nat) (Z0 : n0 ≤ h0.size) (Hd : own_dq Z h0 n0 p0 el kc (16 : Int32) (fun i => if i = 16 then Value.ref y else (fun _ => Value.null) i)) :
    MetFree l (⟨"java/util/ArrayDeque", "removeFirst", "()Ljava/lang/Object;"⟩ : MethodName) (head1 (Jvm.Cond.code (⟨"java/util/ArrayDeque", "removeFirst", "()Ljava/lang/Object;"⟩ : MethodName) jdk_21_method_18_code 2 (some (.object "java/lang/Object")) :: ws) ({ frames := 2, cells := 0, slots := 0, locals := 29 } : Room)) (fun a U => a = #[(.ref p0)] ∧ Z.Warmed39 U.vm ∧ U.heap = h0) (fun _ _ _ _ _ => True) (fun _ U o U' => ∃ v L, o = .returned v ∧ Q18 Z p0 el kc y h0 n0 v U'.heap L ∧ FrameEnd U o U' L ({ frames := 2, cells := 0, slots := 0, locals := 29 } : Room).cells ({ frames := 2, cells := 0, slots := 0, locals := 29 } : Room).slots) := by
  refine MetFree.of_bodySF (plainFor_of_name pn_3) hisR ?_
  intro p e s m args below meth c s₁ Bd hml0 hP hK
  obtain ⟨rfl, hZ, hh⟩ := hP
  have hx := Bd.exec
  have hby := Bd.bytes
  have hml : c.maxLocals = 2 := hml0
  have hown : s.vm.findClass "java/util/ArrayDeque" = some m.cls := findClass_of_methodNamed Bd.named
  have hnm := (name_of_methodNamed Bd.named Bd.method).1
  have X0 : Stand p l e ({ frames := 2, cells := 0, slots := 0, locals := 29 } : Room) s m #[(.ref p0)] below meth c s₁ [] 0 0 := Stand.of_body Bd
  have e0 : s₁.heap = h0 := by rw [← hh, Bd.state]; rfl
  have N0 := Fr.nil n0
  have pre0 : ∀ t, Steps p.tables e below (s₁.setTop (mkF m 0 #[.val (.ref p0), .unset] [])) t → Steps p.tables e below (s₁.setTop (entryFrame m #[(.ref p0)] 2)) t := fun t k => castTop (ef_18 m p0) k
  obtain ⟨Ed, Fe, Fh, Ft, Ad, Od, nde, gd, ge⟩ := id Hd
  have pre131 : ∀ t, Steps p.tables e below (s₁.setTop (mkF m 1 #[.val (.ref p0), .unset] [(.ref p0)])) t → Steps p.tables e below (s₁.setTop (entryFrame m #[(.ref p0)] 2)) t := by
    intro t kont
    refine pre0 t ?_
    show Steps p.tables e below (s₁.setTop (mkF m 0 #[.val (.ref p0), .unset] [])) _
    refine XS.aloadN X0.here hx rfl (hb hby d18_0) rfl rfl ?_
    exact kont
  obtain ⟨cq132, kq132, q132a, q132b, q132c⟩ := isOf hZ e0 Ed
  obtain ⟨_, _, ⟨T132, L132, k132, n132⟩, -, X132, ⟨Lc132, hQ132, l132, y132, z132⟩, st132⟩ := X0.virtualBack hx (y := (⟨"java/util/ArrayDeque", "pollFirst", "()Ljava/lang/Object;"⟩ : MethodName)) (z := (⟨"java/util/ArrayDeque", "pollFirst", "()Ljava/lang/Object;"⟩ : MethodName)) hown (mvT hZ (hw _ (List.mem_of_getElem? (i := 117) rfl))) (mvT hZ (hw _ (List.mem_of_getElem? (i := 118) rfl))) (notFace_of_selects (args := #[]) (mvT hZ (hw _ (List.mem_of_getElem? (i := 120) rfl)))) (mvT hZ (hw _ (List.mem_of_getElem? (i := 120) rfl))) (mvT hZ (hw _ (List.mem_of_getElem? (i := 119) rfl))) (by decide) (backOf (W := 0) (rm19 l Z a0 hw [] p0 el kc y  h0 n0 Z0 ⟨Ed, Fe, Fh, Ft, Ad, Od, nde, gd, ge⟩) hZ (hw _ (List.mem_of_getElem? (i := 121) rfl)) (hw _ (List.mem_of_getElem? (i := 12) rfl)) (by decide) (by decide)) q132a q132c (g := (mkF m 1 #[.val (.ref p0), .unset] [(.ref p0)])) rfl (by rw [hml]; rfl) (Steps.refl _) (argsL := []) (rest := []) (lenOf pd_7 rfl) rfl (by show 2 * 0 + _ ≤ _; exact Nat.le_of_eq rfl) (hb hby d18_1) (fun _ _ => ⟨rfl, e0, (by decide : 0 + 0 ≤ _), (by decide : 0 + 0 ≤ _)⟩)
  dsimp only [Pt.U, Pt.locs, Pt.cells, Pt.slots] at X132 l132 y132 z132 st132 hQ132
  subst l132 y132 z132
  obtain ⟨rfl, N132q, K132, D132⟩ := hQ132
  have N132 := Fr.app N0 N132q
  have Z132 : n0 ≤ T132.heap.size := Nat.le_trans Z0 (K132).1
  have KK132 : Keep h0 T132.heap [p0, el] := (Keep.refl h0 [p0, el]).trans K132 (allS (Or.inl (List.mem_of_getElem? (i := 0) rfl)) (allS (Or.inl (List.mem_of_getElem? (i := 1) rfl)) all0))
  obtain ⟨Ed132, Fe132, Fh132, Ft132, Ad132, Od132, nde132, gd132, ge132⟩ := id D132
  have pre133 : ∀ t, Steps p.tables e below (T132.setTop (mkF m 4 #[.val (.ref p0), .unset] [(.ref y)])) t → Steps p.tables e below (s₁.setTop (entryFrame m #[(.ref p0)] 2)) t := fun t kont => pre131 t (st132.trans kont)
  have pre134 : ∀ t, Steps p.tables e below (T132.setTop (mkF m 18 #[.val (.ref p0), .val (.ref y)] [(.ref y)])) t → Steps p.tables e below (s₁.setTop (entryFrame m #[(.ref p0)] 2)) t := by
    intro t kont
    refine pre133 t ?_
    show Steps p.tables e below (T132.setTop (mkF m 4 #[.val (.ref p0), .unset] [(.ref y)])) _
    refine XS.astoreN X132.here hx rfl (hb hby d18_4) rfl rfl (l' := #[.val (.ref p0), .val (.ref y)]) rfl ?_
    show Steps p.tables e below (T132.setTop (mkF m 5 #[.val (.ref p0), .val (.ref y)] [])) _
    refine XS.aloadN X132.here hx rfl (hb hby d18_5) rfl rfl ?_
    show Steps p.tables e below (T132.setTop (mkF m 6 #[.val (.ref p0), .val (.ref y)] [(.ref y)])) _
    refine XS.ifnonnullYes X132.here hx rfl (pc0 := 6) (pc' := 17) rfl (hb hby d18_6) rfl (by decide) (by decide) ?_
    show Steps p.tables e below (T132.setTop (mkF m 17 #[.val (.ref p0), .val (.ref y)] [])) _
    refine XS.aloadN X132.here hx rfl (hb hby d18_17) rfl rfl ?_
    exact kont
  obtain ⟨fs, hr, hrun, hended, hW, hsame⟩ := X132.leave (v := some (.ref y)) (fun h => by rw [Bd.returns] at h; cases h) (BodyLoose.notSynchronized Bd)
  refine ⟨_, _, pre134 _ ?_, hrun, hended, _, _, rfl, ?_, ⟨_, rfl⟩, hW, hsame.mono (by decide) (by decide)⟩
  · jvm_step X132.here [X132.here.top, hx, (hb hby d18_18), X132.method', Bd.returns, Value.isRef, FieldType.isReference]
    first | (intro acts; rw [hr _ acts rfl rfl rfl]) | rw [hr _ _ rfl rfl rfl]
    exact Steps.refl _
  · show Q18 Z p0 el kc y h0 n0 _ T132.heap _
    exact ⟨rfl, N132, KK132, ⟨Ed132, Fe132, Fh132, Ft132, Ad132, Od132, nde132, gd132, ge132⟩⟩
theorem d17_0 : decode jdk_21_method_35_code 0 = .ok (.aload_n 0, 1) := by decide +kernel
theorem d17_1 : decode jdk_21_method_35_code 1 = .ok (.invokevirtual 118, 3) := by decide +kernel
theorem d17_4 : decode jdk_21_method_35_code 4 = .ok (.areturn, 1) := by decide +kernel
theorem ef_17 (m : MethodId) (x0 : Addr) : entryFrame m #[(.ref x0)] 1 = mkF m 0 #[.val (.ref x0)] [] := by first | (simp [entryFrame, mkF, argsToLocals, Value.category]; done) | rfl
def Q17 (Z : State) (p0 : Addr) (el : Addr) (kc : ClassId) (y : Addr) (h0 : Heap) (n0 : Nat) (v : Option Value) (h : Heap) (L : List Loc) : Prop := v = some (.ref y) ∧ Fr n0 L ∧ Keep h0 h [p0, el] ∧ own_dq Z h n0 p0 el kc (0 : Int32) (fun i => if i = 16 then Value.null else (fun i => if i = 16 then Value.ref y else (fun _ => Value.null) i) i)
set_option maxRecDepth 65536 in
set_option maxHeartbeats 40000000 in
theorem rm17 (l : Launch) (Z : State) (a0 : Array Value) (hw : ∀ d ∈ tables_1, d.before a0 Z = true) (ws : List Jvm.Cond) (p0 : Addr) (el : Addr) (kc : ClassId) (y : Addr) (h0 : Heap) (n0 : Nat) (Z0 : n0 ≤ h0.size) (Hd : own_dq Z h0 n0 p0 el kc (16 : Int32) (fun i => if i = 16 then Value.ref y else (fun _ => Value.null) i)) :
    MetFree l (⟨"java/util/ArrayDeque", "pop", "()Ljava/lang/Object;"⟩ : MethodName) (head1 (Jvm.Cond.code (⟨"java/util/ArrayDeque", "pop", "()Ljava/lang/Object;"⟩ : MethodName) jdk_21_method_35_code 1 (some (.object "java/lang/Object")) :: ws) ({ frames := 3, cells := 0, slots := 0, locals := 42 } : Room)) (fun a U => a = #[(.ref p0)] ∧ Z.Warmed39 U.vm ∧ U.heap = h0) (fun _ _ _ _ _ => True) (fun _ U o U' => ∃ v L, o = .returned v ∧ Q17 Z p0 el kc y h0 n0 v U'.heap L ∧ FrameEnd U o U' L ({ frames := 3, cells := 0, slots := 0, locals := 42 } : Room).cells ({ frames := 3, cells := 0, slots := 0, locals := 42 } : Room).slots) := by
  refine MetFree.of_bodySF (plainFor_of_name pn_3) hisR ?_
  intro p e s m args below meth c s₁ Bd hml0 hP hK
  obtain ⟨rfl, hZ, hh⟩ := hP
  have hx := Bd.exec
  have hby := Bd.bytes
  have hml : c.maxLocals = 1 := hml0
  have hown : s.vm.findClass "java/util/ArrayDeque" = some m.cls := findClass_of_methodNamed Bd.named
  have hnm := (name_of_methodNamed Bd.named Bd.method).1
  have X0 : Stand p l e ({ frames := 3, cells := 0, slots := 0, locals := 42 } : Room) s m #[(.ref p0)] below meth c s₁ [] 0 0 := Stand.of_body Bd
  have e0 : s₁.heap = h0 := by rw [← hh, Bd.state]; rfl
  have N0 := Fr.nil n0
  have pre0 : ∀ t, Steps p.tables e below (s₁.setTop (mkF m 0 #[.val (.ref p0)] [])) t → Steps p.tables e below (s₁.setTop (entryFrame m #[(.ref p0)] 1)) t := fun t k => castTop (ef_17 m p0) k
  obtain ⟨Ed, Fe, Fh, Ft, Ad, Od, nde, gd, ge⟩ := id Hd
  have pre135 : ∀ t, Steps p.tables e below (s₁.setTop (mkF m 1 #[.val (.ref p0)] [(.ref p0)])) t → Steps p.tables e below (s₁.setTop (entryFrame m #[(.ref p0)] 1)) t := by
    intro t kont
    refine pre0 t ?_
    show Steps p.tables e below (s₁.setTop (mkF m 0 #[.val (.ref p0)] [])) _
    refine XS.aloadN X0.here hx rfl (hb hby d17_0) rfl rfl ?_
    exact kont
  obtain ⟨cq136, kq136, q136a, q136b, q136c⟩ := isOf hZ e0 Ed
  obtain ⟨_, _, ⟨T136, L136, k136, n136⟩, -, X136, ⟨Lc136, hQ136, l136, y136, z136⟩, st136⟩ := X0.virtualBack hx (y := (⟨"java/util/ArrayDeque", "removeFirst", "()Ljava/lang/Object;"⟩ : MethodName)) (z := (⟨"java/util/ArrayDeque", "removeFirst", "()Ljava/lang/Object;"⟩ : MethodName)) hown (mvT hZ (hw _ (List.mem_of_getElem? (i := 112) rfl))) (mvT hZ (hw _ (List.mem_of_getElem? (i := 113) rfl))) (notFace_of_selects (args := #[]) (mvT hZ (hw _ (List.mem_of_getElem? (i := 115) rfl)))) (mvT hZ (hw _ (List.mem_of_getElem? (i := 115) rfl))) (mvT hZ (hw _ (List.mem_of_getElem? (i := 114) rfl))) (by decide) (backOf (W := 0) (rm18 l Z a0 hw [] p0 el kc y  h0 n0 Z0 ⟨Ed, Fe, Fh, Ft, Ad, Od, nde, gd, ge⟩) hZ (hw _ (List.mem_of_getElem? (i := 116) rfl)) (hw _ (List.mem_of_getElem? (i := 12) rfl)) (by decide) (by decide)) q136a q136c (g := (mkF m 1 #[.val (.ref p0)] [(.ref p0)])) rfl (by rw [hml]; rfl) (Steps.refl _) (argsL := []) (rest := []) (lenOf pd_7 rfl) rfl (by show 2 * 0 + _ ≤ _; exact Nat.le_of_eq rfl) (hb hby d17_1) (fun _ _ => ⟨rfl, e0, (by decide : 0 + 0 ≤ _), (by decide : 0 + 0 ≤ _)⟩)
  dsimp only [Pt.U, Pt.locs, Pt.cells, Pt.slots] at X136 l136 y136 z136 st136 hQ136
  subst l136 y136 z136
  obtain ⟨rfl, N136q, K136, D136⟩ := hQ136
  have N136 := Fr.app N0 N136q
  have Z136 : n0 ≤ T136.heap.size := Nat.le_trans Z0 (K136).1
  have KK136 : Keep h0 T136.heap [p0, el] := (Keep.refl h0 [p0, el]).trans K136 (allS (Or.inl (List.mem_of_getElem? (i := 0) rfl)) (allS (Or.inl (List.mem_of_getElem? (i := 1) rfl)) all0))
  obtain ⟨Ed136, Fe136, Fh136, Ft136, Ad136, Od136, nde136, gd136, ge136⟩ := id D136
  have pre137 : ∀ t, Steps p.tables e below (T136.setTop (mkF m 4 #[.val (.ref p0)] [(.ref y)])) t → Steps p.tables e below (s₁.setTop (entryFrame m #[(.ref p0)] 1)) t := fun t kont => pre135 t (st136.trans kont)
  obtain ⟨fs, hr, hrun, hended, hW, hsame⟩ := X136.leave (v := some (.ref y)) (fun h => by rw [Bd.returns] at h; cases h) (BodyLoose.notSynchronized Bd)
  refine ⟨_, _, pre137 _ ?_, hrun, hended, _, _, rfl, ?_, ⟨_, rfl⟩, hW, hsame.mono (by decide) (by decide)⟩
  · jvm_step X136.here [X136.here.top, hx, (hb hby d17_4), X136.method', Bd.returns, Value.isRef, FieldType.isReference]
    first | (intro acts; rw [hr _ acts rfl rfl rfl]) | rw [hr _ _ rfl rfl rfl]
    exact Steps.refl _
  · show Q17 Z p0 el kc y h0 n0 _ T136.heap _
    exact ⟨rfl, N136, KK136, ⟨Ed136, Fe136, Fh136, Ft136, Ad136, Od136, nde136, gd136, ge136⟩⟩
theorem d10_0 : decode prog_109_method_2_code 0 = .ok (.aload_n 0, 1) := by decide +kernel
theorem d10_1 : decode prog_109_method_2_code 1 = .ok (.getfield 10, 3) := by decide +kernel
theorem d10_4 : decode prog_109_method_2_code 4 = .ok (.aload_n 1, 1) := by decide +kernel
theorem d10_5 : decode prog_109_method_2_code 5 = .ok (.invokeinterface 20 2, 5) := by decide +kernel
theorem d10_10 : decode prog_109_method_2_code 10 = .ok (.aload_n 0, 1) := by decide +kernel
theorem d10_11 : decode prog_109_method_2_code 11 = .ok (.iload_n 2, 1) := by decide +kernel
theorem d10_12 : decode prog_109_method_2_code 12 = .ok (.invokevirtual 26, 3) := by decide +kernel
theorem pd_8 : parseMethodDescriptor "(I)V" = some ⟨[.int], none⟩ := by decide +kernel
theorem d10_15 : decode prog_109_method_2_code 15 = .ok (.return_, 1) := by decide +kernel
theorem ef_10 (m : MethodId) (x0 : Addr) (x1 : Addr) (x2 : Int32) : entryFrame m #[(.ref x0), (.ref x1), (.int x2)] 3 = mkF m 0 #[.val (.ref x0), .val (.ref x1), .val (.int x2)] [] := by first | (simp [entryFrame, mkF, argsToLocals, Value.category]; done) | rfl
def Q10 (Z : State) (p0 : Addr) (p1 : Addr) (p2 : Int32) (d : Addr) (el : Addr) (kc : ClassId) (cnt : Int64) (ln : Int32) (h0 : Heap) (n0 : Nat) (v : Option Value) (h : Heap) (L : List Loc) : Prop := v = none ∧ Fr n0 L ∧ n0 ≤ h.size ∧ own_tc Z h n0 p0 d el kc (0 : Int64) p2 (16 : Int32) (fun i => if i = 16 then Value.ref p1 else (fun _ => Value.null) i)
set_option maxRecDepth 65536 in
set_option maxHeartbeats 40000000 in
theorem rm10 (l : Launch) (Z : State) (a0 : Array Value) (hw : ∀ d ∈ tables_1, d.before a0 Z = true) (ws : List Jvm.Cond) (p0 : Addr) (p1 : Addr) (p2 : Int32) (d : Addr) (el : Addr) (kc : ClassId) (cnt : Int64) (ln : Int32) (h0 : Heap) (n0 : Nat) (Z0 : n0 ≤ h0.size) (Htc : own_tc Z h0 n0 p0 d el kc cnt ln (0 : Int32) (fun _ => Value.null)) (E1 : Exa Z h0 p1 "java/lang/String") :
    MetFree l (⟨"com/example/arkivsmed/arkivsmed/xml/TextCount", "start", "(Ljava/lang/String;I)V"⟩ : MethodName) (head1 (Jvm.Cond.code (⟨"com/example/arkivsmed/arkivsmed/xml/TextCount", "start", "(Ljava/lang/String;I)V"⟩ : MethodName) prog_109_method_2_code 3 none :: ws) ({ frames := 3, cells := 0, slots := 0, locals := 42 } : Room)) (fun a U => a = #[(.ref p0), (.ref p1), (.int p2)] ∧ Z.Warmed39 U.vm ∧ U.heap = h0) (fun _ _ _ _ _ => True) (fun _ U o U' => ∃ v L, o = .returned v ∧ Q10 Z p0 p1 p2 d el kc cnt ln h0 n0 v U'.heap L ∧ FrameEnd U o U' L ({ frames := 3, cells := 0, slots := 0, locals := 42 } : Room).cells ({ frames := 3, cells := 0, slots := 0, locals := 42 } : Room).slots) := by
  refine MetFree.of_bodySF (plainFor_of_name pn_1) hisR ?_
  intro p e s m args below meth c s₁ Bd hml0 hP hK
  obtain ⟨rfl, hZ, hh⟩ := hP
  have hx := Bd.exec
  have hby := Bd.bytes
  have hml : c.maxLocals = 3 := hml0
  have hown : s.vm.findClass "com/example/arkivsmed/arkivsmed/xml/TextCount" = some m.cls := findClass_of_methodNamed Bd.named
  have hnm := (name_of_methodNamed Bd.named Bd.method).1
  have X0 : Stand p l e ({ frames := 3, cells := 0, slots := 0, locals := 42 } : Room) s m #[(.ref p0), (.ref p1), (.int p2)] below meth c s₁ [] 0 0 := Stand.of_body Bd
  have e0 : s₁.heap = h0 := by rw [← hh, Bd.state]; rfl
  have N0 := Fr.nil n0
  have pre0 : ∀ t, Steps p.tables e below (s₁.setTop (mkF m 0 #[.val (.ref p0), .val (.ref p1), .val (.int p2)] [])) t → Steps p.tables e below (s₁.setTop (entryFrame m #[(.ref p0), (.ref p1), (.int p2)] 3)) t := fun t k => castTop (ef_10 m p0 p1 p2) k
  obtain ⟨Et, Fo, Fc, Fl, Dq, ntd, nte, gt, OL⟩ := id Htc
  obtain ⟨Ed, Fe, Fh, Ft, Ad, Od, nde, gd, ge⟩ := id Dq
  have pre138 : ∀ t, Steps p.tables e below (s₁.setTop (mkF m 1 #[.val (.ref p0), .val (.ref p1), .val (.int p2)] [(.ref p0)])) t → Steps p.tables e below (s₁.setTop (entryFrame m #[(.ref p0), (.ref p1), (.int p2)] 3)) t := by
    intro t kont
    refine pre0 t ?_
    show Steps p.tables e below (s₁.setTop (mkF m 0 #[.val (.ref p0), .val (.ref p1), .val (.int p2)] [])) _
    refine XS.aloadN X0.here hx rfl (hb hby d10_0) rfl rfl ?_
    exact kont
  obtain ⟨T139, X139, e139, st139⟩ := getF X0 hx hZ hown (host := "") (Or.inl (hw _ (List.mem_of_getElem? (i := 27) rfl))) Via.refl e0 Fo (g := (mkF m 1 #[.val (.ref p0), .val (.ref p1), .val (.int p2)] [(.ref p0)])) rfl rfl (hb hby d10_1)
  have pre140 : ∀ t, Steps p.tables e below (T139.setTop (mkF m 4 #[.val (.ref p0), .val (.ref p1), .val (.int p2)] [(.ref d)])) t → Steps p.tables e below (s₁.setTop (entryFrame m #[(.ref p0), (.ref p1), (.int p2)] 3)) t := fun t kont => pre138 t (st139 _ kont)
  have pre141 : ∀ t, Steps p.tables e below (T139.setTop (mkF m 5 #[.val (.ref p0), .val (.ref p1), .val (.int p2)] [(.ref p1), (.ref d)])) t → Steps p.tables e below (s₁.setTop (entryFrame m #[(.ref p0), (.ref p1), (.int p2)] 3)) t := by
    intro t kont
    refine pre140 t ?_
    show Steps p.tables e below (T139.setTop (mkF m 4 #[.val (.ref p0), .val (.ref p1), .val (.int p2)] [(.ref d)])) _
    refine XS.aloadN X139.here hx rfl (hb hby d10_4) rfl rfl ?_
    exact kont
  obtain ⟨cq142, kq142, q142a, q142b, q142c⟩ := isOf hZ e139 Ed
  obtain ⟨_, _, ⟨T142, L142, k142, n142⟩, -, X142, ⟨Lc142, hQ142, l142, y142, z142⟩, st142⟩ := X139.interfaceBack hx (xi := (⟨"java/util/Deque", "push", "(Ljava/lang/Object;)V"⟩ : MethodName)) (y := (⟨"java/util/ArrayDeque", "push", "(Ljava/lang/Object;)V"⟩ : MethodName)) hown (mvT hZ (hw _ (List.mem_of_getElem? (i := 68) rfl))) (mvT hZ (hw _ (List.mem_of_getElem? (i := 69) rfl))) (mvT hZ (hw _ (List.mem_of_getElem? (i := 70) rfl))) (mvT hZ (hw _ (List.mem_of_getElem? (i := 71) rfl))) (mvT hZ (hw _ (List.mem_of_getElem? (i := 72) rfl))) (mvT hZ (hw _ (List.mem_of_getElem? (i := 73) rfl))) (mvT hZ (hw _ (List.mem_of_getElem? (i := 74) rfl))) (mvT hZ (hw _ (List.mem_of_getElem? (i := 75) rfl))) (by decide) (backOf (W := 0) (rm11 l Z a0 hw [] d p1 el kc  h0 n0 Z0 ⟨Ed, Fe, Fh, Ft, Ad, Od, nde, gd, ge⟩ E1) hZ (hw _ (List.mem_of_getElem? (i := 76) rfl)) (hw _ (List.mem_of_getElem? (i := 12) rfl)) (by decide) (by decide)) q142a q142b q142c (g := (mkF m 5 #[.val (.ref p0), .val (.ref p1), .val (.int p2)] [(.ref p1), (.ref d)])) rfl (by rw [hml]; rfl) (Steps.refl _) (argsL := [(.ref p1)]) (rest := []) (lenOf pd_5 rfl) rfl (by show 2 * 0 + _ ≤ _; exact Nat.le_of_eq rfl) (hb hby d10_5) (fun _ _ => ⟨rfl, e139, (by decide : 0 + 0 ≤ _), (by decide : 0 + 0 ≤ _)⟩)
  dsimp only [Pt.U, Pt.locs, Pt.cells, Pt.slots] at X142 l142 y142 z142 st142 hQ142
  subst l142 y142 z142
  obtain ⟨rfl, N142q, K142, D142⟩ := hQ142
  have N142 := Fr.app N0 N142q
  have f142_0 := Exa.keep Et K142
  have f142_1 := Fld.keep Fo K142 (ninS ntd (ninS nte nin0))
  have f142_2 := Fld.keep Fc K142 (ninS ntd (ninS nte nin0))
  have f142_3 := Fld.keep Fl K142 (ninS ntd (ninS nte nin0))
  have f142_4 := Old.keep OL K142 (allS gd (allS ge all0))
  have f142_9 := Exa.keep E1 K142
  have Z142 : n0 ≤ T142.heap.size := Nat.le_trans Z0 (K142).1
  obtain ⟨Ed142, Fe142, Fh142, Ft142, Ad142, Od142, nde142, gd142, ge142⟩ := id D142
  have pre143 : ∀ t, Steps p.tables e below (T142.setTop (mkF m 10 #[.val (.ref p0), .val (.ref p1), .val (.int p2)] [])) t → Steps p.tables e below (s₁.setTop (entryFrame m #[(.ref p0), (.ref p1), (.int p2)] 3)) t := fun t kont => pre141 t (st142.trans kont)
  have pre144 : ∀ t, Steps p.tables e below (T142.setTop (mkF m 12 #[.val (.ref p0), .val (.ref p1), .val (.int p2)] [(.int p2), (.ref p0)])) t → Steps p.tables e below (s₁.setTop (entryFrame m #[(.ref p0), (.ref p1), (.int p2)] 3)) t := by
    intro t kont
    refine pre143 t ?_
    show Steps p.tables e below (T142.setTop (mkF m 10 #[.val (.ref p0), .val (.ref p1), .val (.int p2)] [])) _
    refine XS.aloadN X142.here hx rfl (hb hby d10_10) rfl rfl ?_
    show Steps p.tables e below (T142.setTop (mkF m 11 #[.val (.ref p0), .val (.ref p1), .val (.int p2)] [(.ref p0)])) _
    refine XS.iloadN X142.here hx rfl (hb hby d10_11) rfl ?_
    exact kont
  obtain ⟨cq145, q145, q145'⟩ := (f142_0).cell
  obtain ⟨_, _, ⟨T145, L145, k145, n145⟩, -, X145, ⟨Lc145, hQ145, l145, y145, z145⟩, st145⟩ := X142.privateBack hx (y := (⟨"com/example/arkivsmed/arkivsmed/xml/TextCount", "restart", "(I)V"⟩ : MethodName)) hown (mvT hZ (hw _ (List.mem_of_getElem? (i := 90) rfl))) (mvT hZ (hw _ (List.mem_of_getElem? (i := 91) rfl))) (own_selp (by decide) (mvT hZ (hw _ (List.mem_of_getElem? (i := 2) rfl))) (mvP hZ (hw _ (List.mem_of_getElem? (i := 92) rfl))) (mvT hZ (hw _ (List.mem_of_getElem? (i := 91) rfl)))) (Cond.privateMethod_at (mvP hZ (hw _ (List.mem_of_getElem? (i := 92) rfl)) (args := #[]))) (mvT hZ (hw _ (List.mem_of_getElem? (i := 93) rfl))) (by decide) (backOf (W := 0) (rm14 l Z a0 hw [] p0 p2 d el kc cnt ln (16 : Int32) (fun i => if i = 16 then Value.ref p1 else (fun _ => Value.null) i)  T142.heap n0 Z142 ⟨f142_0, f142_1, f142_2, f142_3, ⟨Ed142, Fe142, Fh142, Ft142, Ad142, Od142, nde142, gd142, ge142⟩, ntd, nte, gt, f142_4⟩) hZ (hw _ (List.mem_of_getElem? (i := 93) rfl)) (hw _ (List.mem_of_getElem? (i := 3) rfl)) (by decide) (by decide)) (g := (mkF m 12 #[.val (.ref p0), .val (.ref p1), .val (.int p2)] [(.int p2), (.ref p0)])) rfl (by rw [hml]; rfl) (Steps.refl _) (a := p0) q145 q145' (argsL := [(.int p2)]) (rest := []) (lenOf pd_8 rfl) rfl (by show 2 * 0 + _ ≤ _; exact Nat.le_of_eq rfl) (hb hby d10_12) (fun _ _ => ⟨rfl, rfl, (by decide : 0 + 0 ≤ _), (by decide : 0 + 0 ≤ _)⟩)
  dsimp only [Pt.U, Pt.locs, Pt.cells, Pt.slots] at X145 l145 y145 z145 st145 hQ145
  subst l145 y145 z145
  obtain ⟨rfl, N145q, Z145, H145⟩ := hQ145
  have N145 := Fr.app N142 N145q
  obtain ⟨Et145, Fo145, Fc145, Fl145, Dq145, ntd145, nte145, gt145, OL145⟩ := id H145
  obtain ⟨Ed145, Fe145, Fh145, Ft145, Ad145, Od145, nde145, gd145, ge145⟩ := id Dq145
  have pre146 : ∀ t, Steps p.tables e below (T145.setTop (mkF m 15 #[.val (.ref p0), .val (.ref p1), .val (.int p2)] [])) t → Steps p.tables e below (s₁.setTop (entryFrame m #[(.ref p0), (.ref p1), (.int p2)] 3)) t := fun t kont => pre144 t (st145.trans kont)
  obtain ⟨fs, hr, hrun, hended, hW, hsame⟩ := X145.leave (v := none) (fun _ => rfl) (BodyLoose.notSynchronized Bd)
  refine ⟨_, _, pre146 _ ?_, hrun, hended, _, _, rfl, ?_, ⟨_, rfl⟩, hW, hsame.mono (by decide) (by decide)⟩
  · exact X145.returnOut hx Bd.returns (hb hby d10_15) hr
  · show Q10 Z p0 p1 p2 d el kc cnt ln h0 n0 _ T145.heap _
    exact ⟨rfl, N145, Z145, ⟨Et145, Fo145, Fc145, Fl145, ⟨Ed145, Fe145, Fh145, Ft145, Ad145, Od145, nde145, gd145, ge145⟩, ntd145, nte145, gt145, OL145⟩⟩
theorem d16_0 : decode prog_109_method_3_code 0 = .ok (.aload_n 0, 1) := by decide +kernel
theorem d16_1 : decode prog_109_method_3_code 1 = .ok (.getfield 10, 3) := by decide +kernel
theorem d16_4 : decode prog_109_method_3_code 4 = .ok (.invokeinterface 30 1, 5) := by decide +kernel
theorem d16_9 : decode prog_109_method_3_code 9 = .ok (.pop, 1) := by decide +kernel
theorem d16_10 : decode prog_109_method_3_code 10 = .ok (.aload_n 0, 1) := by decide +kernel
theorem d16_11 : decode prog_109_method_3_code 11 = .ok (.iload_n 1, 1) := by decide +kernel
theorem d16_12 : decode prog_109_method_3_code 12 = .ok (.invokevirtual 26, 3) := by decide +kernel
theorem d16_15 : decode prog_109_method_3_code 15 = .ok (.return_, 1) := by decide +kernel
theorem ef_16 (m : MethodId) (x0 : Addr) (x1 : Int32) : entryFrame m #[(.ref x0), (.int x1)] 2 = mkF m 0 #[.val (.ref x0), .val (.int x1)] [] := by first | (simp [entryFrame, mkF, argsToLocals, Value.category]; done) | rfl
def Q16 (Z : State) (p0 : Addr) (p1 : Int32) (d : Addr) (el : Addr) (kc : ClassId) (cnt : Int64) (ln : Int32) (y : Addr) (h0 : Heap) (n0 : Nat) (v : Option Value) (h : Heap) (L : List Loc) : Prop := v = none ∧ Fr n0 L ∧ n0 ≤ h.size ∧ own_tc Z h n0 p0 d el kc (0 : Int64) p1 (0 : Int32) (fun i => if i = 16 then Value.null else (fun i => if i = 16 then Value.ref y else (fun _ => Value.null) i) i)
set_option maxRecDepth 65536 in
set_option maxHeartbeats 40000000 in
theorem rm16 (l : Launch) (Z : State) (a0 : Array Value) (hw : ∀ d ∈ tables_1, d.before a0 Z = true) (ws : List Jvm.Cond) (p0 : Addr) (p1 : Int32) (d : Addr) (el : Addr) (kc : ClassId) (cnt : Int64) (ln : Int32) (y : Addr) (h0 : Heap) (n0 : Nat) (Z0 : n0 ≤ h0.size) (Htc : own_tc Z h0 n0 p0 d el kc cnt ln (16 : Int32) (fun i => if i = 16 then Value.ref y else (fun _ => Value.null) i)) :
    MetFree l (⟨"com/example/arkivsmed/arkivsmed/xml/TextCount", "end", "(I)V"⟩ : MethodName) (head1 (Jvm.Cond.code (⟨"com/example/arkivsmed/arkivsmed/xml/TextCount", "end", "(I)V"⟩ : MethodName) prog_109_method_3_code 2 none :: ws) ({ frames := 4, cells := 0, slots := 0, locals := 54 } : Room)) (fun a U => a = #[(.ref p0), (.int p1)] ∧ Z.Warmed39 U.vm ∧ U.heap = h0) (fun _ _ _ _ _ => True) (fun _ U o U' => ∃ v L, o = .returned v ∧ Q16 Z p0 p1 d el kc cnt ln y h0 n0 v U'.heap L ∧ FrameEnd U o U' L ({ frames := 4, cells := 0, slots := 0, locals := 54 } : Room).cells ({ frames := 4, cells := 0, slots := 0, locals := 54 } : Room).slots) := by
  refine MetFree.of_bodySF (plainFor_of_name pn_1) hisR ?_
  intro p e s m args below meth c s₁ Bd hml0 hP hK
  obtain ⟨rfl, hZ, hh⟩ := hP
  have hx := Bd.exec
  have hby := Bd.bytes
  have hml : c.maxLocals = 2 := hml0
  have hown : s.vm.findClass "com/example/arkivsmed/arkivsmed/xml/TextCount" = some m.cls := findClass_of_methodNamed Bd.named
  have hnm := (name_of_methodNamed Bd.named Bd.method).1
  have X0 : Stand p l e ({ frames := 4, cells := 0, slots := 0, locals := 54 } : Room) s m #[(.ref p0), (.int p1)] below meth c s₁ [] 0 0 := Stand.of_body Bd
  have e0 : s₁.heap = h0 := by rw [← hh, Bd.state]; rfl
  have N0 := Fr.nil n0
  have pre0 : ∀ t, Steps p.tables e below (s₁.setTop (mkF m 0 #[.val (.ref p0), .val (.int p1)] [])) t → Steps p.tables e below (s₁.setTop (entryFrame m #[(.ref p0), (.int p1)] 2)) t := fun t k => castTop (ef_16 m p0 p1) k
  obtain ⟨Et, Fo, Fc, Fl, Dq, ntd, nte, gt, OL⟩ := id Htc
  obtain ⟨Ed, Fe, Fh, Ft, Ad, Od, nde, gd, ge⟩ := id Dq
  have pre147 : ∀ t, Steps p.tables e below (s₁.setTop (mkF m 1 #[.val (.ref p0), .val (.int p1)] [(.ref p0)])) t → Steps p.tables e below (s₁.setTop (entryFrame m #[(.ref p0), (.int p1)] 2)) t := by
    intro t kont
    refine pre0 t ?_
    show Steps p.tables e below (s₁.setTop (mkF m 0 #[.val (.ref p0), .val (.int p1)] [])) _
    refine XS.aloadN X0.here hx rfl (hb hby d16_0) rfl rfl ?_
    exact kont
  obtain ⟨T148, X148, e148, st148⟩ := getF X0 hx hZ hown (host := "") (Or.inl (hw _ (List.mem_of_getElem? (i := 27) rfl))) Via.refl e0 Fo (g := (mkF m 1 #[.val (.ref p0), .val (.int p1)] [(.ref p0)])) rfl rfl (hb hby d16_1)
  have pre149 : ∀ t, Steps p.tables e below (T148.setTop (mkF m 4 #[.val (.ref p0), .val (.int p1)] [(.ref d)])) t → Steps p.tables e below (s₁.setTop (entryFrame m #[(.ref p0), (.int p1)] 2)) t := fun t kont => pre147 t (st148 _ kont)
  obtain ⟨cq150, kq150, q150a, q150b, q150c⟩ := isOf hZ e148 Ed
  obtain ⟨_, _, ⟨T150, L150, k150, n150⟩, -, X150, ⟨Lc150, hQ150, l150, y150, z150⟩, st150⟩ := X148.interfaceBack hx (xi := (⟨"java/util/Deque", "pop", "()Ljava/lang/Object;"⟩ : MethodName)) (y := (⟨"java/util/ArrayDeque", "pop", "()Ljava/lang/Object;"⟩ : MethodName)) hown (mvT hZ (hw _ (List.mem_of_getElem? (i := 104) rfl))) (mvT hZ (hw _ (List.mem_of_getElem? (i := 105) rfl))) (mvT hZ (hw _ (List.mem_of_getElem? (i := 106) rfl))) (mvT hZ (hw _ (List.mem_of_getElem? (i := 107) rfl))) (mvT hZ (hw _ (List.mem_of_getElem? (i := 108) rfl))) (mvT hZ (hw _ (List.mem_of_getElem? (i := 109) rfl))) (mvT hZ (hw _ (List.mem_of_getElem? (i := 110) rfl))) (mvT hZ (hw _ (List.mem_of_getElem? (i := 75) rfl))) (by decide) (backOf (W := 0) (rm17 l Z a0 hw [] d el kc y  h0 n0 Z0 ⟨Ed, Fe, Fh, Ft, Ad, Od, nde, gd, ge⟩) hZ (hw _ (List.mem_of_getElem? (i := 111) rfl)) (hw _ (List.mem_of_getElem? (i := 12) rfl)) (by decide) (by decide)) q150a q150b q150c (g := (mkF m 4 #[.val (.ref p0), .val (.int p1)] [(.ref d)])) rfl (by rw [hml]; rfl) (Steps.refl _) (argsL := []) (rest := []) (lenOf pd_7 rfl) rfl (by show 2 * 0 + _ ≤ _; exact Nat.le_of_eq rfl) (hb hby d16_4) (fun _ _ => ⟨rfl, e148, (by decide : 0 + 0 ≤ _), (by decide : 0 + 0 ≤ _)⟩)
  dsimp only [Pt.U, Pt.locs, Pt.cells, Pt.slots] at X150 l150 y150 z150 st150 hQ150
  subst l150 y150 z150
  obtain ⟨rfl, N150q, K150, D150⟩ := hQ150
  have N150 := Fr.app N0 N150q
  have f150_0 := Exa.keep Et K150
  have f150_1 := Fld.keep Fo K150 (ninS ntd (ninS nte nin0))
  have f150_2 := Fld.keep Fc K150 (ninS ntd (ninS nte nin0))
  have f150_3 := Fld.keep Fl K150 (ninS ntd (ninS nte nin0))
  have f150_4 := Old.keep OL K150 (allS gd (allS ge all0))
  have Z150 : n0 ≤ T150.heap.size := Nat.le_trans Z0 (K150).1
  obtain ⟨Ed150, Fe150, Fh150, Ft150, Ad150, Od150, nde150, gd150, ge150⟩ := id D150
  have pre151 : ∀ t, Steps p.tables e below (T150.setTop (mkF m 9 #[.val (.ref p0), .val (.int p1)] [(.ref y)])) t → Steps p.tables e below (s₁.setTop (entryFrame m #[(.ref p0), (.int p1)] 2)) t := fun t kont => pre149 t (st150.trans kont)
  have pre152 : ∀ t, Steps p.tables e below (T150.setTop (mkF m 12 #[.val (.ref p0), .val (.int p1)] [(.int p1), (.ref p0)])) t → Steps p.tables e below (s₁.setTop (entryFrame m #[(.ref p0), (.int p1)] 2)) t := by
    intro t kont
    refine pre151 t ?_
    show Steps p.tables e below (T150.setTop (mkF m 9 #[.val (.ref p0), .val (.int p1)] [(.ref y)])) _
    refine XS.pop X150.here hx rfl (hb hby d16_9) rfl rfl ?_
    show Steps p.tables e below (T150.setTop (mkF m 10 #[.val (.ref p0), .val (.int p1)] [])) _
    refine XS.aloadN X150.here hx rfl (hb hby d16_10) rfl rfl ?_
    show Steps p.tables e below (T150.setTop (mkF m 11 #[.val (.ref p0), .val (.int p1)] [(.ref p0)])) _
    refine XS.iloadN X150.here hx rfl (hb hby d16_11) rfl ?_
    exact kont
  obtain ⟨cq153, q153, q153'⟩ := (f150_0).cell
  obtain ⟨_, _, ⟨T153, L153, k153, n153⟩, -, X153, ⟨Lc153, hQ153, l153, y153, z153⟩, st153⟩ := X150.privateBack hx (y := (⟨"com/example/arkivsmed/arkivsmed/xml/TextCount", "restart", "(I)V"⟩ : MethodName)) hown (mvT hZ (hw _ (List.mem_of_getElem? (i := 90) rfl))) (mvT hZ (hw _ (List.mem_of_getElem? (i := 91) rfl))) (own_selp (by decide) (mvT hZ (hw _ (List.mem_of_getElem? (i := 2) rfl))) (mvP hZ (hw _ (List.mem_of_getElem? (i := 92) rfl))) (mvT hZ (hw _ (List.mem_of_getElem? (i := 91) rfl)))) (Cond.privateMethod_at (mvP hZ (hw _ (List.mem_of_getElem? (i := 92) rfl)) (args := #[]))) (mvT hZ (hw _ (List.mem_of_getElem? (i := 93) rfl))) (by decide) (backOf (W := 0) (rm14 l Z a0 hw [] p0 p1 d el kc cnt ln (0 : Int32) (fun i => if i = 16 then Value.null else (fun i => if i = 16 then Value.ref y else (fun _ => Value.null) i) i)  T150.heap n0 Z150 ⟨f150_0, f150_1, f150_2, f150_3, ⟨Ed150, Fe150, Fh150, Ft150, Ad150, Od150, nde150, gd150, ge150⟩, ntd, nte, gt, f150_4⟩) hZ (hw _ (List.mem_of_getElem? (i := 93) rfl)) (hw _ (List.mem_of_getElem? (i := 3) rfl)) (by decide) (by decide)) (g := (mkF m 12 #[.val (.ref p0), .val (.int p1)] [(.int p1), (.ref p0)])) rfl (by rw [hml]; rfl) (Steps.refl _) (a := p0) q153 q153' (argsL := [(.int p1)]) (rest := []) (lenOf pd_8 rfl) rfl (by show 2 * 0 + _ ≤ _; exact Nat.le_of_eq rfl) (hb hby d16_12) (fun _ _ => ⟨rfl, rfl, (by decide : 0 + 0 ≤ _), (by decide : 0 + 0 ≤ _)⟩)
  dsimp only [Pt.U, Pt.locs, Pt.cells, Pt.slots] at X153 l153 y153 z153 st153 hQ153
  subst l153 y153 z153
  obtain ⟨rfl, N153q, Z153, H153⟩ := hQ153
  have N153 := Fr.app N150 N153q
  obtain ⟨Et153, Fo153, Fc153, Fl153, Dq153, ntd153, nte153, gt153, OL153⟩ := id H153
  obtain ⟨Ed153, Fe153, Fh153, Ft153, Ad153, Od153, nde153, gd153, ge153⟩ := id Dq153
  have pre154 : ∀ t, Steps p.tables e below (T153.setTop (mkF m 15 #[.val (.ref p0), .val (.int p1)] [])) t → Steps p.tables e below (s₁.setTop (entryFrame m #[(.ref p0), (.int p1)] 2)) t := fun t kont => pre152 t (st153.trans kont)
  obtain ⟨fs, hr, hrun, hended, hW, hsame⟩ := X153.leave (v := none) (fun _ => rfl) (BodyLoose.notSynchronized Bd)
  refine ⟨_, _, pre154 _ ?_, hrun, hended, _, _, rfl, ?_, ⟨_, rfl⟩, hW, hsame.mono (by decide) (by decide)⟩
  · exact X153.returnOut hx Bd.returns (hb hby d16_15) hr
  · show Q16 Z p0 p1 d el kc cnt ln y h0 n0 _ T153.heap _
    exact ⟨rfl, N153, Z153, ⟨Et153, Fo153, Fc153, Fl153, ⟨Ed153, Fe153, Fh153, Ft153, Ad153, Od153, nde153, gd153, ge153⟩, ntd153, nte153, gt153, OL153⟩⟩
theorem own_ch (x : Int32) : ¬ (255 : Int32) < ((x &&& (255 : Int32)).toUInt32.toUInt16.toUInt32.toInt32) := by
  have e := c_mask x 255 8 (by decide) (by decide)
  have q := c_i2c (x &&& (255 : Int32))
  rw [Int32.lt_iff_toInt_lt]
  have o : (255 : Int32).toInt = 255 := rfl
  omega
theorem own_z (x : Int64) : (0 : Int64) + x = x := Int64.zero_add x
theorem pd_9 : parseMethodDescriptor "(I)Z" = some ⟨[.int], some .boolean⟩ := by decide +kernel
theorem pd_10 : parseMethodDescriptor "()I" = some ⟨[], some .int⟩ := by decide +kernel
theorem pd_11 : parseMethodDescriptor "(C)Ljava/lang/String;" = some ⟨[.char], some (.object "java/lang/String")⟩ := by decide +kernel
theorem pd_12 : parseMethodDescriptor "(Ljava/lang/String;I)V" = some ⟨[(.object "java/lang/String"), .int], none⟩ := by decide +kernel
theorem pn_0 : plainName "com/example/arkivsmed/arkivsmed/xml/TextCountAddPinLaw" = true := by first | (simp [plainName, overriddenIn]; done) | decide +kernel
theorem ef_0 (m : MethodId) (x0 : Int32) (x1 : Int32) (x2 : Int32) (x3 : Int32) (x4 : Int32) : entryFrame m #[(.int x0), (.int x1), (.int x2), (.int x3), (.int x4)] maxLocals = mkF m 0 #[.val (.int x0), .val (.int x1), .val (.int x2), .val (.int x3), .val (.int x4), .unset, .unset, .unset, .unset, .unset, .unset, .unset] [] := by first | (simp [entryFrame, mkF, argsToLocals, Value.category, maxLocals]; done) | rfl
def Q0 (Z : State) (p0 : Int32) (p1 : Int32) (p2 : Int32) (p3 : Int32) (p4 : Int32) (w : Int32) (h0 : Heap) (n0 : Nat) (v : Option Value) (h : Heap) (L : List Loc) : Prop := v = some (.int (1 : Int32)) ∧ Fr n0 L
set_option maxRecDepth 65536 in
set_option maxHeartbeats 40000000 in
theorem rm0 (l : Launch) (Z : State) (a0 : Array Value) (hw : ∀ d ∈ tables_1, d.before a0 Z = true) (ws : List Jvm.Cond) (p0 : Int32) (p1 : Int32) (p2 : Int32) (p3 : Int32) (p4 : Int32) (w : Int32) (h0 : Heap) (n0 : Nat) (Z0 : n0 ≤ h0.size) (OL : Old Z n0 h0) (Sc : Sta Z Z.heap "java/lang/String" "COMPACT_STRINGS" "Z" (.int w)) (hw0 : ¬ w = (0 : Int32)) :
    MetFree l x (head1 (Jvm.Cond.code x code maxLocals ret :: ws) room_1) (fun a U => a = #[(.int p0), (.int p1), (.int p2), (.int p3), (.int p4)] ∧ Z.Warmed39 U.vm ∧ U.heap = h0) (fun _ _ _ _ _ => True) (fun _ U o U' => ∃ v L, o = .returned v ∧ Q0 Z p0 p1 p2 p3 p4 w h0 n0 v U'.heap L ∧ FrameEnd U o U' L room_1.cells room_1.slots) := by
  refine MetFree.of_bodySF (plainFor_of_name pn_0) hisR ?_
  intro p e s m args below meth c s₁ Bd hml0 hP hK
  obtain ⟨rfl, hZ, hh⟩ := hP
  have hx := Bd.exec
  have hby := Bd.bytes
  have hml : c.maxLocals = 12 := hml0
  have hown : s.vm.findClass "com/example/arkivsmed/arkivsmed/xml/TextCountAddPinLaw" = some m.cls := findClass_of_methodNamed Bd.named
  have hnm := (name_of_methodNamed Bd.named Bd.method).1
  have X0 : Stand p l e room_1 s m #[(.int p0), (.int p1), (.int p2), (.int p3), (.int p4)] below meth c s₁ [] 0 0 := Stand.of_body Bd
  have e0 : s₁.heap = h0 := by rw [← hh, Bd.state]; rfl
  have N0 := Fr.nil n0
  have pre0 : ∀ t, Steps p.tables e below (s₁.setTop (mkF m 0 #[.val (.int p0), .val (.int p1), .val (.int p2), .val (.int p3), .val (.int p4), .unset, .unset, .unset, .unset, .unset, .unset, .unset] [])) t → Steps p.tables e below (s₁.setTop (entryFrame m #[(.int p0), (.int p1), (.int p2), (.int p3), (.int p4)] maxLocals)) t := fun t k => castTop (ef_0 m p0 p1 p2 p3 p4) k
  have pre155 : ∀ t, Steps p.tables e below (s₁.setTop (mkF m 5 #[.val (.int p0), .val (.int p1), .val (.int p2), .val (.int p3), .val (.int p4), .val (.long (1048576 : Int64)), .second, .unset, .unset, .unset, .unset, .unset] [])) t → Steps p.tables e below (s₁.setTop (entryFrame m #[(.int p0), (.int p1), (.int p2), (.int p3), (.int p4)] maxLocals)) t := by
    intro t kont
    refine pre0 t ?_
    show Steps p.tables e below (s₁.setTop (mkF m 0 #[.val (.int p0), .val (.int p1), .val (.int p2), .val (.int p3), .val (.int p4), .unset, .unset, .unset, .unset, .unset, .unset, .unset] [])) _
    refine X0.ldc2Long hx hown (mvT hZ (hw _ (List.mem_of_getElem? (i := 0) rfl))) (g := (mkF m 0 #[.val (.int p0), .val (.int p1), .val (.int p2), .val (.int p3), .val (.int p4), .unset, .unset, .unset, .unset, .unset, .unset, .unset] [])) rfl (hb hby at_0) _ ?_
    show Steps p.tables e below (s₁.setTop (mkF m 3 #[.val (.int p0), .val (.int p1), .val (.int p2), .val (.int p3), .val (.int p4), .unset, .unset, .unset, .unset, .unset, .unset, .unset] [(.long (1048576 : Int64))])) _
    refine XS.lstore X0.here hx rfl (hb hby at_3) rfl (l' := #[.val (.int p0), .val (.int p1), .val (.int p2), .val (.int p3), .val (.int p4), .val (.long (1048576 : Int64)), .second, .unset, .unset, .unset, .unset, .unset]) rfl ?_
    exact kont
  obtain ⟨T156, h156, X156, e156, E156, A156, D156, -, st156⟩ := newO X0 hx hZ hown (hw _ (List.mem_of_getElem? (i := 1) rfl)) (hw _ (List.mem_of_getElem? (i := 2) rfl)) (hw _ (List.mem_of_getElem? (i := 3) rfl)) e0 (g := (mkF m 5 #[.val (.int p0), .val (.int p1), .val (.int p2), .val (.int p3), .val (.int p4), .val (.long (1048576 : Int64)), .second, .unset, .unset, .unset, .unset, .unset] [])) rfl (hb hby at_5) (by decide) (by decide)
  obtain ⟨b5, g156⟩ : ∃ z, z = h0.size := ⟨_, rfl⟩
  rw [← g156] at A156 D156 st156
  have g_b5 : n0 ≤ b5 := Nat.le_trans Z0 (Nat.le_of_eq g156.symm)
  have f156_0 := OL.ext E156
  have F156_open : Fld Z h156 b5 "com/example/arkivsmed/arkivsmed/xml/TextCount" "open" "Ljava/util/Deque;" .null := D156 (Or.inr (hw _ (List.mem_of_getElem? (i := 28) rfl))) (ty := (.object "java/util/Deque")) (by decide)
  have F156_line : Fld Z h156 b5 "com/example/arkivsmed/arkivsmed/xml/TextCount" "line" "I" (.int (0 : Int32)) := D156 (Or.inl (hw _ (List.mem_of_getElem? (i := 30) rfl))) (ty := .int) (by decide)
  have F156_count : Fld Z h156 b5 "com/example/arkivsmed/arkivsmed/xml/TextCount" "count" "J" (.long (0 : Int64)) := D156 (Or.inl (hw _ (List.mem_of_getElem? (i := 37) rfl))) (ty := .long) (by decide)
  have Z156 : n0 ≤ h156.size := Nat.le_trans Z0 E156.1
  have pre157 : ∀ t, Steps p.tables e below (T156.setTop (mkF m 8 #[.val (.int p0), .val (.int p1), .val (.int p2), .val (.int p3), .val (.int p4), .val (.long (1048576 : Int64)), .second, .unset, .unset, .unset, .unset, .unset] [(.ref b5)])) t → Steps p.tables e below (s₁.setTop (entryFrame m #[(.int p0), (.int p1), (.int p2), (.int p3), (.int p4)] maxLocals)) t := fun t kont => pre155 t (st156 _ kont)
  have pre158 : ∀ t, Steps p.tables e below (T156.setTop (mkF m 9 #[.val (.int p0), .val (.int p1), .val (.int p2), .val (.int p3), .val (.int p4), .val (.long (1048576 : Int64)), .second, .unset, .unset, .unset, .unset, .unset] [(.ref b5), (.ref b5)])) t → Steps p.tables e below (s₁.setTop (entryFrame m #[(.int p0), (.int p1), (.int p2), (.int p3), (.int p4)] maxLocals)) t := by
    intro t kont
    refine pre157 t ?_
    show Steps p.tables e below (T156.setTop (mkF m 8 #[.val (.int p0), .val (.int p1), .val (.int p2), .val (.int p3), .val (.int p4), .val (.long (1048576 : Int64)), .second, .unset, .unset, .unset, .unset, .unset] [(.ref b5)])) _
    refine XS.dup X156.here hx rfl (hb hby at_8) rfl rfl ?_
    exact kont
  obtain ⟨_, _, ⟨T159, L159, k159, n159⟩, -, X159, ⟨Lc159, hQ159, l159, y159, z159⟩, st159⟩ := X156.specialBack hx (y := (⟨"com/example/arkivsmed/arkivsmed/xml/TextCount", "<init>", "()V"⟩ : MethodName)) rfl hown (mvT hZ (hw _ (List.mem_of_getElem? (i := 4) rfl))) (mvT hZ (hw _ (List.mem_of_getElem? (i := 5) rfl))) (mvT hZ (hw _ (List.mem_of_getElem? (i := 6) rfl))) (by decide) (backOf (W := 1) (rm1 l Z a0 hw [] b5  h156 n0 Z156 A156 F156_open F156_count F156_line g_b5 f156_0) hZ (hw _ (List.mem_of_getElem? (i := 6) rfl)) (hw _ (List.mem_of_getElem? (i := 3) rfl)) (by decide) (by decide)) (g := (mkF m 9 #[.val (.int p0), .val (.int p1), .val (.int p2), .val (.int p3), .val (.int p4), .val (.long (1048576 : Int64)), .second, .unset, .unset, .unset, .unset, .unset] [(.ref b5), (.ref b5)])) rfl (by rw [hml]; rfl) (Steps.refl _) (a := b5) (argsL := []) (rest := [(.ref b5)]) (lenOf pd_0 rfl) rfl (by show 2 * 0 + _ ≤ _; exact Nat.le_of_eq rfl) (hb hby at_9) (fun _ _ => ⟨rfl, e156, (by decide : 1 + 2 ≤ _), (by decide : 3 + 20 ≤ _)⟩)
  dsimp only [Pt.U, Pt.locs, Pt.cells, Pt.slots] at X159 l159 y159 z159 st159 hQ159
  subst l159 y159 z159
  obtain ⟨rfl, N159q, Z159, d, el, kc, H159⟩ := hQ159
  have N159 := Fr.app N0 N159q
  obtain ⟨Et159, Fo159, Fc159, Fl159, Dq159, ntd159, nte159, gt159, OL159⟩ := id H159
  obtain ⟨Ed159, Fe159, Fh159, Ft159, Ad159, Od159, nde159, gd159, ge159⟩ := id Dq159
  have pre160 : ∀ t, Steps p.tables e below (T159.setTop (mkF m 12 #[.val (.int p0), .val (.int p1), .val (.int p2), .val (.int p3), .val (.int p4), .val (.long (1048576 : Int64)), .second, .unset, .unset, .unset, .unset, .unset] [(.ref b5)])) t → Steps p.tables e below (s₁.setTop (entryFrame m #[(.int p0), (.int p1), (.int p2), (.int p3), (.int p4)] maxLocals)) t := fun t kont => pre158 t (st159.trans kont)
  have pre161 : ∀ t, Steps p.tables e below (T159.setTop (mkF m 17 #[.val (.int p0), .val (.int p1), .val (.int p2), .val (.int p3), .val (.int p4), .val (.long (1048576 : Int64)), .second, .val (.ref b5), .unset, .unset, .unset, .unset] [(.int p0), (.ref b5)])) t → Steps p.tables e below (s₁.setTop (entryFrame m #[(.int p0), (.int p1), (.int p2), (.int p3), (.int p4)] maxLocals)) t := by
    intro t kont
    refine pre160 t ?_
    show Steps p.tables e below (T159.setTop (mkF m 12 #[.val (.int p0), .val (.int p1), .val (.int p2), .val (.int p3), .val (.int p4), .val (.long (1048576 : Int64)), .second, .unset, .unset, .unset, .unset, .unset] [(.ref b5)])) _
    refine XS.astore X159.here hx rfl (hb hby at_12) rfl rfl (l' := #[.val (.int p0), .val (.int p1), .val (.int p2), .val (.int p3), .val (.int p4), .val (.long (1048576 : Int64)), .second, .val (.ref b5), .unset, .unset, .unset, .unset]) rfl ?_
    show Steps p.tables e below (T159.setTop (mkF m 14 #[.val (.int p0), .val (.int p1), .val (.int p2), .val (.int p3), .val (.int p4), .val (.long (1048576 : Int64)), .second, .val (.ref b5), .unset, .unset, .unset, .unset] [])) _
    refine XS.aload X159.here hx rfl (hb hby at_14) rfl rfl ?_
    show Steps p.tables e below (T159.setTop (mkF m 16 #[.val (.int p0), .val (.int p1), .val (.int p2), .val (.int p3), .val (.int p4), .val (.long (1048576 : Int64)), .second, .val (.ref b5), .unset, .unset, .unset, .unset] [(.ref b5)])) _
    refine XS.iloadN X159.here hx rfl (hb hby at_16) rfl ?_
    exact kont
  obtain ⟨cq162, kq162, q162a, q162b, q162c⟩ := isOf hZ rfl Et159
  obtain ⟨_, _, ⟨T162, L162, k162, n162⟩, -, X162, ⟨Lc162, hQ162, l162, y162, z162⟩, st162⟩ := X159.virtualBack hx (y := (⟨"com/example/arkivsmed/arkivsmed/xml/TextCount", "add", "(I)Z"⟩ : MethodName)) (z := (⟨"com/example/arkivsmed/arkivsmed/xml/TextCount", "add", "(I)Z"⟩ : MethodName)) hown (mvT hZ (hw _ (List.mem_of_getElem? (i := 31) rfl))) (mvT hZ (hw _ (List.mem_of_getElem? (i := 32) rfl))) (notFace_of_selects (args := #[]) (mvT hZ (hw _ (List.mem_of_getElem? (i := 34) rfl)))) (mvT hZ (hw _ (List.mem_of_getElem? (i := 34) rfl))) (mvT hZ (hw _ (List.mem_of_getElem? (i := 33) rfl))) (by decide) (backOf (W := 0) (rm5 l Z a0 hw [] b5 p0 d el kc (0 : Int64) (1 : Int32) (0 : Int32) (fun _ => Value.null)  T159.heap n0 Z159 ⟨Et159, Fo159, Fc159, Fl159, ⟨Ed159, Fe159, Fh159, Ft159, Ad159, Od159, nde159, gd159, ge159⟩, ntd159, nte159, gt159, OL159⟩) hZ (hw _ (List.mem_of_getElem? (i := 35) rfl)) (hw _ (List.mem_of_getElem? (i := 3) rfl)) (by decide) (by decide)) q162a q162c (g := (mkF m 17 #[.val (.int p0), .val (.int p1), .val (.int p2), .val (.int p3), .val (.int p4), .val (.long (1048576 : Int64)), .second, .val (.ref b5), .unset, .unset, .unset, .unset] [(.int p0), (.ref b5)])) rfl (by rw [hml]; rfl) (Steps.refl _) (argsL := [(.int p0)]) (rest := []) (lenOf pd_9 rfl) rfl (by show 2 * 0 + _ ≤ _; exact Nat.le_of_eq rfl) (hb hby at_17) (fun _ _ => ⟨rfl, rfl, (by decide : 3 + 0 ≤ _), (by decide : 23 + 0 ≤ _)⟩)
  dsimp only [Pt.U, Pt.locs, Pt.cells, Pt.slots] at X162 l162 y162 z162 st162 hQ162
  subst l162 y162 z162
  obtain ⟨rfl, N162q, Z162, H162⟩ := hQ162
  have N162 := Fr.app N159 N162q
  obtain ⟨Et162, Fo162, Fc162, Fl162, Dq162, ntd162, nte162, gt162, OL162⟩ := id H162
  obtain ⟨Ed162, Fe162, Fh162, Ft162, Ad162, Od162, nde162, gd162, ge162⟩ := id Dq162
  have pre163 : ∀ t, Steps p.tables e below (T162.setTop (mkF m 20 #[.val (.int p0), .val (.int p1), .val (.int p2), .val (.int p3), .val (.int p4), .val (.long (1048576 : Int64)), .second, .val (.ref b5), .unset, .unset, .unset, .unset] [(.int (own_add ((0 : Int64) + p0.toInt64)))])) t → Steps p.tables e below (s₁.setTop (entryFrame m #[(.int p0), (.int p1), (.int p2), (.int p3), (.int p4)] maxLocals)) t := fun t kont => pre161 t (st162.trans kont)
  have pre164 : ∀ t, Steps p.tables e below (T162.setTop (mkF m 25 #[.val (.int p0), .val (.int p1), .val (.int p2), .val (.int p3), .val (.int p4), .val (.long (1048576 : Int64)), .second, .val (.ref b5), .unset, .unset, .unset, .unset] [(.int (lcmpW (p0.toInt64) (1048576 : Int64))), (.int (own_add ((0 : Int64) + p0.toInt64)))])) t → Steps p.tables e below (s₁.setTop (entryFrame m #[(.int p0), (.int p1), (.int p2), (.int p3), (.int p4)] maxLocals)) t := by
    intro t kont
    refine pre163 t ?_
    show Steps p.tables e below (T162.setTop (mkF m 20 #[.val (.int p0), .val (.int p1), .val (.int p2), .val (.int p3), .val (.int p4), .val (.long (1048576 : Int64)), .second, .val (.ref b5), .unset, .unset, .unset, .unset] [(.int (own_add ((0 : Int64) + p0.toInt64)))])) _
    refine XS.iloadN X162.here hx rfl (hb hby at_20) rfl ?_
    show Steps p.tables e below (T162.setTop (mkF m 21 #[.val (.int p0), .val (.int p1), .val (.int p2), .val (.int p3), .val (.int p4), .val (.long (1048576 : Int64)), .second, .val (.ref b5), .unset, .unset, .unset, .unset] [(.int p0), (.int (own_add ((0 : Int64) + p0.toInt64)))])) _
    refine XS.i2l X162.here hx rfl (hb hby at_21) rfl ?_
    show Steps p.tables e below (T162.setTop (mkF m 22 #[.val (.int p0), .val (.int p1), .val (.int p2), .val (.int p3), .val (.int p4), .val (.long (1048576 : Int64)), .second, .val (.ref b5), .unset, .unset, .unset, .unset] [(.long (p0.toInt64)), (.int (own_add ((0 : Int64) + p0.toInt64)))])) _
    refine XS.lload X162.here hx rfl (hb hby at_22) rfl ?_
    show Steps p.tables e below (T162.setTop (mkF m 24 #[.val (.int p0), .val (.int p1), .val (.int p2), .val (.int p3), .val (.int p4), .val (.long (1048576 : Int64)), .second, .val (.ref b5), .unset, .unset, .unset, .unset] [(.long (1048576 : Int64)), (.long (p0.toInt64)), (.int (own_add ((0 : Int64) + p0.toInt64)))])) _
    refine XS.lcmp X162.here hx rfl (hb hby at_24) rfl ?_
    exact kont
  obtain ⟨v33, hv33⟩ : ∃ z : Int32, z = (if (1048576 : Int64) < (p0.toInt64) then (0 : Int32) else (1 : Int32)) := ⟨_, rfl⟩
  have pre165 : ∀ t, Steps p.tables e below (T162.setTop (mkF m 33 #[.val (.int p0), .val (.int p1), .val (.int p2), .val (.int p3), .val (.int p4), .val (.long (1048576 : Int64)), .second, .val (.ref b5), .unset, .unset, .unset, .unset] [(.int v33), (.int (own_add ((0 : Int64) + p0.toInt64)))])) t → Steps p.tables e below (s₁.setTop (entryFrame m #[(.int p0), (.int p1), (.int p2), (.int p3), (.int p4)] maxLocals)) t := by
    intro t kont
    refine pre164 t ?_
    by_cases j_25 : (1048576 : Int64) < (p0.toInt64)
    · rw [hv33, if_pos j_25] at kont
      show Steps p.tables e below (T162.setTop (mkF m 25 #[.val (.int p0), .val (.int p1), .val (.int p2), .val (.int p3), .val (.int p4), .val (.long (1048576 : Int64)), .second, .val (.ref b5), .unset, .unset, .unset, .unset] [(.int (lcmpW (p0.toInt64) (1048576 : Int64))), (.int (own_add ((0 : Int64) + p0.toInt64)))])) _
      refine XS.ifYes X162.here hx rfl (pc0 := 25) (pc' := 32) rfl (hb hby at_25) rfl ((if0 _ _).trans (tlt ((lw_gt _ _).mpr j_25)).2.2.1) (by decide) (by decide) ?_
      show Steps p.tables e below (T162.setTop (mkF m 32 #[.val (.int p0), .val (.int p1), .val (.int p2), .val (.int p3), .val (.int p4), .val (.long (1048576 : Int64)), .second, .val (.ref b5), .unset, .unset, .unset, .unset] [(.int (own_add ((0 : Int64) + p0.toInt64)))])) _
      refine XS.iconst X162.here hx rfl (hb hby at_32) ?_
      exact kont
    · rw [hv33, if_neg j_25] at kont
      show Steps p.tables e below (T162.setTop (mkF m 25 #[.val (.int p0), .val (.int p1), .val (.int p2), .val (.int p3), .val (.int p4), .val (.long (1048576 : Int64)), .second, .val (.ref b5), .unset, .unset, .unset, .unset] [(.int (lcmpW (p0.toInt64) (1048576 : Int64))), (.int (own_add ((0 : Int64) + p0.toInt64)))])) _
      refine XS.ifNo X162.here hx rfl (hb hby at_25) rfl ((if0 _ _).trans (flt (fun q => j_25 ((lw_gt _ _).mp q))).2.2.1) ?_
      show Steps p.tables e below (T162.setTop (mkF m 28 #[.val (.int p0), .val (.int p1), .val (.int p2), .val (.int p3), .val (.int p4), .val (.long (1048576 : Int64)), .second, .val (.ref b5), .unset, .unset, .unset, .unset] [(.int (own_add ((0 : Int64) + p0.toInt64)))])) _
      refine XS.iconst X162.here hx rfl (hb hby at_28) ?_
      show Steps p.tables e below (T162.setTop (mkF m 29 #[.val (.int p0), .val (.int p1), .val (.int p2), .val (.int p3), .val (.int p4), .val (.long (1048576 : Int64)), .second, .val (.ref b5), .unset, .unset, .unset, .unset] [(.int (1 : Int32)), (.int (own_add ((0 : Int64) + p0.toInt64)))])) _
      refine XS.goto X162.here hx rfl (pc0 := 29) (pc' := 33) rfl (hb hby at_29) (by decide) (by decide) ?_
      exact kont
  by_cases hc33 : (own_add ((0 : Int64) + p0.toInt64)) = v33
  · have pre166 : ∀ t, Steps p.tables e below (T162.setTop (mkF m 55 #[.val (.int p0), .val (.int p1), .val (.int p2), .val (.int p3), .val (.int p4), .val (.long (1048576 : Int64)), .second, .val (.ref b5), .val (.int (1 : Int32)), .val (.long ((p0.toInt64) + (p1.toInt64))), .second, .unset] [(.int p1), (.ref b5), (.int (1 : Int32))])) t → Steps p.tables e below (s₁.setTop (entryFrame m #[(.int p0), (.int p1), (.int p2), (.int p3), (.int p4)] maxLocals)) t := by
      intro t kont
      refine pre165 t ?_
      show Steps p.tables e below (T162.setTop (mkF m 33 #[.val (.int p0), .val (.int p1), .val (.int p2), .val (.int p3), .val (.int p4), .val (.long (1048576 : Int64)), .second, .val (.ref b5), .unset, .unset, .unset, .unset] [(.int v33), (.int (own_add ((0 : Int64) + p0.toInt64)))])) _
      refine XS.icmpNo X162.here hx rfl (hb hby at_33) rfl (teq hc33).2 ?_
      show Steps p.tables e below (T162.setTop (mkF m 36 #[.val (.int p0), .val (.int p1), .val (.int p2), .val (.int p3), .val (.int p4), .val (.long (1048576 : Int64)), .second, .val (.ref b5), .unset, .unset, .unset, .unset] [])) _
      refine XS.iconst X162.here hx rfl (hb hby at_36) ?_
      show Steps p.tables e below (T162.setTop (mkF m 37 #[.val (.int p0), .val (.int p1), .val (.int p2), .val (.int p3), .val (.int p4), .val (.long (1048576 : Int64)), .second, .val (.ref b5), .unset, .unset, .unset, .unset] [(.int (1 : Int32))])) _
      refine XS.goto X162.here hx rfl (pc0 := 37) (pc' := 41) rfl (hb hby at_37) (by decide) (by decide) ?_
      show Steps p.tables e below (T162.setTop (mkF m 41 #[.val (.int p0), .val (.int p1), .val (.int p2), .val (.int p3), .val (.int p4), .val (.long (1048576 : Int64)), .second, .val (.ref b5), .unset, .unset, .unset, .unset] [(.int (1 : Int32))])) _
      refine XS.istore X162.here hx rfl (hb hby at_41) rfl (l' := #[.val (.int p0), .val (.int p1), .val (.int p2), .val (.int p3), .val (.int p4), .val (.long (1048576 : Int64)), .second, .val (.ref b5), .val (.int (1 : Int32)), .unset, .unset, .unset]) rfl ?_
      show Steps p.tables e below (T162.setTop (mkF m 43 #[.val (.int p0), .val (.int p1), .val (.int p2), .val (.int p3), .val (.int p4), .val (.long (1048576 : Int64)), .second, .val (.ref b5), .val (.int (1 : Int32)), .unset, .unset, .unset] [])) _
      refine XS.iloadN X162.here hx rfl (hb hby at_43) rfl ?_
      show Steps p.tables e below (T162.setTop (mkF m 44 #[.val (.int p0), .val (.int p1), .val (.int p2), .val (.int p3), .val (.int p4), .val (.long (1048576 : Int64)), .second, .val (.ref b5), .val (.int (1 : Int32)), .unset, .unset, .unset] [(.int p0)])) _
      refine XS.i2l X162.here hx rfl (hb hby at_44) rfl ?_
      show Steps p.tables e below (T162.setTop (mkF m 45 #[.val (.int p0), .val (.int p1), .val (.int p2), .val (.int p3), .val (.int p4), .val (.long (1048576 : Int64)), .second, .val (.ref b5), .val (.int (1 : Int32)), .unset, .unset, .unset] [(.long (p0.toInt64))])) _
      refine XS.iloadN X162.here hx rfl (hb hby at_45) rfl ?_
      show Steps p.tables e below (T162.setTop (mkF m 46 #[.val (.int p0), .val (.int p1), .val (.int p2), .val (.int p3), .val (.int p4), .val (.long (1048576 : Int64)), .second, .val (.ref b5), .val (.int (1 : Int32)), .unset, .unset, .unset] [(.int p1), (.long (p0.toInt64))])) _
      refine XS.i2l X162.here hx rfl (hb hby at_46) rfl ?_
      show Steps p.tables e below (T162.setTop (mkF m 47 #[.val (.int p0), .val (.int p1), .val (.int p2), .val (.int p3), .val (.int p4), .val (.long (1048576 : Int64)), .second, .val (.ref b5), .val (.int (1 : Int32)), .unset, .unset, .unset] [(.long (p1.toInt64)), (.long (p0.toInt64))])) _
      refine XS.ladd X162.here hx rfl (hb hby at_47) rfl ?_
      show Steps p.tables e below (T162.setTop (mkF m 48 #[.val (.int p0), .val (.int p1), .val (.int p2), .val (.int p3), .val (.int p4), .val (.long (1048576 : Int64)), .second, .val (.ref b5), .val (.int (1 : Int32)), .unset, .unset, .unset] [(.long ((p0.toInt64) + (p1.toInt64)))])) _
      refine XS.lstore X162.here hx rfl (hb hby at_48) rfl (l' := #[.val (.int p0), .val (.int p1), .val (.int p2), .val (.int p3), .val (.int p4), .val (.long (1048576 : Int64)), .second, .val (.ref b5), .val (.int (1 : Int32)), .val (.long ((p0.toInt64) + (p1.toInt64))), .second, .unset]) rfl ?_
      show Steps p.tables e below (T162.setTop (mkF m 50 #[.val (.int p0), .val (.int p1), .val (.int p2), .val (.int p3), .val (.int p4), .val (.long (1048576 : Int64)), .second, .val (.ref b5), .val (.int (1 : Int32)), .val (.long ((p0.toInt64) + (p1.toInt64))), .second, .unset] [])) _
      refine XS.iload X162.here hx rfl (hb hby at_50) rfl ?_
      show Steps p.tables e below (T162.setTop (mkF m 52 #[.val (.int p0), .val (.int p1), .val (.int p2), .val (.int p3), .val (.int p4), .val (.long (1048576 : Int64)), .second, .val (.ref b5), .val (.int (1 : Int32)), .val (.long ((p0.toInt64) + (p1.toInt64))), .second, .unset] [(.int (1 : Int32))])) _
      refine XS.aload X162.here hx rfl (hb hby at_52) rfl rfl ?_
      show Steps p.tables e below (T162.setTop (mkF m 54 #[.val (.int p0), .val (.int p1), .val (.int p2), .val (.int p3), .val (.int p4), .val (.long (1048576 : Int64)), .second, .val (.ref b5), .val (.int (1 : Int32)), .val (.long ((p0.toInt64) + (p1.toInt64))), .second, .unset] [(.ref b5), (.int (1 : Int32))])) _
      refine XS.iloadN X162.here hx rfl (hb hby at_54) rfl ?_
      exact kont
    obtain ⟨cq167, kq167, q167a, q167b, q167c⟩ := isOf hZ rfl Et162
    obtain ⟨_, _, ⟨T167, L167, k167, n167⟩, -, X167, ⟨Lc167, hQ167, l167, y167, z167⟩, st167⟩ := X162.virtualBack hx (y := (⟨"com/example/arkivsmed/arkivsmed/xml/TextCount", "add", "(I)Z"⟩ : MethodName)) (z := (⟨"com/example/arkivsmed/arkivsmed/xml/TextCount", "add", "(I)Z"⟩ : MethodName)) hown (mvT hZ (hw _ (List.mem_of_getElem? (i := 31) rfl))) (mvT hZ (hw _ (List.mem_of_getElem? (i := 32) rfl))) (notFace_of_selects (args := #[]) (mvT hZ (hw _ (List.mem_of_getElem? (i := 34) rfl)))) (mvT hZ (hw _ (List.mem_of_getElem? (i := 34) rfl))) (mvT hZ (hw _ (List.mem_of_getElem? (i := 33) rfl))) (by decide) (backOf (W := 1) (rm5 l Z a0 hw [] b5 p1 d el kc ((0 : Int64) + p0.toInt64) (1 : Int32) (0 : Int32) (fun _ => Value.null)  T162.heap n0 Z162 ⟨Et162, Fo162, Fc162, Fl162, ⟨Ed162, Fe162, Fh162, Ft162, Ad162, Od162, nde162, gd162, ge162⟩, ntd162, nte162, gt162, OL162⟩) hZ (hw _ (List.mem_of_getElem? (i := 35) rfl)) (hw _ (List.mem_of_getElem? (i := 3) rfl)) (by decide) (by decide)) q167a q167c (g := (mkF m 55 #[.val (.int p0), .val (.int p1), .val (.int p2), .val (.int p3), .val (.int p4), .val (.long (1048576 : Int64)), .second, .val (.ref b5), .val (.int (1 : Int32)), .val (.long ((p0.toInt64) + (p1.toInt64))), .second, .unset] [(.int p1), (.ref b5), (.int (1 : Int32))])) rfl (by rw [hml]; rfl) (Steps.refl _) (argsL := [(.int p1)]) (rest := [(.int (1 : Int32))]) (lenOf pd_9 rfl) rfl (by show 2 * 0 + _ ≤ _; exact Nat.le_of_eq rfl) (hb hby at_55) (fun _ _ => ⟨rfl, rfl, (by decide : 3 + 0 ≤ _), (by decide : 23 + 0 ≤ _)⟩)
    dsimp only [Pt.U, Pt.locs, Pt.cells, Pt.slots] at X167 l167 y167 z167 st167 hQ167
    subst l167 y167 z167
    obtain ⟨rfl, N167q, Z167, H167⟩ := hQ167
    have N167 := Fr.app N162 N167q
    obtain ⟨Et167, Fo167, Fc167, Fl167, Dq167, ntd167, nte167, gt167, OL167⟩ := id H167
    obtain ⟨Ed167, Fe167, Fh167, Ft167, Ad167, Od167, nde167, gd167, ge167⟩ := id Dq167
    have pre168 : ∀ t, Steps p.tables e below (T167.setTop (mkF m 58 #[.val (.int p0), .val (.int p1), .val (.int p2), .val (.int p3), .val (.int p4), .val (.long (1048576 : Int64)), .second, .val (.ref b5), .val (.int (1 : Int32)), .val (.long ((p0.toInt64) + (p1.toInt64))), .second, .unset] [(.int (own_add (((0 : Int64) + p0.toInt64) + p1.toInt64))), (.int (1 : Int32))])) t → Steps p.tables e below (s₁.setTop (entryFrame m #[(.int p0), (.int p1), (.int p2), (.int p3), (.int p4)] maxLocals)) t := fun t kont => pre166 t (st167.trans kont)
    have pre169 : ∀ t, Steps p.tables e below (T167.setTop (mkF m 63 #[.val (.int p0), .val (.int p1), .val (.int p2), .val (.int p3), .val (.int p4), .val (.long (1048576 : Int64)), .second, .val (.ref b5), .val (.int (1 : Int32)), .val (.long ((p0.toInt64) + (p1.toInt64))), .second, .unset] [(.int (lcmpW ((p0.toInt64) + (p1.toInt64)) (1048576 : Int64))), (.int (own_add (((0 : Int64) + p0.toInt64) + p1.toInt64))), (.int (1 : Int32))])) t → Steps p.tables e below (s₁.setTop (entryFrame m #[(.int p0), (.int p1), (.int p2), (.int p3), (.int p4)] maxLocals)) t := by
      intro t kont
      refine pre168 t ?_
      show Steps p.tables e below (T167.setTop (mkF m 58 #[.val (.int p0), .val (.int p1), .val (.int p2), .val (.int p3), .val (.int p4), .val (.long (1048576 : Int64)), .second, .val (.ref b5), .val (.int (1 : Int32)), .val (.long ((p0.toInt64) + (p1.toInt64))), .second, .unset] [(.int (own_add (((0 : Int64) + p0.toInt64) + p1.toInt64))), (.int (1 : Int32))])) _
      refine XS.lload X167.here hx rfl (hb hby at_58) rfl ?_
      show Steps p.tables e below (T167.setTop (mkF m 60 #[.val (.int p0), .val (.int p1), .val (.int p2), .val (.int p3), .val (.int p4), .val (.long (1048576 : Int64)), .second, .val (.ref b5), .val (.int (1 : Int32)), .val (.long ((p0.toInt64) + (p1.toInt64))), .second, .unset] [(.long ((p0.toInt64) + (p1.toInt64))), (.int (own_add (((0 : Int64) + p0.toInt64) + p1.toInt64))), (.int (1 : Int32))])) _
      refine XS.lload X167.here hx rfl (hb hby at_60) rfl ?_
      show Steps p.tables e below (T167.setTop (mkF m 62 #[.val (.int p0), .val (.int p1), .val (.int p2), .val (.int p3), .val (.int p4), .val (.long (1048576 : Int64)), .second, .val (.ref b5), .val (.int (1 : Int32)), .val (.long ((p0.toInt64) + (p1.toInt64))), .second, .unset] [(.long (1048576 : Int64)), (.long ((p0.toInt64) + (p1.toInt64))), (.int (own_add (((0 : Int64) + p0.toInt64) + p1.toInt64))), (.int (1 : Int32))])) _
      refine XS.lcmp X167.here hx rfl (hb hby at_62) rfl ?_
      exact kont
    obtain ⟨v71, hv71⟩ : ∃ z : Int32, z = (if (1048576 : Int64) < ((p0.toInt64) + (p1.toInt64)) then (0 : Int32) else (1 : Int32)) := ⟨_, rfl⟩
    have pre170 : ∀ t, Steps p.tables e below (T167.setTop (mkF m 71 #[.val (.int p0), .val (.int p1), .val (.int p2), .val (.int p3), .val (.int p4), .val (.long (1048576 : Int64)), .second, .val (.ref b5), .val (.int (1 : Int32)), .val (.long ((p0.toInt64) + (p1.toInt64))), .second, .unset] [(.int v71), (.int (own_add (((0 : Int64) + p0.toInt64) + p1.toInt64))), (.int (1 : Int32))])) t → Steps p.tables e below (s₁.setTop (entryFrame m #[(.int p0), (.int p1), (.int p2), (.int p3), (.int p4)] maxLocals)) t := by
      intro t kont
      refine pre169 t ?_
      by_cases j_63 : (1048576 : Int64) < ((p0.toInt64) + (p1.toInt64))
      · rw [hv71, if_pos j_63] at kont
        show Steps p.tables e below (T167.setTop (mkF m 63 #[.val (.int p0), .val (.int p1), .val (.int p2), .val (.int p3), .val (.int p4), .val (.long (1048576 : Int64)), .second, .val (.ref b5), .val (.int (1 : Int32)), .val (.long ((p0.toInt64) + (p1.toInt64))), .second, .unset] [(.int (lcmpW ((p0.toInt64) + (p1.toInt64)) (1048576 : Int64))), (.int (own_add (((0 : Int64) + p0.toInt64) + p1.toInt64))), (.int (1 : Int32))])) _
        refine XS.ifYes X167.here hx rfl (pc0 := 63) (pc' := 70) rfl (hb hby at_63) rfl ((if0 _ _).trans (tlt ((lw_gt _ _).mpr j_63)).2.2.1) (by decide) (by decide) ?_
        show Steps p.tables e below (T167.setTop (mkF m 70 #[.val (.int p0), .val (.int p1), .val (.int p2), .val (.int p3), .val (.int p4), .val (.long (1048576 : Int64)), .second, .val (.ref b5), .val (.int (1 : Int32)), .val (.long ((p0.toInt64) + (p1.toInt64))), .second, .unset] [(.int (own_add (((0 : Int64) + p0.toInt64) + p1.toInt64))), (.int (1 : Int32))])) _
        refine XS.iconst X167.here hx rfl (hb hby at_70) ?_
        exact kont
      · rw [hv71, if_neg j_63] at kont
        show Steps p.tables e below (T167.setTop (mkF m 63 #[.val (.int p0), .val (.int p1), .val (.int p2), .val (.int p3), .val (.int p4), .val (.long (1048576 : Int64)), .second, .val (.ref b5), .val (.int (1 : Int32)), .val (.long ((p0.toInt64) + (p1.toInt64))), .second, .unset] [(.int (lcmpW ((p0.toInt64) + (p1.toInt64)) (1048576 : Int64))), (.int (own_add (((0 : Int64) + p0.toInt64) + p1.toInt64))), (.int (1 : Int32))])) _
        refine XS.ifNo X167.here hx rfl (hb hby at_63) rfl ((if0 _ _).trans (flt (fun q => j_63 ((lw_gt _ _).mp q))).2.2.1) ?_
        show Steps p.tables e below (T167.setTop (mkF m 66 #[.val (.int p0), .val (.int p1), .val (.int p2), .val (.int p3), .val (.int p4), .val (.long (1048576 : Int64)), .second, .val (.ref b5), .val (.int (1 : Int32)), .val (.long ((p0.toInt64) + (p1.toInt64))), .second, .unset] [(.int (own_add (((0 : Int64) + p0.toInt64) + p1.toInt64))), (.int (1 : Int32))])) _
        refine XS.iconst X167.here hx rfl (hb hby at_66) ?_
        show Steps p.tables e below (T167.setTop (mkF m 67 #[.val (.int p0), .val (.int p1), .val (.int p2), .val (.int p3), .val (.int p4), .val (.long (1048576 : Int64)), .second, .val (.ref b5), .val (.int (1 : Int32)), .val (.long ((p0.toInt64) + (p1.toInt64))), .second, .unset] [(.int (1 : Int32)), (.int (own_add (((0 : Int64) + p0.toInt64) + p1.toInt64))), (.int (1 : Int32))])) _
        refine XS.goto X167.here hx rfl (pc0 := 67) (pc' := 71) rfl (hb hby at_67) (by decide) (by decide) ?_
        exact kont
    by_cases hc71 : (own_add (((0 : Int64) + p0.toInt64) + p1.toInt64)) = v71
    · have pre171 : ∀ t, Steps p.tables e below (T167.setTop (mkF m 88 #[.val (.int p0), .val (.int p1), .val (.int p2), .val (.int p3), .val (.int p4), .val (.long (1048576 : Int64)), .second, .val (.ref b5), .val (.int (1 : Int32)), .val (.long ((p0.toInt64) + (p1.toInt64))), .second, .val (.int (1 : Int32))] [(.int (p3 &&& (1 : Int32)))])) t → Steps p.tables e below (s₁.setTop (entryFrame m #[(.int p0), (.int p1), (.int p2), (.int p3), (.int p4)] maxLocals)) t := by
        intro t kont
        refine pre170 t ?_
        show Steps p.tables e below (T167.setTop (mkF m 71 #[.val (.int p0), .val (.int p1), .val (.int p2), .val (.int p3), .val (.int p4), .val (.long (1048576 : Int64)), .second, .val (.ref b5), .val (.int (1 : Int32)), .val (.long ((p0.toInt64) + (p1.toInt64))), .second, .unset] [(.int v71), (.int (own_add (((0 : Int64) + p0.toInt64) + p1.toInt64))), (.int (1 : Int32))])) _
        refine XS.icmpNo X167.here hx rfl (hb hby at_71) rfl (teq hc71).2 ?_
        show Steps p.tables e below (T167.setTop (mkF m 74 #[.val (.int p0), .val (.int p1), .val (.int p2), .val (.int p3), .val (.int p4), .val (.long (1048576 : Int64)), .second, .val (.ref b5), .val (.int (1 : Int32)), .val (.long ((p0.toInt64) + (p1.toInt64))), .second, .unset] [(.int (1 : Int32))])) _
        refine XS.iconst X167.here hx rfl (hb hby at_74) ?_
        show Steps p.tables e below (T167.setTop (mkF m 75 #[.val (.int p0), .val (.int p1), .val (.int p2), .val (.int p3), .val (.int p4), .val (.long (1048576 : Int64)), .second, .val (.ref b5), .val (.int (1 : Int32)), .val (.long ((p0.toInt64) + (p1.toInt64))), .second, .unset] [(.int (1 : Int32)), (.int (1 : Int32))])) _
        refine XS.goto X167.here hx rfl (pc0 := 75) (pc' := 79) rfl (hb hby at_75) (by decide) (by decide) ?_
        show Steps p.tables e below (T167.setTop (mkF m 79 #[.val (.int p0), .val (.int p1), .val (.int p2), .val (.int p3), .val (.int p4), .val (.long (1048576 : Int64)), .second, .val (.ref b5), .val (.int (1 : Int32)), .val (.long ((p0.toInt64) + (p1.toInt64))), .second, .unset] [(.int (1 : Int32)), (.int (1 : Int32))])) _
        refine XS.iand X167.here hx rfl (hb hby at_79) rfl ?_
        show Steps p.tables e below (T167.setTop (mkF m 80 #[.val (.int p0), .val (.int p1), .val (.int p2), .val (.int p3), .val (.int p4), .val (.long (1048576 : Int64)), .second, .val (.ref b5), .val (.int (1 : Int32)), .val (.long ((p0.toInt64) + (p1.toInt64))), .second, .unset] [(.int (1 : Int32))])) _
        refine XS.istore X167.here hx rfl (hb hby at_80) rfl (l' := #[.val (.int p0), .val (.int p1), .val (.int p2), .val (.int p3), .val (.int p4), .val (.long (1048576 : Int64)), .second, .val (.ref b5), .val (.int (1 : Int32)), .val (.long ((p0.toInt64) + (p1.toInt64))), .second, .unset]) rfl ?_
        show Steps p.tables e below (T167.setTop (mkF m 82 #[.val (.int p0), .val (.int p1), .val (.int p2), .val (.int p3), .val (.int p4), .val (.long (1048576 : Int64)), .second, .val (.ref b5), .val (.int (1 : Int32)), .val (.long ((p0.toInt64) + (p1.toInt64))), .second, .unset] [])) _
        refine XS.iconst X167.here hx rfl (hb hby at_82) ?_
        show Steps p.tables e below (T167.setTop (mkF m 83 #[.val (.int p0), .val (.int p1), .val (.int p2), .val (.int p3), .val (.int p4), .val (.long (1048576 : Int64)), .second, .val (.ref b5), .val (.int (1 : Int32)), .val (.long ((p0.toInt64) + (p1.toInt64))), .second, .unset] [(.int (1 : Int32))])) _
        refine XS.istore X167.here hx rfl (hb hby at_83) rfl (l' := #[.val (.int p0), .val (.int p1), .val (.int p2), .val (.int p3), .val (.int p4), .val (.long (1048576 : Int64)), .second, .val (.ref b5), .val (.int (1 : Int32)), .val (.long ((p0.toInt64) + (p1.toInt64))), .second, .val (.int (1 : Int32))]) rfl ?_
        show Steps p.tables e below (T167.setTop (mkF m 85 #[.val (.int p0), .val (.int p1), .val (.int p2), .val (.int p3), .val (.int p4), .val (.long (1048576 : Int64)), .second, .val (.ref b5), .val (.int (1 : Int32)), .val (.long ((p0.toInt64) + (p1.toInt64))), .second, .val (.int (1 : Int32))] [])) _
        refine XS.iloadN X167.here hx rfl (hb hby at_85) rfl ?_
        show Steps p.tables e below (T167.setTop (mkF m 86 #[.val (.int p0), .val (.int p1), .val (.int p2), .val (.int p3), .val (.int p4), .val (.long (1048576 : Int64)), .second, .val (.ref b5), .val (.int (1 : Int32)), .val (.long ((p0.toInt64) + (p1.toInt64))), .second, .val (.int (1 : Int32))] [(.int p3)])) _
        refine XS.iconst X167.here hx rfl (hb hby at_86) ?_
        show Steps p.tables e below (T167.setTop (mkF m 87 #[.val (.int p0), .val (.int p1), .val (.int p2), .val (.int p3), .val (.int p4), .val (.long (1048576 : Int64)), .second, .val (.ref b5), .val (.int (1 : Int32)), .val (.long ((p0.toInt64) + (p1.toInt64))), .second, .val (.int (1 : Int32))] [(.int (1 : Int32)), (.int p3)])) _
        refine XS.iand X167.here hx rfl (hb hby at_87) rfl ?_
        exact kont
      by_cases hc88 : (p3 &&& (1 : Int32)) = (0 : Int32)
      · have pre172 : ∀ t, Steps p.tables e below (T167.setTop (mkF m 135 #[.val (.int p0), .val (.int p1), .val (.int p2), .val (.int p3), .val (.int p4), .val (.long (1048576 : Int64)), .second, .val (.ref b5), .val (.int (1 : Int32)), .val (.long ((p0.toInt64) + (p1.toInt64))), .second, .val (.int (1 : Int32))] [(.int p2), (.ref b5), (.int (1 : Int32))])) t → Steps p.tables e below (s₁.setTop (entryFrame m #[(.int p0), (.int p1), (.int p2), (.int p3), (.int p4)] maxLocals)) t := by
          intro t kont
          refine pre171 t ?_
          show Steps p.tables e below (T167.setTop (mkF m 88 #[.val (.int p0), .val (.int p1), .val (.int p2), .val (.int p3), .val (.int p4), .val (.long (1048576 : Int64)), .second, .val (.ref b5), .val (.int (1 : Int32)), .val (.long ((p0.toInt64) + (p1.toInt64))), .second, .val (.int (1 : Int32))] [(.int (p3 &&& (1 : Int32)))])) _
          refine XS.ifYes X167.here hx rfl (pc0 := 88) (pc' := 130) rfl (hb hby at_88) rfl ((if0 _ _).trans (teq hc88).1) (by decide) (by decide) ?_
          show Steps p.tables e below (T167.setTop (mkF m 130 #[.val (.int p0), .val (.int p1), .val (.int p2), .val (.int p3), .val (.int p4), .val (.long (1048576 : Int64)), .second, .val (.ref b5), .val (.int (1 : Int32)), .val (.long ((p0.toInt64) + (p1.toInt64))), .second, .val (.int (1 : Int32))] [])) _
          refine XS.iload X167.here hx rfl (hb hby at_130) rfl ?_
          show Steps p.tables e below (T167.setTop (mkF m 132 #[.val (.int p0), .val (.int p1), .val (.int p2), .val (.int p3), .val (.int p4), .val (.long (1048576 : Int64)), .second, .val (.ref b5), .val (.int (1 : Int32)), .val (.long ((p0.toInt64) + (p1.toInt64))), .second, .val (.int (1 : Int32))] [(.int (1 : Int32))])) _
          refine XS.aload X167.here hx rfl (hb hby at_132) rfl rfl ?_
          show Steps p.tables e below (T167.setTop (mkF m 134 #[.val (.int p0), .val (.int p1), .val (.int p2), .val (.int p3), .val (.int p4), .val (.long (1048576 : Int64)), .second, .val (.ref b5), .val (.int (1 : Int32)), .val (.long ((p0.toInt64) + (p1.toInt64))), .second, .val (.int (1 : Int32))] [(.ref b5), (.int (1 : Int32))])) _
          refine XS.iloadN X167.here hx rfl (hb hby at_134) rfl ?_
          exact kont
        obtain ⟨cq173, kq173, q173a, q173b, q173c⟩ := isOf hZ rfl Et167
        obtain ⟨_, _, ⟨T173, L173, k173, n173⟩, -, X173, ⟨Lc173, hQ173, l173, y173, z173⟩, st173⟩ := X167.virtualBack hx (y := (⟨"com/example/arkivsmed/arkivsmed/xml/TextCount", "add", "(I)Z"⟩ : MethodName)) (z := (⟨"com/example/arkivsmed/arkivsmed/xml/TextCount", "add", "(I)Z"⟩ : MethodName)) hown (mvT hZ (hw _ (List.mem_of_getElem? (i := 31) rfl))) (mvT hZ (hw _ (List.mem_of_getElem? (i := 32) rfl))) (notFace_of_selects (args := #[]) (mvT hZ (hw _ (List.mem_of_getElem? (i := 34) rfl)))) (mvT hZ (hw _ (List.mem_of_getElem? (i := 34) rfl))) (mvT hZ (hw _ (List.mem_of_getElem? (i := 33) rfl))) (by decide) (backOf (W := 1) (rm5 l Z a0 hw [] b5 p2 d el kc (((0 : Int64) + p0.toInt64) + p1.toInt64) (1 : Int32) (0 : Int32) (fun _ => Value.null)  T167.heap n0 Z167 ⟨Et167, Fo167, Fc167, Fl167, ⟨Ed167, Fe167, Fh167, Ft167, Ad167, Od167, nde167, gd167, ge167⟩, ntd167, nte167, gt167, OL167⟩) hZ (hw _ (List.mem_of_getElem? (i := 35) rfl)) (hw _ (List.mem_of_getElem? (i := 3) rfl)) (by decide) (by decide)) q173a q173c (g := (mkF m 135 #[.val (.int p0), .val (.int p1), .val (.int p2), .val (.int p3), .val (.int p4), .val (.long (1048576 : Int64)), .second, .val (.ref b5), .val (.int (1 : Int32)), .val (.long ((p0.toInt64) + (p1.toInt64))), .second, .val (.int (1 : Int32))] [(.int p2), (.ref b5), (.int (1 : Int32))])) rfl (by rw [hml]; rfl) (Steps.refl _) (argsL := [(.int p2)]) (rest := [(.int (1 : Int32))]) (lenOf pd_9 rfl) rfl (by show 2 * 0 + _ ≤ _; exact Nat.le_of_eq rfl) (hb hby at_135) (fun _ _ => ⟨rfl, rfl, (by decide : 3 + 0 ≤ _), (by decide : 23 + 0 ≤ _)⟩)
        dsimp only [Pt.U, Pt.locs, Pt.cells, Pt.slots] at X173 l173 y173 z173 st173 hQ173
        subst l173 y173 z173
        obtain ⟨rfl, N173q, Z173, H173⟩ := hQ173
        have N173 := Fr.app N167 N173q
        obtain ⟨Et173, Fo173, Fc173, Fl173, Dq173, ntd173, nte173, gt173, OL173⟩ := id H173
        obtain ⟨Ed173, Fe173, Fh173, Ft173, Ad173, Od173, nde173, gd173, ge173⟩ := id Dq173
        have pre174 : ∀ t, Steps p.tables e below (T173.setTop (mkF m 138 #[.val (.int p0), .val (.int p1), .val (.int p2), .val (.int p3), .val (.int p4), .val (.long (1048576 : Int64)), .second, .val (.ref b5), .val (.int (1 : Int32)), .val (.long ((p0.toInt64) + (p1.toInt64))), .second, .val (.int (1 : Int32))] [(.int (own_add ((((0 : Int64) + p0.toInt64) + p1.toInt64) + p2.toInt64))), (.int (1 : Int32))])) t → Steps p.tables e below (s₁.setTop (entryFrame m #[(.int p0), (.int p1), (.int p2), (.int p3), (.int p4)] maxLocals)) t := fun t kont => pre172 t (st173.trans kont)
        have pre175 : ∀ t, Steps p.tables e below (T173.setTop (mkF m 146 #[.val (.int p0), .val (.int p1), .val (.int p2), .val (.int p3), .val (.int p4), .val (.long (1048576 : Int64)), .second, .val (.ref b5), .val (.int (1 : Int32)), .val (.long ((p0.toInt64) + (p1.toInt64))), .second, .val (.int (1 : Int32))] [(.int (lcmpW (((p0.toInt64) + (p1.toInt64)) + (p2.toInt64)) (1048576 : Int64))), (.int (own_add ((((0 : Int64) + p0.toInt64) + p1.toInt64) + p2.toInt64))), (.int (1 : Int32))])) t → Steps p.tables e below (s₁.setTop (entryFrame m #[(.int p0), (.int p1), (.int p2), (.int p3), (.int p4)] maxLocals)) t := by
          intro t kont
          refine pre174 t ?_
          show Steps p.tables e below (T173.setTop (mkF m 138 #[.val (.int p0), .val (.int p1), .val (.int p2), .val (.int p3), .val (.int p4), .val (.long (1048576 : Int64)), .second, .val (.ref b5), .val (.int (1 : Int32)), .val (.long ((p0.toInt64) + (p1.toInt64))), .second, .val (.int (1 : Int32))] [(.int (own_add ((((0 : Int64) + p0.toInt64) + p1.toInt64) + p2.toInt64))), (.int (1 : Int32))])) _
          refine XS.lload X173.here hx rfl (hb hby at_138) rfl ?_
          show Steps p.tables e below (T173.setTop (mkF m 140 #[.val (.int p0), .val (.int p1), .val (.int p2), .val (.int p3), .val (.int p4), .val (.long (1048576 : Int64)), .second, .val (.ref b5), .val (.int (1 : Int32)), .val (.long ((p0.toInt64) + (p1.toInt64))), .second, .val (.int (1 : Int32))] [(.long ((p0.toInt64) + (p1.toInt64))), (.int (own_add ((((0 : Int64) + p0.toInt64) + p1.toInt64) + p2.toInt64))), (.int (1 : Int32))])) _
          refine XS.iloadN X173.here hx rfl (hb hby at_140) rfl ?_
          show Steps p.tables e below (T173.setTop (mkF m 141 #[.val (.int p0), .val (.int p1), .val (.int p2), .val (.int p3), .val (.int p4), .val (.long (1048576 : Int64)), .second, .val (.ref b5), .val (.int (1 : Int32)), .val (.long ((p0.toInt64) + (p1.toInt64))), .second, .val (.int (1 : Int32))] [(.int p2), (.long ((p0.toInt64) + (p1.toInt64))), (.int (own_add ((((0 : Int64) + p0.toInt64) + p1.toInt64) + p2.toInt64))), (.int (1 : Int32))])) _
          refine XS.i2l X173.here hx rfl (hb hby at_141) rfl ?_
          show Steps p.tables e below (T173.setTop (mkF m 142 #[.val (.int p0), .val (.int p1), .val (.int p2), .val (.int p3), .val (.int p4), .val (.long (1048576 : Int64)), .second, .val (.ref b5), .val (.int (1 : Int32)), .val (.long ((p0.toInt64) + (p1.toInt64))), .second, .val (.int (1 : Int32))] [(.long (p2.toInt64)), (.long ((p0.toInt64) + (p1.toInt64))), (.int (own_add ((((0 : Int64) + p0.toInt64) + p1.toInt64) + p2.toInt64))), (.int (1 : Int32))])) _
          refine XS.ladd X173.here hx rfl (hb hby at_142) rfl ?_
          show Steps p.tables e below (T173.setTop (mkF m 143 #[.val (.int p0), .val (.int p1), .val (.int p2), .val (.int p3), .val (.int p4), .val (.long (1048576 : Int64)), .second, .val (.ref b5), .val (.int (1 : Int32)), .val (.long ((p0.toInt64) + (p1.toInt64))), .second, .val (.int (1 : Int32))] [(.long (((p0.toInt64) + (p1.toInt64)) + (p2.toInt64))), (.int (own_add ((((0 : Int64) + p0.toInt64) + p1.toInt64) + p2.toInt64))), (.int (1 : Int32))])) _
          refine XS.lload X173.here hx rfl (hb hby at_143) rfl ?_
          show Steps p.tables e below (T173.setTop (mkF m 145 #[.val (.int p0), .val (.int p1), .val (.int p2), .val (.int p3), .val (.int p4), .val (.long (1048576 : Int64)), .second, .val (.ref b5), .val (.int (1 : Int32)), .val (.long ((p0.toInt64) + (p1.toInt64))), .second, .val (.int (1 : Int32))] [(.long (1048576 : Int64)), (.long (((p0.toInt64) + (p1.toInt64)) + (p2.toInt64))), (.int (own_add ((((0 : Int64) + p0.toInt64) + p1.toInt64) + p2.toInt64))), (.int (1 : Int32))])) _
          refine XS.lcmp X173.here hx rfl (hb hby at_145) rfl ?_
          exact kont
        obtain ⟨v154, hv154⟩ : ∃ z : Int32, z = (if (1048576 : Int64) < (((p0.toInt64) + (p1.toInt64)) + (p2.toInt64)) then (0 : Int32) else (1 : Int32)) := ⟨_, rfl⟩
        have pre176 : ∀ t, Steps p.tables e below (T173.setTop (mkF m 154 #[.val (.int p0), .val (.int p1), .val (.int p2), .val (.int p3), .val (.int p4), .val (.long (1048576 : Int64)), .second, .val (.ref b5), .val (.int (1 : Int32)), .val (.long ((p0.toInt64) + (p1.toInt64))), .second, .val (.int (1 : Int32))] [(.int v154), (.int (own_add ((((0 : Int64) + p0.toInt64) + p1.toInt64) + p2.toInt64))), (.int (1 : Int32))])) t → Steps p.tables e below (s₁.setTop (entryFrame m #[(.int p0), (.int p1), (.int p2), (.int p3), (.int p4)] maxLocals)) t := by
          intro t kont
          refine pre175 t ?_
          by_cases j_146 : (1048576 : Int64) < (((p0.toInt64) + (p1.toInt64)) + (p2.toInt64))
          · rw [hv154, if_pos j_146] at kont
            show Steps p.tables e below (T173.setTop (mkF m 146 #[.val (.int p0), .val (.int p1), .val (.int p2), .val (.int p3), .val (.int p4), .val (.long (1048576 : Int64)), .second, .val (.ref b5), .val (.int (1 : Int32)), .val (.long ((p0.toInt64) + (p1.toInt64))), .second, .val (.int (1 : Int32))] [(.int (lcmpW (((p0.toInt64) + (p1.toInt64)) + (p2.toInt64)) (1048576 : Int64))), (.int (own_add ((((0 : Int64) + p0.toInt64) + p1.toInt64) + p2.toInt64))), (.int (1 : Int32))])) _
            refine XS.ifYes X173.here hx rfl (pc0 := 146) (pc' := 153) rfl (hb hby at_146) rfl ((if0 _ _).trans (tlt ((lw_gt _ _).mpr j_146)).2.2.1) (by decide) (by decide) ?_
            show Steps p.tables e below (T173.setTop (mkF m 153 #[.val (.int p0), .val (.int p1), .val (.int p2), .val (.int p3), .val (.int p4), .val (.long (1048576 : Int64)), .second, .val (.ref b5), .val (.int (1 : Int32)), .val (.long ((p0.toInt64) + (p1.toInt64))), .second, .val (.int (1 : Int32))] [(.int (own_add ((((0 : Int64) + p0.toInt64) + p1.toInt64) + p2.toInt64))), (.int (1 : Int32))])) _
            refine XS.iconst X173.here hx rfl (hb hby at_153) ?_
            exact kont
          · rw [hv154, if_neg j_146] at kont
            show Steps p.tables e below (T173.setTop (mkF m 146 #[.val (.int p0), .val (.int p1), .val (.int p2), .val (.int p3), .val (.int p4), .val (.long (1048576 : Int64)), .second, .val (.ref b5), .val (.int (1 : Int32)), .val (.long ((p0.toInt64) + (p1.toInt64))), .second, .val (.int (1 : Int32))] [(.int (lcmpW (((p0.toInt64) + (p1.toInt64)) + (p2.toInt64)) (1048576 : Int64))), (.int (own_add ((((0 : Int64) + p0.toInt64) + p1.toInt64) + p2.toInt64))), (.int (1 : Int32))])) _
            refine XS.ifNo X173.here hx rfl (hb hby at_146) rfl ((if0 _ _).trans (flt (fun q => j_146 ((lw_gt _ _).mp q))).2.2.1) ?_
            show Steps p.tables e below (T173.setTop (mkF m 149 #[.val (.int p0), .val (.int p1), .val (.int p2), .val (.int p3), .val (.int p4), .val (.long (1048576 : Int64)), .second, .val (.ref b5), .val (.int (1 : Int32)), .val (.long ((p0.toInt64) + (p1.toInt64))), .second, .val (.int (1 : Int32))] [(.int (own_add ((((0 : Int64) + p0.toInt64) + p1.toInt64) + p2.toInt64))), (.int (1 : Int32))])) _
            refine XS.iconst X173.here hx rfl (hb hby at_149) ?_
            show Steps p.tables e below (T173.setTop (mkF m 150 #[.val (.int p0), .val (.int p1), .val (.int p2), .val (.int p3), .val (.int p4), .val (.long (1048576 : Int64)), .second, .val (.ref b5), .val (.int (1 : Int32)), .val (.long ((p0.toInt64) + (p1.toInt64))), .second, .val (.int (1 : Int32))] [(.int (1 : Int32)), (.int (own_add ((((0 : Int64) + p0.toInt64) + p1.toInt64) + p2.toInt64))), (.int (1 : Int32))])) _
            refine XS.goto X173.here hx rfl (pc0 := 150) (pc' := 154) rfl (hb hby at_150) (by decide) (by decide) ?_
            exact kont
        by_cases hc154 : (own_add ((((0 : Int64) + p0.toInt64) + p1.toInt64) + p2.toInt64)) = v154
        · have pre177 : ∀ t, Steps p.tables e below (T173.setTop (mkF m 169 #[.val (.int p0), .val (.int p1), .val (.int p2), .val (.int p3), .val (.int p4), .val (.long (1048576 : Int64)), .second, .val (.ref b5), .val (.int (1 : Int32)), .val (.long ((p0.toInt64) + (p1.toInt64))), .second, .val (.int (1 : Int32))] [(.ref b5), (.int (1 : Int32))])) t → Steps p.tables e below (s₁.setTop (entryFrame m #[(.int p0), (.int p1), (.int p2), (.int p3), (.int p4)] maxLocals)) t := by
            intro t kont
            refine pre176 t ?_
            show Steps p.tables e below (T173.setTop (mkF m 154 #[.val (.int p0), .val (.int p1), .val (.int p2), .val (.int p3), .val (.int p4), .val (.long (1048576 : Int64)), .second, .val (.ref b5), .val (.int (1 : Int32)), .val (.long ((p0.toInt64) + (p1.toInt64))), .second, .val (.int (1 : Int32))] [(.int v154), (.int (own_add ((((0 : Int64) + p0.toInt64) + p1.toInt64) + p2.toInt64))), (.int (1 : Int32))])) _
            refine XS.icmpNo X173.here hx rfl (hb hby at_154) rfl (teq hc154).2 ?_
            show Steps p.tables e below (T173.setTop (mkF m 157 #[.val (.int p0), .val (.int p1), .val (.int p2), .val (.int p3), .val (.int p4), .val (.long (1048576 : Int64)), .second, .val (.ref b5), .val (.int (1 : Int32)), .val (.long ((p0.toInt64) + (p1.toInt64))), .second, .val (.int (1 : Int32))] [(.int (1 : Int32))])) _
            refine XS.iconst X173.here hx rfl (hb hby at_157) ?_
            show Steps p.tables e below (T173.setTop (mkF m 158 #[.val (.int p0), .val (.int p1), .val (.int p2), .val (.int p3), .val (.int p4), .val (.long (1048576 : Int64)), .second, .val (.ref b5), .val (.int (1 : Int32)), .val (.long ((p0.toInt64) + (p1.toInt64))), .second, .val (.int (1 : Int32))] [(.int (1 : Int32)), (.int (1 : Int32))])) _
            refine XS.goto X173.here hx rfl (pc0 := 158) (pc' := 162) rfl (hb hby at_158) (by decide) (by decide) ?_
            show Steps p.tables e below (T173.setTop (mkF m 162 #[.val (.int p0), .val (.int p1), .val (.int p2), .val (.int p3), .val (.int p4), .val (.long (1048576 : Int64)), .second, .val (.ref b5), .val (.int (1 : Int32)), .val (.long ((p0.toInt64) + (p1.toInt64))), .second, .val (.int (1 : Int32))] [(.int (1 : Int32)), (.int (1 : Int32))])) _
            refine XS.iand X173.here hx rfl (hb hby at_162) rfl ?_
            show Steps p.tables e below (T173.setTop (mkF m 163 #[.val (.int p0), .val (.int p1), .val (.int p2), .val (.int p3), .val (.int p4), .val (.long (1048576 : Int64)), .second, .val (.ref b5), .val (.int (1 : Int32)), .val (.long ((p0.toInt64) + (p1.toInt64))), .second, .val (.int (1 : Int32))] [(.int (1 : Int32))])) _
            refine XS.istore X173.here hx rfl (hb hby at_163) rfl (l' := #[.val (.int p0), .val (.int p1), .val (.int p2), .val (.int p3), .val (.int p4), .val (.long (1048576 : Int64)), .second, .val (.ref b5), .val (.int (1 : Int32)), .val (.long ((p0.toInt64) + (p1.toInt64))), .second, .val (.int (1 : Int32))]) rfl ?_
            show Steps p.tables e below (T173.setTop (mkF m 165 #[.val (.int p0), .val (.int p1), .val (.int p2), .val (.int p3), .val (.int p4), .val (.long (1048576 : Int64)), .second, .val (.ref b5), .val (.int (1 : Int32)), .val (.long ((p0.toInt64) + (p1.toInt64))), .second, .val (.int (1 : Int32))] [])) _
            refine XS.iload X173.here hx rfl (hb hby at_165) rfl ?_
            show Steps p.tables e below (T173.setTop (mkF m 167 #[.val (.int p0), .val (.int p1), .val (.int p2), .val (.int p3), .val (.int p4), .val (.long (1048576 : Int64)), .second, .val (.ref b5), .val (.int (1 : Int32)), .val (.long ((p0.toInt64) + (p1.toInt64))), .second, .val (.int (1 : Int32))] [(.int (1 : Int32))])) _
            refine XS.aload X173.here hx rfl (hb hby at_167) rfl rfl ?_
            exact kont
          obtain ⟨cq178, kq178, q178a, q178b, q178c⟩ := isOf hZ rfl Et173
          obtain ⟨_, _, ⟨T178, L178, k178, n178⟩, -, X178, ⟨Lc178, hQ178, l178, y178, z178⟩, st178⟩ := X173.virtualBack hx (y := (⟨"com/example/arkivsmed/arkivsmed/xml/TextCount", "line", "()I"⟩ : MethodName)) (z := (⟨"com/example/arkivsmed/arkivsmed/xml/TextCount", "line", "()I"⟩ : MethodName)) hown (mvT hZ (hw _ (List.mem_of_getElem? (i := 94) rfl))) (mvT hZ (hw _ (List.mem_of_getElem? (i := 95) rfl))) (notFace_of_selects (args := #[]) (mvT hZ (hw _ (List.mem_of_getElem? (i := 97) rfl)))) (mvT hZ (hw _ (List.mem_of_getElem? (i := 97) rfl))) (mvT hZ (hw _ (List.mem_of_getElem? (i := 96) rfl))) (by decide) (backOf (W := 1) (rm15 l Z a0 hw [] b5 d el kc ((((0 : Int64) + p0.toInt64) + p1.toInt64) + p2.toInt64) (1 : Int32) (0 : Int32) (fun _ => Value.null)  T173.heap n0 Z173 ⟨Et173, Fo173, Fc173, Fl173, ⟨Ed173, Fe173, Fh173, Ft173, Ad173, Od173, nde173, gd173, ge173⟩, ntd173, nte173, gt173, OL173⟩) hZ (hw _ (List.mem_of_getElem? (i := 98) rfl)) (hw _ (List.mem_of_getElem? (i := 3) rfl)) (by decide) (by decide)) q178a q178c (g := (mkF m 169 #[.val (.int p0), .val (.int p1), .val (.int p2), .val (.int p3), .val (.int p4), .val (.long (1048576 : Int64)), .second, .val (.ref b5), .val (.int (1 : Int32)), .val (.long ((p0.toInt64) + (p1.toInt64))), .second, .val (.int (1 : Int32))] [(.ref b5), (.int (1 : Int32))])) rfl (by rw [hml]; rfl) (Steps.refl _) (argsL := []) (rest := [(.int (1 : Int32))]) (lenOf pd_10 rfl) rfl (by show 2 * 0 + _ ≤ _; exact Nat.le_of_eq rfl) (hb hby at_169) (fun _ _ => ⟨rfl, rfl, (by decide : 3 + 0 ≤ _), (by decide : 23 + 0 ≤ _)⟩)
          dsimp only [Pt.U, Pt.locs, Pt.cells, Pt.slots] at X178 l178 y178 z178 st178 hQ178
          subst l178 y178 z178
          obtain ⟨rfl, N178q, Z178, H178⟩ := hQ178
          have N178 := Fr.app N173 N178q
          obtain ⟨Et178, Fo178, Fc178, Fl178, Dq178, ntd178, nte178, gt178, OL178⟩ := id H178
          obtain ⟨Ed178, Fe178, Fh178, Ft178, Ad178, Od178, nde178, gd178, ge178⟩ := id Dq178
          have pre179 : ∀ t, Steps p.tables e below (T178.setTop (mkF m 172 #[.val (.int p0), .val (.int p1), .val (.int p2), .val (.int p3), .val (.int p4), .val (.long (1048576 : Int64)), .second, .val (.ref b5), .val (.int (1 : Int32)), .val (.long ((p0.toInt64) + (p1.toInt64))), .second, .val (.int (1 : Int32))] [(.int (1 : Int32)), (.int (1 : Int32))])) t → Steps p.tables e below (s₁.setTop (entryFrame m #[(.int p0), (.int p1), (.int p2), (.int p3), (.int p4)] maxLocals)) t := fun t kont => pre177 t (st178.trans kont)
          have pre180 : ∀ t, Steps p.tables e below (T178.setTop (mkF m 187 #[.val (.int p0), .val (.int p1), .val (.int p2), .val (.int p3), .val (.int p4), .val (.long (1048576 : Int64)), .second, .val (.ref b5), .val (.int (1 : Int32)), .val (.long ((p0.toInt64) + (p1.toInt64))), .second, .val (.int (1 : Int32))] [(.int (1 : Int32))])) t → Steps p.tables e below (s₁.setTop (entryFrame m #[(.int p0), (.int p1), (.int p2), (.int p3), (.int p4)] maxLocals)) t := by
            intro t kont
            refine pre179 t ?_
            show Steps p.tables e below (T178.setTop (mkF m 172 #[.val (.int p0), .val (.int p1), .val (.int p2), .val (.int p3), .val (.int p4), .val (.long (1048576 : Int64)), .second, .val (.ref b5), .val (.int (1 : Int32)), .val (.long ((p0.toInt64) + (p1.toInt64))), .second, .val (.int (1 : Int32))] [(.int (1 : Int32)), (.int (1 : Int32))])) _
            refine XS.iload X178.here hx rfl (hb hby at_172) rfl ?_
            show Steps p.tables e below (T178.setTop (mkF m 174 #[.val (.int p0), .val (.int p1), .val (.int p2), .val (.int p3), .val (.int p4), .val (.long (1048576 : Int64)), .second, .val (.ref b5), .val (.int (1 : Int32)), .val (.long ((p0.toInt64) + (p1.toInt64))), .second, .val (.int (1 : Int32))] [(.int (1 : Int32)), (.int (1 : Int32)), (.int (1 : Int32))])) _
            refine XS.icmpNo X178.here hx rfl (hb hby at_174) rfl (teq (by decide)).2 ?_
            show Steps p.tables e below (T178.setTop (mkF m 177 #[.val (.int p0), .val (.int p1), .val (.int p2), .val (.int p3), .val (.int p4), .val (.long (1048576 : Int64)), .second, .val (.ref b5), .val (.int (1 : Int32)), .val (.long ((p0.toInt64) + (p1.toInt64))), .second, .val (.int (1 : Int32))] [(.int (1 : Int32))])) _
            refine XS.iconst X178.here hx rfl (hb hby at_177) ?_
            show Steps p.tables e below (T178.setTop (mkF m 178 #[.val (.int p0), .val (.int p1), .val (.int p2), .val (.int p3), .val (.int p4), .val (.long (1048576 : Int64)), .second, .val (.ref b5), .val (.int (1 : Int32)), .val (.long ((p0.toInt64) + (p1.toInt64))), .second, .val (.int (1 : Int32))] [(.int (1 : Int32)), (.int (1 : Int32))])) _
            refine XS.goto X178.here hx rfl (pc0 := 178) (pc' := 182) rfl (hb hby at_178) (by decide) (by decide) ?_
            show Steps p.tables e below (T178.setTop (mkF m 182 #[.val (.int p0), .val (.int p1), .val (.int p2), .val (.int p3), .val (.int p4), .val (.long (1048576 : Int64)), .second, .val (.ref b5), .val (.int (1 : Int32)), .val (.long ((p0.toInt64) + (p1.toInt64))), .second, .val (.int (1 : Int32))] [(.int (1 : Int32)), (.int (1 : Int32))])) _
            refine XS.iand X178.here hx rfl (hb hby at_182) rfl ?_
            show Steps p.tables e below (T178.setTop (mkF m 183 #[.val (.int p0), .val (.int p1), .val (.int p2), .val (.int p3), .val (.int p4), .val (.long (1048576 : Int64)), .second, .val (.ref b5), .val (.int (1 : Int32)), .val (.long ((p0.toInt64) + (p1.toInt64))), .second, .val (.int (1 : Int32))] [(.int (1 : Int32))])) _
            refine XS.istore X178.here hx rfl (hb hby at_183) rfl (l' := #[.val (.int p0), .val (.int p1), .val (.int p2), .val (.int p3), .val (.int p4), .val (.long (1048576 : Int64)), .second, .val (.ref b5), .val (.int (1 : Int32)), .val (.long ((p0.toInt64) + (p1.toInt64))), .second, .val (.int (1 : Int32))]) rfl ?_
            show Steps p.tables e below (T178.setTop (mkF m 185 #[.val (.int p0), .val (.int p1), .val (.int p2), .val (.int p3), .val (.int p4), .val (.long (1048576 : Int64)), .second, .val (.ref b5), .val (.int (1 : Int32)), .val (.long ((p0.toInt64) + (p1.toInt64))), .second, .val (.int (1 : Int32))] [])) _
            refine XS.iload X178.here hx rfl (hb hby at_185) rfl ?_
            exact kont
          obtain ⟨fs, hr, hrun, hended, hW, hsame⟩ := X178.leave (v := some (.int (1 : Int32))) (fun h => by rw [Bd.returns] at h; cases h) (BodyLoose.notSynchronized Bd)
          refine ⟨_, _, pre180 _ ?_, hrun, hended, _, _, rfl, ?_, ⟨_, rfl⟩, hW, hsame.mono (by decide) (by decide)⟩
          · exact retN X178 hx (t := .boolean) Bd.returns (by simp) (hb hby at_187) hr
          · show Q0 Z p0 p1 p2 p3 p4 w h0 n0 _ T178.heap _
            exact ⟨rfl, N178⟩
        · exfalso
          exact hc154 (by rw [hv154]; unfold own_add; simp only [own_z])
      · have pre181 : ∀ t, Steps p.tables e below (T167.setTop (mkF m 102 #[.val (.int p0), .val (.int p1), .val (.int p2), .val (.int p3), .val (.int p4), .val (.long (1048576 : Int64)), .second, .val (.ref b5), .val (.int (1 : Int32)), .val (.long ((p0.toInt64) + (p1.toInt64))), .second, .val (.int (1 : Int32))] [(.int ((((p3.toUInt32 >>> ((8 : Int32) &&& 31).toUInt32).toInt32) &&& (255 : Int32)).toUInt32.toUInt16.toUInt32.toInt32)), (.ref b5)])) t → Steps p.tables e below (s₁.setTop (entryFrame m #[(.int p0), (.int p1), (.int p2), (.int p3), (.int p4)] maxLocals)) t := by
          intro t kont
          refine pre171 t ?_
          show Steps p.tables e below (T167.setTop (mkF m 88 #[.val (.int p0), .val (.int p1), .val (.int p2), .val (.int p3), .val (.int p4), .val (.long (1048576 : Int64)), .second, .val (.ref b5), .val (.int (1 : Int32)), .val (.long ((p0.toInt64) + (p1.toInt64))), .second, .val (.int (1 : Int32))] [(.int (p3 &&& (1 : Int32)))])) _
          refine XS.ifNo X167.here hx rfl (hb hby at_88) rfl ((if0 _ _).trans (feq hc88).1) ?_
          show Steps p.tables e below (T167.setTop (mkF m 91 #[.val (.int p0), .val (.int p1), .val (.int p2), .val (.int p3), .val (.int p4), .val (.long (1048576 : Int64)), .second, .val (.ref b5), .val (.int (1 : Int32)), .val (.long ((p0.toInt64) + (p1.toInt64))), .second, .val (.int (1 : Int32))] [])) _
          refine XS.aload X167.here hx rfl (hb hby at_91) rfl rfl ?_
          show Steps p.tables e below (T167.setTop (mkF m 93 #[.val (.int p0), .val (.int p1), .val (.int p2), .val (.int p3), .val (.int p4), .val (.long (1048576 : Int64)), .second, .val (.ref b5), .val (.int (1 : Int32)), .val (.long ((p0.toInt64) + (p1.toInt64))), .second, .val (.int (1 : Int32))] [(.ref b5)])) _
          refine XS.iloadN X167.here hx rfl (hb hby at_93) rfl ?_
          show Steps p.tables e below (T167.setTop (mkF m 94 #[.val (.int p0), .val (.int p1), .val (.int p2), .val (.int p3), .val (.int p4), .val (.long (1048576 : Int64)), .second, .val (.ref b5), .val (.int (1 : Int32)), .val (.long ((p0.toInt64) + (p1.toInt64))), .second, .val (.int (1 : Int32))] [(.int p3), (.ref b5)])) _
          refine XS.bipush X167.here hx rfl (hb hby at_94) ?_
          show Steps p.tables e below (T167.setTop (mkF m 96 #[.val (.int p0), .val (.int p1), .val (.int p2), .val (.int p3), .val (.int p4), .val (.long (1048576 : Int64)), .second, .val (.ref b5), .val (.int (1 : Int32)), .val (.long ((p0.toInt64) + (p1.toInt64))), .second, .val (.int (1 : Int32))] [(.int (8 : Int32)), (.int p3), (.ref b5)])) _
          refine XS.iushr X167.here hx rfl (hb hby at_96) rfl ?_
          show Steps p.tables e below (T167.setTop (mkF m 97 #[.val (.int p0), .val (.int p1), .val (.int p2), .val (.int p3), .val (.int p4), .val (.long (1048576 : Int64)), .second, .val (.ref b5), .val (.int (1 : Int32)), .val (.long ((p0.toInt64) + (p1.toInt64))), .second, .val (.int (1 : Int32))] [(.int ((p3.toUInt32 >>> ((8 : Int32) &&& 31).toUInt32).toInt32)), (.ref b5)])) _
          refine XS.sipush X167.here hx rfl (hb hby at_97) ?_
          show Steps p.tables e below (T167.setTop (mkF m 100 #[.val (.int p0), .val (.int p1), .val (.int p2), .val (.int p3), .val (.int p4), .val (.long (1048576 : Int64)), .second, .val (.ref b5), .val (.int (1 : Int32)), .val (.long ((p0.toInt64) + (p1.toInt64))), .second, .val (.int (1 : Int32))] [(.int (255 : Int32)), (.int ((p3.toUInt32 >>> ((8 : Int32) &&& 31).toUInt32).toInt32)), (.ref b5)])) _
          refine XS.iand X167.here hx rfl (hb hby at_100) rfl ?_
          show Steps p.tables e below (T167.setTop (mkF m 101 #[.val (.int p0), .val (.int p1), .val (.int p2), .val (.int p3), .val (.int p4), .val (.long (1048576 : Int64)), .second, .val (.ref b5), .val (.int (1 : Int32)), .val (.long ((p0.toInt64) + (p1.toInt64))), .second, .val (.int (1 : Int32))] [(.int (((p3.toUInt32 >>> ((8 : Int32) &&& 31).toUInt32).toInt32) &&& (255 : Int32))), (.ref b5)])) _
          refine XS.i2c X167.here hx rfl (hb hby at_101) rfl ?_
          exact kont
        obtain ⟨_, _, ⟨T182, L182, k182, n182⟩, -, X182, ⟨Lc182, hQ182, l182, y182, z182⟩, st182⟩ := Jvm.LawKit.callS X167 hx (y := (⟨"java/lang/String", "valueOf", "(C)Ljava/lang/String;"⟩ : MethodName)) hown (mvT hZ (hw _ (List.mem_of_getElem? (i := 39) rfl))) (mvT hZ (hw _ (List.mem_of_getElem? (i := 40) rfl))) (mvT hZ (hw _ (List.mem_of_getElem? (i := 41) rfl))) (mvT hZ (hw _ (List.mem_of_getElem? (i := 42) rfl))) (by decide) (backOf (W := 1) (rm6 l Z a0 hw [] ((((p3.toUInt32 >>> ((8 : Int32) &&& 31).toUInt32).toInt32) &&& (255 : Int32)).toUInt32.toUInt16.toUInt32.toInt32) w  T167.heap n0 Z167 OL167 Sc hw0 (own_ch _)) hZ (hw _ (List.mem_of_getElem? (i := 42) rfl)) (hw _ (List.mem_of_getElem? (i := 41) rfl)) (by decide) (by decide)) (g := (mkF m 102 #[.val (.int p0), .val (.int p1), .val (.int p2), .val (.int p3), .val (.int p4), .val (.long (1048576 : Int64)), .second, .val (.ref b5), .val (.int (1 : Int32)), .val (.long ((p0.toInt64) + (p1.toInt64))), .second, .val (.int (1 : Int32))] [(.int ((((p3.toUInt32 >>> ((8 : Int32) &&& 31).toUInt32).toInt32) &&& (255 : Int32)).toUInt32.toUInt16.toUInt32.toInt32)), (.ref b5)])) rfl (by rw [hml]; rfl) (argsL := [(.int ((((p3.toUInt32 >>> ((8 : Int32) &&& 31).toUInt32).toInt32) &&& (255 : Int32)).toUInt32.toUInt16.toUInt32.toInt32))]) (rest := [(.ref b5)]) (lenOf pd_11 rfl) rfl (by show 2 * 0 + _ ≤ _; exact Nat.le_of_eq rfl) (hb hby at_102) (fun _ _ => ⟨rfl, rfl, (by decide : 3 + 2 ≤ _), (by decide : 23 + 5 ≤ _)⟩)
        dsimp only [Pt.U, Pt.locs, Pt.cells, Pt.slots] at X182 l182 y182 z182 st182 hQ182
        subst l182 y182 z182
        obtain ⟨str, rfl, S182, N182q, K182, Es182⟩ := hQ182
        have N182 := Fr.app N167 N182q
        have f182_0 := Exa.keep Et167 K182
        have f182_1 := Fld.keep Fo167 K182 nin0
        have f182_2 := Fld.keep Fc167 K182 nin0
        have f182_3 := Fld.keep Fl167 K182 nin0
        have f182_4 := Old.keep OL167 K182 all0
        have f182_5 := Exa.keep Ed167 K182
        have f182_6 := Fld.keep Fe167 K182 nin0
        have f182_7 := Fld.keep Fh167 K182 nin0
        have f182_8 := Fld.keep Ft167 K182 nin0
        have f182_9 := Ad167.keep K182 nin0
        have Z182 : n0 ≤ T182.heap.size := Nat.le_trans Z167 (K182).1
        have pre183 : ∀ t, Steps p.tables e below (T182.setTop (mkF m 105 #[.val (.int p0), .val (.int p1), .val (.int p2), .val (.int p3), .val (.int p4), .val (.long (1048576 : Int64)), .second, .val (.ref b5), .val (.int (1 : Int32)), .val (.long ((p0.toInt64) + (p1.toInt64))), .second, .val (.int (1 : Int32))] [(.ref str), (.ref b5)])) t → Steps p.tables e below (s₁.setTop (entryFrame m #[(.int p0), (.int p1), (.int p2), (.int p3), (.int p4)] maxLocals)) t := fun t kont => pre181 t (st182 _ kont)
        have pre184 : ∀ t, Steps p.tables e below (T182.setTop (mkF m 107 #[.val (.int p0), .val (.int p1), .val (.int p2), .val (.int p3), .val (.int p4), .val (.long (1048576 : Int64)), .second, .val (.ref b5), .val (.int (1 : Int32)), .val (.long ((p0.toInt64) + (p1.toInt64))), .second, .val (.int (1 : Int32))] [(.int p4), (.ref str), (.ref b5)])) t → Steps p.tables e below (s₁.setTop (entryFrame m #[(.int p0), (.int p1), (.int p2), (.int p3), (.int p4)] maxLocals)) t := by
          intro t kont
          refine pre183 t ?_
          show Steps p.tables e below (T182.setTop (mkF m 105 #[.val (.int p0), .val (.int p1), .val (.int p2), .val (.int p3), .val (.int p4), .val (.long (1048576 : Int64)), .second, .val (.ref b5), .val (.int (1 : Int32)), .val (.long ((p0.toInt64) + (p1.toInt64))), .second, .val (.int (1 : Int32))] [(.ref str), (.ref b5)])) _
          refine XS.iload X182.here hx rfl (hb hby at_105) rfl ?_
          exact kont
        obtain ⟨cq185, kq185, q185a, q185b, q185c⟩ := isOf hZ rfl f182_0
        obtain ⟨_, _, ⟨T185, L185, k185, n185⟩, -, X185, ⟨Lc185, hQ185, l185, y185, z185⟩, st185⟩ := X182.virtualBack hx (y := (⟨"com/example/arkivsmed/arkivsmed/xml/TextCount", "start", "(Ljava/lang/String;I)V"⟩ : MethodName)) (z := (⟨"com/example/arkivsmed/arkivsmed/xml/TextCount", "start", "(Ljava/lang/String;I)V"⟩ : MethodName)) hown (mvT hZ (hw _ (List.mem_of_getElem? (i := 63) rfl))) (mvT hZ (hw _ (List.mem_of_getElem? (i := 64) rfl))) (notFace_of_selects (args := #[]) (mvT hZ (hw _ (List.mem_of_getElem? (i := 66) rfl)))) (mvT hZ (hw _ (List.mem_of_getElem? (i := 66) rfl))) (mvT hZ (hw _ (List.mem_of_getElem? (i := 65) rfl))) (by decide) (backOf (W := 0) (rm10 l Z a0 hw [] b5 str p4 d el kc (((0 : Int64) + p0.toInt64) + p1.toInt64) (1 : Int32)  T182.heap n0 Z182 ⟨f182_0, f182_1, f182_2, f182_3, ⟨f182_5, f182_6, f182_7, f182_8, f182_9, Od167, nde167, gd167, ge167⟩, ntd167, nte167, gt167, f182_4⟩ Es182) hZ (hw _ (List.mem_of_getElem? (i := 67) rfl)) (hw _ (List.mem_of_getElem? (i := 3) rfl)) (by decide) (by decide)) q185a q185c (g := (mkF m 107 #[.val (.int p0), .val (.int p1), .val (.int p2), .val (.int p3), .val (.int p4), .val (.long (1048576 : Int64)), .second, .val (.ref b5), .val (.int (1 : Int32)), .val (.long ((p0.toInt64) + (p1.toInt64))), .second, .val (.int (1 : Int32))] [(.int p4), (.ref str), (.ref b5)])) rfl (by rw [hml]; rfl) (Steps.refl _) (argsL := [(.ref str), (.int p4)]) (rest := []) (lenOf pd_12 rfl) rfl (by show 2 * 0 + _ ≤ _; exact Nat.le_of_eq rfl) (hb hby at_107) (fun _ _ => ⟨rfl, rfl, (by decide : 5 + 0 ≤ _), (by decide : 28 + 0 ≤ _)⟩)
        dsimp only [Pt.U, Pt.locs, Pt.cells, Pt.slots] at X185 l185 y185 z185 st185 hQ185
        subst l185 y185 z185
        obtain ⟨rfl, N185q, Z185, H185⟩ := hQ185
        have N185 := Fr.app N182 N185q
        obtain ⟨Et185, Fo185, Fc185, Fl185, Dq185, ntd185, nte185, gt185, OL185⟩ := id H185
        obtain ⟨Ed185, Fe185, Fh185, Ft185, Ad185, Od185, nde185, gd185, ge185⟩ := id Dq185
        have pre186 : ∀ t, Steps p.tables e below (T185.setTop (mkF m 110 #[.val (.int p0), .val (.int p1), .val (.int p2), .val (.int p3), .val (.int p4), .val (.long (1048576 : Int64)), .second, .val (.ref b5), .val (.int (1 : Int32)), .val (.long ((p0.toInt64) + (p1.toInt64))), .second, .val (.int (1 : Int32))] [])) t → Steps p.tables e below (s₁.setTop (entryFrame m #[(.int p0), (.int p1), (.int p2), (.int p3), (.int p4)] maxLocals)) t := fun t kont => pre184 t (st185.trans kont)
        have pre187 : ∀ t, Steps p.tables e below (T185.setTop (mkF m 113 #[.val (.int p0), .val (.int p1), .val (.int p2), .val (.int p3), .val (.int p4), .val (.long (1048576 : Int64)), .second, .val (.ref b5), .val (.int (1 : Int32)), .val (.long ((p0.toInt64) + (p1.toInt64))), .second, .val (.int (1 : Int32))] [(.int (p3 &&& (2 : Int32)))])) t → Steps p.tables e below (s₁.setTop (entryFrame m #[(.int p0), (.int p1), (.int p2), (.int p3), (.int p4)] maxLocals)) t := by
          intro t kont
          refine pre186 t ?_
          show Steps p.tables e below (T185.setTop (mkF m 110 #[.val (.int p0), .val (.int p1), .val (.int p2), .val (.int p3), .val (.int p4), .val (.long (1048576 : Int64)), .second, .val (.ref b5), .val (.int (1 : Int32)), .val (.long ((p0.toInt64) + (p1.toInt64))), .second, .val (.int (1 : Int32))] [])) _
          refine XS.iloadN X185.here hx rfl (hb hby at_110) rfl ?_
          show Steps p.tables e below (T185.setTop (mkF m 111 #[.val (.int p0), .val (.int p1), .val (.int p2), .val (.int p3), .val (.int p4), .val (.long (1048576 : Int64)), .second, .val (.ref b5), .val (.int (1 : Int32)), .val (.long ((p0.toInt64) + (p1.toInt64))), .second, .val (.int (1 : Int32))] [(.int p3)])) _
          refine XS.iconst X185.here hx rfl (hb hby at_111) ?_
          show Steps p.tables e below (T185.setTop (mkF m 112 #[.val (.int p0), .val (.int p1), .val (.int p2), .val (.int p3), .val (.int p4), .val (.long (1048576 : Int64)), .second, .val (.ref b5), .val (.int (1 : Int32)), .val (.long ((p0.toInt64) + (p1.toInt64))), .second, .val (.int (1 : Int32))] [(.int (2 : Int32)), (.int p3)])) _
          refine XS.iand X185.here hx rfl (hb hby at_112) rfl ?_
          exact kont
        by_cases hc113 : (p3 &&& (2 : Int32)) = (0 : Int32)
        · have pre188 : ∀ t, Steps p.tables e below (T185.setTop (mkF m 135 #[.val (.int p0), .val (.int p1), .val (.int p2), .val (.int p3), .val (.int p4), .val (.long (1048576 : Int64)), .second, .val (.ref b5), .val (.int (1 : Int32)), .val (.long (0 : Int64)), .second, .val (.int p4)] [(.int p2), (.ref b5), (.int (1 : Int32))])) t → Steps p.tables e below (s₁.setTop (entryFrame m #[(.int p0), (.int p1), (.int p2), (.int p3), (.int p4)] maxLocals)) t := by
            intro t kont
            refine pre187 t ?_
            show Steps p.tables e below (T185.setTop (mkF m 113 #[.val (.int p0), .val (.int p1), .val (.int p2), .val (.int p3), .val (.int p4), .val (.long (1048576 : Int64)), .second, .val (.ref b5), .val (.int (1 : Int32)), .val (.long ((p0.toInt64) + (p1.toInt64))), .second, .val (.int (1 : Int32))] [(.int (p3 &&& (2 : Int32)))])) _
            refine XS.ifYes X185.here hx rfl (pc0 := 113) (pc' := 123) rfl (hb hby at_113) rfl ((if0 _ _).trans (teq hc113).1) (by decide) (by decide) ?_
            show Steps p.tables e below (T185.setTop (mkF m 123 #[.val (.int p0), .val (.int p1), .val (.int p2), .val (.int p3), .val (.int p4), .val (.long (1048576 : Int64)), .second, .val (.ref b5), .val (.int (1 : Int32)), .val (.long ((p0.toInt64) + (p1.toInt64))), .second, .val (.int (1 : Int32))] [])) _
            refine XS.lconst X185.here hx rfl (hb hby at_123) ?_
            show Steps p.tables e below (T185.setTop (mkF m 124 #[.val (.int p0), .val (.int p1), .val (.int p2), .val (.int p3), .val (.int p4), .val (.long (1048576 : Int64)), .second, .val (.ref b5), .val (.int (1 : Int32)), .val (.long ((p0.toInt64) + (p1.toInt64))), .second, .val (.int (1 : Int32))] [(.long (0 : Int64))])) _
            refine XS.lstore X185.here hx rfl (hb hby at_124) rfl (l' := #[.val (.int p0), .val (.int p1), .val (.int p2), .val (.int p3), .val (.int p4), .val (.long (1048576 : Int64)), .second, .val (.ref b5), .val (.int (1 : Int32)), .val (.long (0 : Int64)), .second, .val (.int (1 : Int32))]) rfl ?_
            show Steps p.tables e below (T185.setTop (mkF m 126 #[.val (.int p0), .val (.int p1), .val (.int p2), .val (.int p3), .val (.int p4), .val (.long (1048576 : Int64)), .second, .val (.ref b5), .val (.int (1 : Int32)), .val (.long (0 : Int64)), .second, .val (.int (1 : Int32))] [])) _
            refine XS.iload X185.here hx rfl (hb hby at_126) rfl ?_
            show Steps p.tables e below (T185.setTop (mkF m 128 #[.val (.int p0), .val (.int p1), .val (.int p2), .val (.int p3), .val (.int p4), .val (.long (1048576 : Int64)), .second, .val (.ref b5), .val (.int (1 : Int32)), .val (.long (0 : Int64)), .second, .val (.int (1 : Int32))] [(.int p4)])) _
            refine XS.istore X185.here hx rfl (hb hby at_128) rfl (l' := #[.val (.int p0), .val (.int p1), .val (.int p2), .val (.int p3), .val (.int p4), .val (.long (1048576 : Int64)), .second, .val (.ref b5), .val (.int (1 : Int32)), .val (.long (0 : Int64)), .second, .val (.int p4)]) rfl ?_
            show Steps p.tables e below (T185.setTop (mkF m 130 #[.val (.int p0), .val (.int p1), .val (.int p2), .val (.int p3), .val (.int p4), .val (.long (1048576 : Int64)), .second, .val (.ref b5), .val (.int (1 : Int32)), .val (.long (0 : Int64)), .second, .val (.int p4)] [])) _
            refine XS.iload X185.here hx rfl (hb hby at_130) rfl ?_
            show Steps p.tables e below (T185.setTop (mkF m 132 #[.val (.int p0), .val (.int p1), .val (.int p2), .val (.int p3), .val (.int p4), .val (.long (1048576 : Int64)), .second, .val (.ref b5), .val (.int (1 : Int32)), .val (.long (0 : Int64)), .second, .val (.int p4)] [(.int (1 : Int32))])) _
            refine XS.aload X185.here hx rfl (hb hby at_132) rfl rfl ?_
            show Steps p.tables e below (T185.setTop (mkF m 134 #[.val (.int p0), .val (.int p1), .val (.int p2), .val (.int p3), .val (.int p4), .val (.long (1048576 : Int64)), .second, .val (.ref b5), .val (.int (1 : Int32)), .val (.long (0 : Int64)), .second, .val (.int p4)] [(.ref b5), (.int (1 : Int32))])) _
            refine XS.iloadN X185.here hx rfl (hb hby at_134) rfl ?_
            exact kont
          obtain ⟨cq189, kq189, q189a, q189b, q189c⟩ := isOf hZ rfl Et185
          obtain ⟨_, _, ⟨T189, L189, k189, n189⟩, -, X189, ⟨Lc189, hQ189, l189, y189, z189⟩, st189⟩ := X185.virtualBack hx (y := (⟨"com/example/arkivsmed/arkivsmed/xml/TextCount", "add", "(I)Z"⟩ : MethodName)) (z := (⟨"com/example/arkivsmed/arkivsmed/xml/TextCount", "add", "(I)Z"⟩ : MethodName)) hown (mvT hZ (hw _ (List.mem_of_getElem? (i := 31) rfl))) (mvT hZ (hw _ (List.mem_of_getElem? (i := 32) rfl))) (notFace_of_selects (args := #[]) (mvT hZ (hw _ (List.mem_of_getElem? (i := 34) rfl)))) (mvT hZ (hw _ (List.mem_of_getElem? (i := 34) rfl))) (mvT hZ (hw _ (List.mem_of_getElem? (i := 33) rfl))) (by decide) (backOf (W := 1) (rm5 l Z a0 hw [] b5 p2 d el kc (0 : Int64) p4 (16 : Int32) (fun i => if i = 16 then Value.ref str else (fun _ => Value.null) i)  T185.heap n0 Z185 ⟨Et185, Fo185, Fc185, Fl185, ⟨Ed185, Fe185, Fh185, Ft185, Ad185, Od185, nde185, gd185, ge185⟩, ntd185, nte185, gt185, OL185⟩) hZ (hw _ (List.mem_of_getElem? (i := 35) rfl)) (hw _ (List.mem_of_getElem? (i := 3) rfl)) (by decide) (by decide)) q189a q189c (g := (mkF m 135 #[.val (.int p0), .val (.int p1), .val (.int p2), .val (.int p3), .val (.int p4), .val (.long (1048576 : Int64)), .second, .val (.ref b5), .val (.int (1 : Int32)), .val (.long (0 : Int64)), .second, .val (.int p4)] [(.int p2), (.ref b5), (.int (1 : Int32))])) rfl (by rw [hml]; rfl) (Steps.refl _) (argsL := [(.int p2)]) (rest := [(.int (1 : Int32))]) (lenOf pd_9 rfl) rfl (by show 2 * 0 + _ ≤ _; exact Nat.le_of_eq rfl) (hb hby at_135) (fun _ _ => ⟨rfl, rfl, (by decide : 5 + 0 ≤ _), (by decide : 28 + 0 ≤ _)⟩)
          dsimp only [Pt.U, Pt.locs, Pt.cells, Pt.slots] at X189 l189 y189 z189 st189 hQ189
          subst l189 y189 z189
          obtain ⟨rfl, N189q, Z189, H189⟩ := hQ189
          have N189 := Fr.app N185 N189q
          obtain ⟨Et189, Fo189, Fc189, Fl189, Dq189, ntd189, nte189, gt189, OL189⟩ := id H189
          obtain ⟨Ed189, Fe189, Fh189, Ft189, Ad189, Od189, nde189, gd189, ge189⟩ := id Dq189
          have pre190 : ∀ t, Steps p.tables e below (T189.setTop (mkF m 138 #[.val (.int p0), .val (.int p1), .val (.int p2), .val (.int p3), .val (.int p4), .val (.long (1048576 : Int64)), .second, .val (.ref b5), .val (.int (1 : Int32)), .val (.long (0 : Int64)), .second, .val (.int p4)] [(.int (own_add ((0 : Int64) + p2.toInt64))), (.int (1 : Int32))])) t → Steps p.tables e below (s₁.setTop (entryFrame m #[(.int p0), (.int p1), (.int p2), (.int p3), (.int p4)] maxLocals)) t := fun t kont => pre188 t (st189.trans kont)
          have pre191 : ∀ t, Steps p.tables e below (T189.setTop (mkF m 146 #[.val (.int p0), .val (.int p1), .val (.int p2), .val (.int p3), .val (.int p4), .val (.long (1048576 : Int64)), .second, .val (.ref b5), .val (.int (1 : Int32)), .val (.long (0 : Int64)), .second, .val (.int p4)] [(.int (lcmpW ((0 : Int64) + (p2.toInt64)) (1048576 : Int64))), (.int (own_add ((0 : Int64) + p2.toInt64))), (.int (1 : Int32))])) t → Steps p.tables e below (s₁.setTop (entryFrame m #[(.int p0), (.int p1), (.int p2), (.int p3), (.int p4)] maxLocals)) t := by
            intro t kont
            refine pre190 t ?_
            show Steps p.tables e below (T189.setTop (mkF m 138 #[.val (.int p0), .val (.int p1), .val (.int p2), .val (.int p3), .val (.int p4), .val (.long (1048576 : Int64)), .second, .val (.ref b5), .val (.int (1 : Int32)), .val (.long (0 : Int64)), .second, .val (.int p4)] [(.int (own_add ((0 : Int64) + p2.toInt64))), (.int (1 : Int32))])) _
            refine XS.lload X189.here hx rfl (hb hby at_138) rfl ?_
            show Steps p.tables e below (T189.setTop (mkF m 140 #[.val (.int p0), .val (.int p1), .val (.int p2), .val (.int p3), .val (.int p4), .val (.long (1048576 : Int64)), .second, .val (.ref b5), .val (.int (1 : Int32)), .val (.long (0 : Int64)), .second, .val (.int p4)] [(.long (0 : Int64)), (.int (own_add ((0 : Int64) + p2.toInt64))), (.int (1 : Int32))])) _
            refine XS.iloadN X189.here hx rfl (hb hby at_140) rfl ?_
            show Steps p.tables e below (T189.setTop (mkF m 141 #[.val (.int p0), .val (.int p1), .val (.int p2), .val (.int p3), .val (.int p4), .val (.long (1048576 : Int64)), .second, .val (.ref b5), .val (.int (1 : Int32)), .val (.long (0 : Int64)), .second, .val (.int p4)] [(.int p2), (.long (0 : Int64)), (.int (own_add ((0 : Int64) + p2.toInt64))), (.int (1 : Int32))])) _
            refine XS.i2l X189.here hx rfl (hb hby at_141) rfl ?_
            show Steps p.tables e below (T189.setTop (mkF m 142 #[.val (.int p0), .val (.int p1), .val (.int p2), .val (.int p3), .val (.int p4), .val (.long (1048576 : Int64)), .second, .val (.ref b5), .val (.int (1 : Int32)), .val (.long (0 : Int64)), .second, .val (.int p4)] [(.long (p2.toInt64)), (.long (0 : Int64)), (.int (own_add ((0 : Int64) + p2.toInt64))), (.int (1 : Int32))])) _
            refine XS.ladd X189.here hx rfl (hb hby at_142) rfl ?_
            show Steps p.tables e below (T189.setTop (mkF m 143 #[.val (.int p0), .val (.int p1), .val (.int p2), .val (.int p3), .val (.int p4), .val (.long (1048576 : Int64)), .second, .val (.ref b5), .val (.int (1 : Int32)), .val (.long (0 : Int64)), .second, .val (.int p4)] [(.long ((0 : Int64) + (p2.toInt64))), (.int (own_add ((0 : Int64) + p2.toInt64))), (.int (1 : Int32))])) _
            refine XS.lload X189.here hx rfl (hb hby at_143) rfl ?_
            show Steps p.tables e below (T189.setTop (mkF m 145 #[.val (.int p0), .val (.int p1), .val (.int p2), .val (.int p3), .val (.int p4), .val (.long (1048576 : Int64)), .second, .val (.ref b5), .val (.int (1 : Int32)), .val (.long (0 : Int64)), .second, .val (.int p4)] [(.long (1048576 : Int64)), (.long ((0 : Int64) + (p2.toInt64))), (.int (own_add ((0 : Int64) + p2.toInt64))), (.int (1 : Int32))])) _
            refine XS.lcmp X189.here hx rfl (hb hby at_145) rfl ?_
            exact kont
          obtain ⟨v154, hv154⟩ : ∃ z : Int32, z = (if (1048576 : Int64) < ((0 : Int64) + (p2.toInt64)) then (0 : Int32) else (1 : Int32)) := ⟨_, rfl⟩
          have pre192 : ∀ t, Steps p.tables e below (T189.setTop (mkF m 154 #[.val (.int p0), .val (.int p1), .val (.int p2), .val (.int p3), .val (.int p4), .val (.long (1048576 : Int64)), .second, .val (.ref b5), .val (.int (1 : Int32)), .val (.long (0 : Int64)), .second, .val (.int p4)] [(.int v154), (.int (own_add ((0 : Int64) + p2.toInt64))), (.int (1 : Int32))])) t → Steps p.tables e below (s₁.setTop (entryFrame m #[(.int p0), (.int p1), (.int p2), (.int p3), (.int p4)] maxLocals)) t := by
            intro t kont
            refine pre191 t ?_
            by_cases j_146 : (1048576 : Int64) < ((0 : Int64) + (p2.toInt64))
            · rw [hv154, if_pos j_146] at kont
              show Steps p.tables e below (T189.setTop (mkF m 146 #[.val (.int p0), .val (.int p1), .val (.int p2), .val (.int p3), .val (.int p4), .val (.long (1048576 : Int64)), .second, .val (.ref b5), .val (.int (1 : Int32)), .val (.long (0 : Int64)), .second, .val (.int p4)] [(.int (lcmpW ((0 : Int64) + (p2.toInt64)) (1048576 : Int64))), (.int (own_add ((0 : Int64) + p2.toInt64))), (.int (1 : Int32))])) _
              refine XS.ifYes X189.here hx rfl (pc0 := 146) (pc' := 153) rfl (hb hby at_146) rfl ((if0 _ _).trans (tlt ((lw_gt _ _).mpr j_146)).2.2.1) (by decide) (by decide) ?_
              show Steps p.tables e below (T189.setTop (mkF m 153 #[.val (.int p0), .val (.int p1), .val (.int p2), .val (.int p3), .val (.int p4), .val (.long (1048576 : Int64)), .second, .val (.ref b5), .val (.int (1 : Int32)), .val (.long (0 : Int64)), .second, .val (.int p4)] [(.int (own_add ((0 : Int64) + p2.toInt64))), (.int (1 : Int32))])) _
              refine XS.iconst X189.here hx rfl (hb hby at_153) ?_
              exact kont
            · rw [hv154, if_neg j_146] at kont
              show Steps p.tables e below (T189.setTop (mkF m 146 #[.val (.int p0), .val (.int p1), .val (.int p2), .val (.int p3), .val (.int p4), .val (.long (1048576 : Int64)), .second, .val (.ref b5), .val (.int (1 : Int32)), .val (.long (0 : Int64)), .second, .val (.int p4)] [(.int (lcmpW ((0 : Int64) + (p2.toInt64)) (1048576 : Int64))), (.int (own_add ((0 : Int64) + p2.toInt64))), (.int (1 : Int32))])) _
              refine XS.ifNo X189.here hx rfl (hb hby at_146) rfl ((if0 _ _).trans (flt (fun q => j_146 ((lw_gt _ _).mp q))).2.2.1) ?_
              show Steps p.tables e below (T189.setTop (mkF m 149 #[.val (.int p0), .val (.int p1), .val (.int p2), .val (.int p3), .val (.int p4), .val (.long (1048576 : Int64)), .second, .val (.ref b5), .val (.int (1 : Int32)), .val (.long (0 : Int64)), .second, .val (.int p4)] [(.int (own_add ((0 : Int64) + p2.toInt64))), (.int (1 : Int32))])) _
              refine XS.iconst X189.here hx rfl (hb hby at_149) ?_
              show Steps p.tables e below (T189.setTop (mkF m 150 #[.val (.int p0), .val (.int p1), .val (.int p2), .val (.int p3), .val (.int p4), .val (.long (1048576 : Int64)), .second, .val (.ref b5), .val (.int (1 : Int32)), .val (.long (0 : Int64)), .second, .val (.int p4)] [(.int (1 : Int32)), (.int (own_add ((0 : Int64) + p2.toInt64))), (.int (1 : Int32))])) _
              refine XS.goto X189.here hx rfl (pc0 := 150) (pc' := 154) rfl (hb hby at_150) (by decide) (by decide) ?_
              exact kont
          by_cases hc154 : (own_add ((0 : Int64) + p2.toInt64)) = v154
          · have pre193 : ∀ t, Steps p.tables e below (T189.setTop (mkF m 169 #[.val (.int p0), .val (.int p1), .val (.int p2), .val (.int p3), .val (.int p4), .val (.long (1048576 : Int64)), .second, .val (.ref b5), .val (.int (1 : Int32)), .val (.long (0 : Int64)), .second, .val (.int p4)] [(.ref b5), (.int (1 : Int32))])) t → Steps p.tables e below (s₁.setTop (entryFrame m #[(.int p0), (.int p1), (.int p2), (.int p3), (.int p4)] maxLocals)) t := by
              intro t kont
              refine pre192 t ?_
              show Steps p.tables e below (T189.setTop (mkF m 154 #[.val (.int p0), .val (.int p1), .val (.int p2), .val (.int p3), .val (.int p4), .val (.long (1048576 : Int64)), .second, .val (.ref b5), .val (.int (1 : Int32)), .val (.long (0 : Int64)), .second, .val (.int p4)] [(.int v154), (.int (own_add ((0 : Int64) + p2.toInt64))), (.int (1 : Int32))])) _
              refine XS.icmpNo X189.here hx rfl (hb hby at_154) rfl (teq hc154).2 ?_
              show Steps p.tables e below (T189.setTop (mkF m 157 #[.val (.int p0), .val (.int p1), .val (.int p2), .val (.int p3), .val (.int p4), .val (.long (1048576 : Int64)), .second, .val (.ref b5), .val (.int (1 : Int32)), .val (.long (0 : Int64)), .second, .val (.int p4)] [(.int (1 : Int32))])) _
              refine XS.iconst X189.here hx rfl (hb hby at_157) ?_
              show Steps p.tables e below (T189.setTop (mkF m 158 #[.val (.int p0), .val (.int p1), .val (.int p2), .val (.int p3), .val (.int p4), .val (.long (1048576 : Int64)), .second, .val (.ref b5), .val (.int (1 : Int32)), .val (.long (0 : Int64)), .second, .val (.int p4)] [(.int (1 : Int32)), (.int (1 : Int32))])) _
              refine XS.goto X189.here hx rfl (pc0 := 158) (pc' := 162) rfl (hb hby at_158) (by decide) (by decide) ?_
              show Steps p.tables e below (T189.setTop (mkF m 162 #[.val (.int p0), .val (.int p1), .val (.int p2), .val (.int p3), .val (.int p4), .val (.long (1048576 : Int64)), .second, .val (.ref b5), .val (.int (1 : Int32)), .val (.long (0 : Int64)), .second, .val (.int p4)] [(.int (1 : Int32)), (.int (1 : Int32))])) _
              refine XS.iand X189.here hx rfl (hb hby at_162) rfl ?_
              show Steps p.tables e below (T189.setTop (mkF m 163 #[.val (.int p0), .val (.int p1), .val (.int p2), .val (.int p3), .val (.int p4), .val (.long (1048576 : Int64)), .second, .val (.ref b5), .val (.int (1 : Int32)), .val (.long (0 : Int64)), .second, .val (.int p4)] [(.int (1 : Int32))])) _
              refine XS.istore X189.here hx rfl (hb hby at_163) rfl (l' := #[.val (.int p0), .val (.int p1), .val (.int p2), .val (.int p3), .val (.int p4), .val (.long (1048576 : Int64)), .second, .val (.ref b5), .val (.int (1 : Int32)), .val (.long (0 : Int64)), .second, .val (.int p4)]) rfl ?_
              show Steps p.tables e below (T189.setTop (mkF m 165 #[.val (.int p0), .val (.int p1), .val (.int p2), .val (.int p3), .val (.int p4), .val (.long (1048576 : Int64)), .second, .val (.ref b5), .val (.int (1 : Int32)), .val (.long (0 : Int64)), .second, .val (.int p4)] [])) _
              refine XS.iload X189.here hx rfl (hb hby at_165) rfl ?_
              show Steps p.tables e below (T189.setTop (mkF m 167 #[.val (.int p0), .val (.int p1), .val (.int p2), .val (.int p3), .val (.int p4), .val (.long (1048576 : Int64)), .second, .val (.ref b5), .val (.int (1 : Int32)), .val (.long (0 : Int64)), .second, .val (.int p4)] [(.int (1 : Int32))])) _
              refine XS.aload X189.here hx rfl (hb hby at_167) rfl rfl ?_
              exact kont
            obtain ⟨cq194, kq194, q194a, q194b, q194c⟩ := isOf hZ rfl Et189
            obtain ⟨_, _, ⟨T194, L194, k194, n194⟩, -, X194, ⟨Lc194, hQ194, l194, y194, z194⟩, st194⟩ := X189.virtualBack hx (y := (⟨"com/example/arkivsmed/arkivsmed/xml/TextCount", "line", "()I"⟩ : MethodName)) (z := (⟨"com/example/arkivsmed/arkivsmed/xml/TextCount", "line", "()I"⟩ : MethodName)) hown (mvT hZ (hw _ (List.mem_of_getElem? (i := 94) rfl))) (mvT hZ (hw _ (List.mem_of_getElem? (i := 95) rfl))) (notFace_of_selects (args := #[]) (mvT hZ (hw _ (List.mem_of_getElem? (i := 97) rfl)))) (mvT hZ (hw _ (List.mem_of_getElem? (i := 97) rfl))) (mvT hZ (hw _ (List.mem_of_getElem? (i := 96) rfl))) (by decide) (backOf (W := 1) (rm15 l Z a0 hw [] b5 d el kc ((0 : Int64) + p2.toInt64) p4 (16 : Int32) (fun i => if i = 16 then Value.ref str else (fun _ => Value.null) i)  T189.heap n0 Z189 ⟨Et189, Fo189, Fc189, Fl189, ⟨Ed189, Fe189, Fh189, Ft189, Ad189, Od189, nde189, gd189, ge189⟩, ntd189, nte189, gt189, OL189⟩) hZ (hw _ (List.mem_of_getElem? (i := 98) rfl)) (hw _ (List.mem_of_getElem? (i := 3) rfl)) (by decide) (by decide)) q194a q194c (g := (mkF m 169 #[.val (.int p0), .val (.int p1), .val (.int p2), .val (.int p3), .val (.int p4), .val (.long (1048576 : Int64)), .second, .val (.ref b5), .val (.int (1 : Int32)), .val (.long (0 : Int64)), .second, .val (.int p4)] [(.ref b5), (.int (1 : Int32))])) rfl (by rw [hml]; rfl) (Steps.refl _) (argsL := []) (rest := [(.int (1 : Int32))]) (lenOf pd_10 rfl) rfl (by show 2 * 0 + _ ≤ _; exact Nat.le_of_eq rfl) (hb hby at_169) (fun _ _ => ⟨rfl, rfl, (by decide : 5 + 0 ≤ _), (by decide : 28 + 0 ≤ _)⟩)
            dsimp only [Pt.U, Pt.locs, Pt.cells, Pt.slots] at X194 l194 y194 z194 st194 hQ194
            subst l194 y194 z194
            obtain ⟨rfl, N194q, Z194, H194⟩ := hQ194
            have N194 := Fr.app N189 N194q
            obtain ⟨Et194, Fo194, Fc194, Fl194, Dq194, ntd194, nte194, gt194, OL194⟩ := id H194
            obtain ⟨Ed194, Fe194, Fh194, Ft194, Ad194, Od194, nde194, gd194, ge194⟩ := id Dq194
            have pre195 : ∀ t, Steps p.tables e below (T194.setTop (mkF m 172 #[.val (.int p0), .val (.int p1), .val (.int p2), .val (.int p3), .val (.int p4), .val (.long (1048576 : Int64)), .second, .val (.ref b5), .val (.int (1 : Int32)), .val (.long (0 : Int64)), .second, .val (.int p4)] [(.int p4), (.int (1 : Int32))])) t → Steps p.tables e below (s₁.setTop (entryFrame m #[(.int p0), (.int p1), (.int p2), (.int p3), (.int p4)] maxLocals)) t := fun t kont => pre193 t (st194.trans kont)
            have pre196 : ∀ t, Steps p.tables e below (T194.setTop (mkF m 174 #[.val (.int p0), .val (.int p1), .val (.int p2), .val (.int p3), .val (.int p4), .val (.long (1048576 : Int64)), .second, .val (.ref b5), .val (.int (1 : Int32)), .val (.long (0 : Int64)), .second, .val (.int p4)] [(.int p4), (.int p4), (.int (1 : Int32))])) t → Steps p.tables e below (s₁.setTop (entryFrame m #[(.int p0), (.int p1), (.int p2), (.int p3), (.int p4)] maxLocals)) t := by
              intro t kont
              refine pre195 t ?_
              show Steps p.tables e below (T194.setTop (mkF m 172 #[.val (.int p0), .val (.int p1), .val (.int p2), .val (.int p3), .val (.int p4), .val (.long (1048576 : Int64)), .second, .val (.ref b5), .val (.int (1 : Int32)), .val (.long (0 : Int64)), .second, .val (.int p4)] [(.int p4), (.int (1 : Int32))])) _
              refine XS.iload X194.here hx rfl (hb hby at_172) rfl ?_
              exact kont
            by_cases hc174 : p4 = p4
            · have pre197 : ∀ t, Steps p.tables e below (T194.setTop (mkF m 187 #[.val (.int p0), .val (.int p1), .val (.int p2), .val (.int p3), .val (.int p4), .val (.long (1048576 : Int64)), .second, .val (.ref b5), .val (.int (1 : Int32)), .val (.long (0 : Int64)), .second, .val (.int p4)] [(.int (1 : Int32))])) t → Steps p.tables e below (s₁.setTop (entryFrame m #[(.int p0), (.int p1), (.int p2), (.int p3), (.int p4)] maxLocals)) t := by
                intro t kont
                refine pre196 t ?_
                show Steps p.tables e below (T194.setTop (mkF m 174 #[.val (.int p0), .val (.int p1), .val (.int p2), .val (.int p3), .val (.int p4), .val (.long (1048576 : Int64)), .second, .val (.ref b5), .val (.int (1 : Int32)), .val (.long (0 : Int64)), .second, .val (.int p4)] [(.int p4), (.int p4), (.int (1 : Int32))])) _
                refine XS.icmpNo X194.here hx rfl (hb hby at_174) rfl (teq hc174).2 ?_
                show Steps p.tables e below (T194.setTop (mkF m 177 #[.val (.int p0), .val (.int p1), .val (.int p2), .val (.int p3), .val (.int p4), .val (.long (1048576 : Int64)), .second, .val (.ref b5), .val (.int (1 : Int32)), .val (.long (0 : Int64)), .second, .val (.int p4)] [(.int (1 : Int32))])) _
                refine XS.iconst X194.here hx rfl (hb hby at_177) ?_
                show Steps p.tables e below (T194.setTop (mkF m 178 #[.val (.int p0), .val (.int p1), .val (.int p2), .val (.int p3), .val (.int p4), .val (.long (1048576 : Int64)), .second, .val (.ref b5), .val (.int (1 : Int32)), .val (.long (0 : Int64)), .second, .val (.int p4)] [(.int (1 : Int32)), (.int (1 : Int32))])) _
                refine XS.goto X194.here hx rfl (pc0 := 178) (pc' := 182) rfl (hb hby at_178) (by decide) (by decide) ?_
                show Steps p.tables e below (T194.setTop (mkF m 182 #[.val (.int p0), .val (.int p1), .val (.int p2), .val (.int p3), .val (.int p4), .val (.long (1048576 : Int64)), .second, .val (.ref b5), .val (.int (1 : Int32)), .val (.long (0 : Int64)), .second, .val (.int p4)] [(.int (1 : Int32)), (.int (1 : Int32))])) _
                refine XS.iand X194.here hx rfl (hb hby at_182) rfl ?_
                show Steps p.tables e below (T194.setTop (mkF m 183 #[.val (.int p0), .val (.int p1), .val (.int p2), .val (.int p3), .val (.int p4), .val (.long (1048576 : Int64)), .second, .val (.ref b5), .val (.int (1 : Int32)), .val (.long (0 : Int64)), .second, .val (.int p4)] [(.int (1 : Int32))])) _
                refine XS.istore X194.here hx rfl (hb hby at_183) rfl (l' := #[.val (.int p0), .val (.int p1), .val (.int p2), .val (.int p3), .val (.int p4), .val (.long (1048576 : Int64)), .second, .val (.ref b5), .val (.int (1 : Int32)), .val (.long (0 : Int64)), .second, .val (.int p4)]) rfl ?_
                show Steps p.tables e below (T194.setTop (mkF m 185 #[.val (.int p0), .val (.int p1), .val (.int p2), .val (.int p3), .val (.int p4), .val (.long (1048576 : Int64)), .second, .val (.ref b5), .val (.int (1 : Int32)), .val (.long (0 : Int64)), .second, .val (.int p4)] [])) _
                refine XS.iload X194.here hx rfl (hb hby at_185) rfl ?_
                exact kont
              obtain ⟨fs, hr, hrun, hended, hW, hsame⟩ := X194.leave (v := some (.int (1 : Int32))) (fun h => by rw [Bd.returns] at h; cases h) (BodyLoose.notSynchronized Bd)
              refine ⟨_, _, pre197 _ ?_, hrun, hended, _, _, rfl, ?_, ⟨_, rfl⟩, hW, hsame.mono (by decide) (by decide)⟩
              · exact retN X194 hx (t := .boolean) Bd.returns (by simp) (hb hby at_187) hr
              · show Q0 Z p0 p1 p2 p3 p4 w h0 n0 _ T194.heap _
                exact ⟨rfl, N194⟩
            · exfalso
              exact hc174 rfl
          · exfalso
            exact hc154 (by rw [hv154]; unfold own_add; simp only [own_z])
        · have pre198 : ∀ t, Steps p.tables e below (T185.setTop (mkF m 120 #[.val (.int p0), .val (.int p1), .val (.int p2), .val (.int p3), .val (.int p4), .val (.long (1048576 : Int64)), .second, .val (.ref b5), .val (.int (1 : Int32)), .val (.long ((p0.toInt64) + (p1.toInt64))), .second, .val (.int (1 : Int32))] [(.int p4), (.ref b5)])) t → Steps p.tables e below (s₁.setTop (entryFrame m #[(.int p0), (.int p1), (.int p2), (.int p3), (.int p4)] maxLocals)) t := by
            intro t kont
            refine pre187 t ?_
            show Steps p.tables e below (T185.setTop (mkF m 113 #[.val (.int p0), .val (.int p1), .val (.int p2), .val (.int p3), .val (.int p4), .val (.long (1048576 : Int64)), .second, .val (.ref b5), .val (.int (1 : Int32)), .val (.long ((p0.toInt64) + (p1.toInt64))), .second, .val (.int (1 : Int32))] [(.int (p3 &&& (2 : Int32)))])) _
            refine XS.ifNo X185.here hx rfl (hb hby at_113) rfl ((if0 _ _).trans (feq hc113).1) ?_
            show Steps p.tables e below (T185.setTop (mkF m 116 #[.val (.int p0), .val (.int p1), .val (.int p2), .val (.int p3), .val (.int p4), .val (.long (1048576 : Int64)), .second, .val (.ref b5), .val (.int (1 : Int32)), .val (.long ((p0.toInt64) + (p1.toInt64))), .second, .val (.int (1 : Int32))] [])) _
            refine XS.aload X185.here hx rfl (hb hby at_116) rfl rfl ?_
            show Steps p.tables e below (T185.setTop (mkF m 118 #[.val (.int p0), .val (.int p1), .val (.int p2), .val (.int p3), .val (.int p4), .val (.long (1048576 : Int64)), .second, .val (.ref b5), .val (.int (1 : Int32)), .val (.long ((p0.toInt64) + (p1.toInt64))), .second, .val (.int (1 : Int32))] [(.ref b5)])) _
            refine XS.iload X185.here hx rfl (hb hby at_118) rfl ?_
            exact kont
          obtain ⟨cq199, kq199, q199a, q199b, q199c⟩ := isOf hZ rfl Et185
          obtain ⟨_, _, ⟨T199, L199, k199, n199⟩, -, X199, ⟨Lc199, hQ199, l199, y199, z199⟩, st199⟩ := X185.virtualBack hx (y := (⟨"com/example/arkivsmed/arkivsmed/xml/TextCount", "end", "(I)V"⟩ : MethodName)) (z := (⟨"com/example/arkivsmed/arkivsmed/xml/TextCount", "end", "(I)V"⟩ : MethodName)) hown (mvT hZ (hw _ (List.mem_of_getElem? (i := 99) rfl))) (mvT hZ (hw _ (List.mem_of_getElem? (i := 100) rfl))) (notFace_of_selects (args := #[]) (mvT hZ (hw _ (List.mem_of_getElem? (i := 102) rfl)))) (mvT hZ (hw _ (List.mem_of_getElem? (i := 102) rfl))) (mvT hZ (hw _ (List.mem_of_getElem? (i := 101) rfl))) (by decide) (backOf (W := 0) (rm16 l Z a0 hw [] b5 p4 d el kc (0 : Int64) p4 str  T185.heap n0 Z185 ⟨Et185, Fo185, Fc185, Fl185, ⟨Ed185, Fe185, Fh185, Ft185, Ad185, Od185, nde185, gd185, ge185⟩, ntd185, nte185, gt185, OL185⟩) hZ (hw _ (List.mem_of_getElem? (i := 103) rfl)) (hw _ (List.mem_of_getElem? (i := 3) rfl)) (by decide) (by decide)) q199a q199c (g := (mkF m 120 #[.val (.int p0), .val (.int p1), .val (.int p2), .val (.int p3), .val (.int p4), .val (.long (1048576 : Int64)), .second, .val (.ref b5), .val (.int (1 : Int32)), .val (.long ((p0.toInt64) + (p1.toInt64))), .second, .val (.int (1 : Int32))] [(.int p4), (.ref b5)])) rfl (by rw [hml]; rfl) (Steps.refl _) (argsL := [(.int p4)]) (rest := []) (lenOf pd_8 rfl) rfl (by show 2 * 0 + _ ≤ _; exact Nat.le_of_eq rfl) (hb hby at_120) (fun _ _ => ⟨rfl, rfl, (by decide : 5 + 0 ≤ _), (by decide : 28 + 0 ≤ _)⟩)
          dsimp only [Pt.U, Pt.locs, Pt.cells, Pt.slots] at X199 l199 y199 z199 st199 hQ199
          subst l199 y199 z199
          obtain ⟨rfl, N199q, Z199, H199⟩ := hQ199
          have N199 := Fr.app N185 N199q
          obtain ⟨Et199, Fo199, Fc199, Fl199, Dq199, ntd199, nte199, gt199, OL199⟩ := id H199
          obtain ⟨Ed199, Fe199, Fh199, Ft199, Ad199, Od199, nde199, gd199, ge199⟩ := id Dq199
          have pre200 : ∀ t, Steps p.tables e below (T199.setTop (mkF m 123 #[.val (.int p0), .val (.int p1), .val (.int p2), .val (.int p3), .val (.int p4), .val (.long (1048576 : Int64)), .second, .val (.ref b5), .val (.int (1 : Int32)), .val (.long ((p0.toInt64) + (p1.toInt64))), .second, .val (.int (1 : Int32))] [])) t → Steps p.tables e below (s₁.setTop (entryFrame m #[(.int p0), (.int p1), (.int p2), (.int p3), (.int p4)] maxLocals)) t := fun t kont => pre198 t (st199.trans kont)
          have pre201 : ∀ t, Steps p.tables e below (T199.setTop (mkF m 135 #[.val (.int p0), .val (.int p1), .val (.int p2), .val (.int p3), .val (.int p4), .val (.long (1048576 : Int64)), .second, .val (.ref b5), .val (.int (1 : Int32)), .val (.long (0 : Int64)), .second, .val (.int p4)] [(.int p2), (.ref b5), (.int (1 : Int32))])) t → Steps p.tables e below (s₁.setTop (entryFrame m #[(.int p0), (.int p1), (.int p2), (.int p3), (.int p4)] maxLocals)) t := by
            intro t kont
            refine pre200 t ?_
            show Steps p.tables e below (T199.setTop (mkF m 123 #[.val (.int p0), .val (.int p1), .val (.int p2), .val (.int p3), .val (.int p4), .val (.long (1048576 : Int64)), .second, .val (.ref b5), .val (.int (1 : Int32)), .val (.long ((p0.toInt64) + (p1.toInt64))), .second, .val (.int (1 : Int32))] [])) _
            refine XS.lconst X199.here hx rfl (hb hby at_123) ?_
            show Steps p.tables e below (T199.setTop (mkF m 124 #[.val (.int p0), .val (.int p1), .val (.int p2), .val (.int p3), .val (.int p4), .val (.long (1048576 : Int64)), .second, .val (.ref b5), .val (.int (1 : Int32)), .val (.long ((p0.toInt64) + (p1.toInt64))), .second, .val (.int (1 : Int32))] [(.long (0 : Int64))])) _
            refine XS.lstore X199.here hx rfl (hb hby at_124) rfl (l' := #[.val (.int p0), .val (.int p1), .val (.int p2), .val (.int p3), .val (.int p4), .val (.long (1048576 : Int64)), .second, .val (.ref b5), .val (.int (1 : Int32)), .val (.long (0 : Int64)), .second, .val (.int (1 : Int32))]) rfl ?_
            show Steps p.tables e below (T199.setTop (mkF m 126 #[.val (.int p0), .val (.int p1), .val (.int p2), .val (.int p3), .val (.int p4), .val (.long (1048576 : Int64)), .second, .val (.ref b5), .val (.int (1 : Int32)), .val (.long (0 : Int64)), .second, .val (.int (1 : Int32))] [])) _
            refine XS.iload X199.here hx rfl (hb hby at_126) rfl ?_
            show Steps p.tables e below (T199.setTop (mkF m 128 #[.val (.int p0), .val (.int p1), .val (.int p2), .val (.int p3), .val (.int p4), .val (.long (1048576 : Int64)), .second, .val (.ref b5), .val (.int (1 : Int32)), .val (.long (0 : Int64)), .second, .val (.int (1 : Int32))] [(.int p4)])) _
            refine XS.istore X199.here hx rfl (hb hby at_128) rfl (l' := #[.val (.int p0), .val (.int p1), .val (.int p2), .val (.int p3), .val (.int p4), .val (.long (1048576 : Int64)), .second, .val (.ref b5), .val (.int (1 : Int32)), .val (.long (0 : Int64)), .second, .val (.int p4)]) rfl ?_
            show Steps p.tables e below (T199.setTop (mkF m 130 #[.val (.int p0), .val (.int p1), .val (.int p2), .val (.int p3), .val (.int p4), .val (.long (1048576 : Int64)), .second, .val (.ref b5), .val (.int (1 : Int32)), .val (.long (0 : Int64)), .second, .val (.int p4)] [])) _
            refine XS.iload X199.here hx rfl (hb hby at_130) rfl ?_
            show Steps p.tables e below (T199.setTop (mkF m 132 #[.val (.int p0), .val (.int p1), .val (.int p2), .val (.int p3), .val (.int p4), .val (.long (1048576 : Int64)), .second, .val (.ref b5), .val (.int (1 : Int32)), .val (.long (0 : Int64)), .second, .val (.int p4)] [(.int (1 : Int32))])) _
            refine XS.aload X199.here hx rfl (hb hby at_132) rfl rfl ?_
            show Steps p.tables e below (T199.setTop (mkF m 134 #[.val (.int p0), .val (.int p1), .val (.int p2), .val (.int p3), .val (.int p4), .val (.long (1048576 : Int64)), .second, .val (.ref b5), .val (.int (1 : Int32)), .val (.long (0 : Int64)), .second, .val (.int p4)] [(.ref b5), (.int (1 : Int32))])) _
            refine XS.iloadN X199.here hx rfl (hb hby at_134) rfl ?_
            exact kont
          obtain ⟨cq202, kq202, q202a, q202b, q202c⟩ := isOf hZ rfl Et199
          obtain ⟨_, _, ⟨T202, L202, k202, n202⟩, -, X202, ⟨Lc202, hQ202, l202, y202, z202⟩, st202⟩ := X199.virtualBack hx (y := (⟨"com/example/arkivsmed/arkivsmed/xml/TextCount", "add", "(I)Z"⟩ : MethodName)) (z := (⟨"com/example/arkivsmed/arkivsmed/xml/TextCount", "add", "(I)Z"⟩ : MethodName)) hown (mvT hZ (hw _ (List.mem_of_getElem? (i := 31) rfl))) (mvT hZ (hw _ (List.mem_of_getElem? (i := 32) rfl))) (notFace_of_selects (args := #[]) (mvT hZ (hw _ (List.mem_of_getElem? (i := 34) rfl)))) (mvT hZ (hw _ (List.mem_of_getElem? (i := 34) rfl))) (mvT hZ (hw _ (List.mem_of_getElem? (i := 33) rfl))) (by decide) (backOf (W := 1) (rm5 l Z a0 hw [] b5 p2 d el kc (0 : Int64) p4 (0 : Int32) (fun i => if i = 16 then Value.null else (fun i => if i = 16 then Value.ref str else (fun _ => Value.null) i) i)  T199.heap n0 Z199 ⟨Et199, Fo199, Fc199, Fl199, ⟨Ed199, Fe199, Fh199, Ft199, Ad199, Od199, nde199, gd199, ge199⟩, ntd199, nte199, gt199, OL199⟩) hZ (hw _ (List.mem_of_getElem? (i := 35) rfl)) (hw _ (List.mem_of_getElem? (i := 3) rfl)) (by decide) (by decide)) q202a q202c (g := (mkF m 135 #[.val (.int p0), .val (.int p1), .val (.int p2), .val (.int p3), .val (.int p4), .val (.long (1048576 : Int64)), .second, .val (.ref b5), .val (.int (1 : Int32)), .val (.long (0 : Int64)), .second, .val (.int p4)] [(.int p2), (.ref b5), (.int (1 : Int32))])) rfl (by rw [hml]; rfl) (Steps.refl _) (argsL := [(.int p2)]) (rest := [(.int (1 : Int32))]) (lenOf pd_9 rfl) rfl (by show 2 * 0 + _ ≤ _; exact Nat.le_of_eq rfl) (hb hby at_135) (fun _ _ => ⟨rfl, rfl, (by decide : 5 + 0 ≤ _), (by decide : 28 + 0 ≤ _)⟩)
          dsimp only [Pt.U, Pt.locs, Pt.cells, Pt.slots] at X202 l202 y202 z202 st202 hQ202
          subst l202 y202 z202
          obtain ⟨rfl, N202q, Z202, H202⟩ := hQ202
          have N202 := Fr.app N199 N202q
          obtain ⟨Et202, Fo202, Fc202, Fl202, Dq202, ntd202, nte202, gt202, OL202⟩ := id H202
          obtain ⟨Ed202, Fe202, Fh202, Ft202, Ad202, Od202, nde202, gd202, ge202⟩ := id Dq202
          have pre203 : ∀ t, Steps p.tables e below (T202.setTop (mkF m 138 #[.val (.int p0), .val (.int p1), .val (.int p2), .val (.int p3), .val (.int p4), .val (.long (1048576 : Int64)), .second, .val (.ref b5), .val (.int (1 : Int32)), .val (.long (0 : Int64)), .second, .val (.int p4)] [(.int (own_add ((0 : Int64) + p2.toInt64))), (.int (1 : Int32))])) t → Steps p.tables e below (s₁.setTop (entryFrame m #[(.int p0), (.int p1), (.int p2), (.int p3), (.int p4)] maxLocals)) t := fun t kont => pre201 t (st202.trans kont)
          have pre204 : ∀ t, Steps p.tables e below (T202.setTop (mkF m 146 #[.val (.int p0), .val (.int p1), .val (.int p2), .val (.int p3), .val (.int p4), .val (.long (1048576 : Int64)), .second, .val (.ref b5), .val (.int (1 : Int32)), .val (.long (0 : Int64)), .second, .val (.int p4)] [(.int (lcmpW ((0 : Int64) + (p2.toInt64)) (1048576 : Int64))), (.int (own_add ((0 : Int64) + p2.toInt64))), (.int (1 : Int32))])) t → Steps p.tables e below (s₁.setTop (entryFrame m #[(.int p0), (.int p1), (.int p2), (.int p3), (.int p4)] maxLocals)) t := by
            intro t kont
            refine pre203 t ?_
            show Steps p.tables e below (T202.setTop (mkF m 138 #[.val (.int p0), .val (.int p1), .val (.int p2), .val (.int p3), .val (.int p4), .val (.long (1048576 : Int64)), .second, .val (.ref b5), .val (.int (1 : Int32)), .val (.long (0 : Int64)), .second, .val (.int p4)] [(.int (own_add ((0 : Int64) + p2.toInt64))), (.int (1 : Int32))])) _
            refine XS.lload X202.here hx rfl (hb hby at_138) rfl ?_
            show Steps p.tables e below (T202.setTop (mkF m 140 #[.val (.int p0), .val (.int p1), .val (.int p2), .val (.int p3), .val (.int p4), .val (.long (1048576 : Int64)), .second, .val (.ref b5), .val (.int (1 : Int32)), .val (.long (0 : Int64)), .second, .val (.int p4)] [(.long (0 : Int64)), (.int (own_add ((0 : Int64) + p2.toInt64))), (.int (1 : Int32))])) _
            refine XS.iloadN X202.here hx rfl (hb hby at_140) rfl ?_
            show Steps p.tables e below (T202.setTop (mkF m 141 #[.val (.int p0), .val (.int p1), .val (.int p2), .val (.int p3), .val (.int p4), .val (.long (1048576 : Int64)), .second, .val (.ref b5), .val (.int (1 : Int32)), .val (.long (0 : Int64)), .second, .val (.int p4)] [(.int p2), (.long (0 : Int64)), (.int (own_add ((0 : Int64) + p2.toInt64))), (.int (1 : Int32))])) _
            refine XS.i2l X202.here hx rfl (hb hby at_141) rfl ?_
            show Steps p.tables e below (T202.setTop (mkF m 142 #[.val (.int p0), .val (.int p1), .val (.int p2), .val (.int p3), .val (.int p4), .val (.long (1048576 : Int64)), .second, .val (.ref b5), .val (.int (1 : Int32)), .val (.long (0 : Int64)), .second, .val (.int p4)] [(.long (p2.toInt64)), (.long (0 : Int64)), (.int (own_add ((0 : Int64) + p2.toInt64))), (.int (1 : Int32))])) _
            refine XS.ladd X202.here hx rfl (hb hby at_142) rfl ?_
            show Steps p.tables e below (T202.setTop (mkF m 143 #[.val (.int p0), .val (.int p1), .val (.int p2), .val (.int p3), .val (.int p4), .val (.long (1048576 : Int64)), .second, .val (.ref b5), .val (.int (1 : Int32)), .val (.long (0 : Int64)), .second, .val (.int p4)] [(.long ((0 : Int64) + (p2.toInt64))), (.int (own_add ((0 : Int64) + p2.toInt64))), (.int (1 : Int32))])) _
            refine XS.lload X202.here hx rfl (hb hby at_143) rfl ?_
            show Steps p.tables e below (T202.setTop (mkF m 145 #[.val (.int p0), .val (.int p1), .val (.int p2), .val (.int p3), .val (.int p4), .val (.long (1048576 : Int64)), .second, .val (.ref b5), .val (.int (1 : Int32)), .val (.long (0 : Int64)), .second, .val (.int p4)] [(.long (1048576 : Int64)), (.long ((0 : Int64) + (p2.toInt64))), (.int (own_add ((0 : Int64) + p2.toInt64))), (.int (1 : Int32))])) _
            refine XS.lcmp X202.here hx rfl (hb hby at_145) rfl ?_
            exact kont
          obtain ⟨v154, hv154⟩ : ∃ z : Int32, z = (if (1048576 : Int64) < ((0 : Int64) + (p2.toInt64)) then (0 : Int32) else (1 : Int32)) := ⟨_, rfl⟩
          have pre205 : ∀ t, Steps p.tables e below (T202.setTop (mkF m 154 #[.val (.int p0), .val (.int p1), .val (.int p2), .val (.int p3), .val (.int p4), .val (.long (1048576 : Int64)), .second, .val (.ref b5), .val (.int (1 : Int32)), .val (.long (0 : Int64)), .second, .val (.int p4)] [(.int v154), (.int (own_add ((0 : Int64) + p2.toInt64))), (.int (1 : Int32))])) t → Steps p.tables e below (s₁.setTop (entryFrame m #[(.int p0), (.int p1), (.int p2), (.int p3), (.int p4)] maxLocals)) t := by
            intro t kont
            refine pre204 t ?_
            by_cases j_146 : (1048576 : Int64) < ((0 : Int64) + (p2.toInt64))
            · rw [hv154, if_pos j_146] at kont
              show Steps p.tables e below (T202.setTop (mkF m 146 #[.val (.int p0), .val (.int p1), .val (.int p2), .val (.int p3), .val (.int p4), .val (.long (1048576 : Int64)), .second, .val (.ref b5), .val (.int (1 : Int32)), .val (.long (0 : Int64)), .second, .val (.int p4)] [(.int (lcmpW ((0 : Int64) + (p2.toInt64)) (1048576 : Int64))), (.int (own_add ((0 : Int64) + p2.toInt64))), (.int (1 : Int32))])) _
              refine XS.ifYes X202.here hx rfl (pc0 := 146) (pc' := 153) rfl (hb hby at_146) rfl ((if0 _ _).trans (tlt ((lw_gt _ _).mpr j_146)).2.2.1) (by decide) (by decide) ?_
              show Steps p.tables e below (T202.setTop (mkF m 153 #[.val (.int p0), .val (.int p1), .val (.int p2), .val (.int p3), .val (.int p4), .val (.long (1048576 : Int64)), .second, .val (.ref b5), .val (.int (1 : Int32)), .val (.long (0 : Int64)), .second, .val (.int p4)] [(.int (own_add ((0 : Int64) + p2.toInt64))), (.int (1 : Int32))])) _
              refine XS.iconst X202.here hx rfl (hb hby at_153) ?_
              exact kont
            · rw [hv154, if_neg j_146] at kont
              show Steps p.tables e below (T202.setTop (mkF m 146 #[.val (.int p0), .val (.int p1), .val (.int p2), .val (.int p3), .val (.int p4), .val (.long (1048576 : Int64)), .second, .val (.ref b5), .val (.int (1 : Int32)), .val (.long (0 : Int64)), .second, .val (.int p4)] [(.int (lcmpW ((0 : Int64) + (p2.toInt64)) (1048576 : Int64))), (.int (own_add ((0 : Int64) + p2.toInt64))), (.int (1 : Int32))])) _
              refine XS.ifNo X202.here hx rfl (hb hby at_146) rfl ((if0 _ _).trans (flt (fun q => j_146 ((lw_gt _ _).mp q))).2.2.1) ?_
              show Steps p.tables e below (T202.setTop (mkF m 149 #[.val (.int p0), .val (.int p1), .val (.int p2), .val (.int p3), .val (.int p4), .val (.long (1048576 : Int64)), .second, .val (.ref b5), .val (.int (1 : Int32)), .val (.long (0 : Int64)), .second, .val (.int p4)] [(.int (own_add ((0 : Int64) + p2.toInt64))), (.int (1 : Int32))])) _
              refine XS.iconst X202.here hx rfl (hb hby at_149) ?_
              show Steps p.tables e below (T202.setTop (mkF m 150 #[.val (.int p0), .val (.int p1), .val (.int p2), .val (.int p3), .val (.int p4), .val (.long (1048576 : Int64)), .second, .val (.ref b5), .val (.int (1 : Int32)), .val (.long (0 : Int64)), .second, .val (.int p4)] [(.int (1 : Int32)), (.int (own_add ((0 : Int64) + p2.toInt64))), (.int (1 : Int32))])) _
              refine XS.goto X202.here hx rfl (pc0 := 150) (pc' := 154) rfl (hb hby at_150) (by decide) (by decide) ?_
              exact kont
          by_cases hc154 : (own_add ((0 : Int64) + p2.toInt64)) = v154
          · have pre206 : ∀ t, Steps p.tables e below (T202.setTop (mkF m 169 #[.val (.int p0), .val (.int p1), .val (.int p2), .val (.int p3), .val (.int p4), .val (.long (1048576 : Int64)), .second, .val (.ref b5), .val (.int (1 : Int32)), .val (.long (0 : Int64)), .second, .val (.int p4)] [(.ref b5), (.int (1 : Int32))])) t → Steps p.tables e below (s₁.setTop (entryFrame m #[(.int p0), (.int p1), (.int p2), (.int p3), (.int p4)] maxLocals)) t := by
              intro t kont
              refine pre205 t ?_
              show Steps p.tables e below (T202.setTop (mkF m 154 #[.val (.int p0), .val (.int p1), .val (.int p2), .val (.int p3), .val (.int p4), .val (.long (1048576 : Int64)), .second, .val (.ref b5), .val (.int (1 : Int32)), .val (.long (0 : Int64)), .second, .val (.int p4)] [(.int v154), (.int (own_add ((0 : Int64) + p2.toInt64))), (.int (1 : Int32))])) _
              refine XS.icmpNo X202.here hx rfl (hb hby at_154) rfl (teq hc154).2 ?_
              show Steps p.tables e below (T202.setTop (mkF m 157 #[.val (.int p0), .val (.int p1), .val (.int p2), .val (.int p3), .val (.int p4), .val (.long (1048576 : Int64)), .second, .val (.ref b5), .val (.int (1 : Int32)), .val (.long (0 : Int64)), .second, .val (.int p4)] [(.int (1 : Int32))])) _
              refine XS.iconst X202.here hx rfl (hb hby at_157) ?_
              show Steps p.tables e below (T202.setTop (mkF m 158 #[.val (.int p0), .val (.int p1), .val (.int p2), .val (.int p3), .val (.int p4), .val (.long (1048576 : Int64)), .second, .val (.ref b5), .val (.int (1 : Int32)), .val (.long (0 : Int64)), .second, .val (.int p4)] [(.int (1 : Int32)), (.int (1 : Int32))])) _
              refine XS.goto X202.here hx rfl (pc0 := 158) (pc' := 162) rfl (hb hby at_158) (by decide) (by decide) ?_
              show Steps p.tables e below (T202.setTop (mkF m 162 #[.val (.int p0), .val (.int p1), .val (.int p2), .val (.int p3), .val (.int p4), .val (.long (1048576 : Int64)), .second, .val (.ref b5), .val (.int (1 : Int32)), .val (.long (0 : Int64)), .second, .val (.int p4)] [(.int (1 : Int32)), (.int (1 : Int32))])) _
              refine XS.iand X202.here hx rfl (hb hby at_162) rfl ?_
              show Steps p.tables e below (T202.setTop (mkF m 163 #[.val (.int p0), .val (.int p1), .val (.int p2), .val (.int p3), .val (.int p4), .val (.long (1048576 : Int64)), .second, .val (.ref b5), .val (.int (1 : Int32)), .val (.long (0 : Int64)), .second, .val (.int p4)] [(.int (1 : Int32))])) _
              refine XS.istore X202.here hx rfl (hb hby at_163) rfl (l' := #[.val (.int p0), .val (.int p1), .val (.int p2), .val (.int p3), .val (.int p4), .val (.long (1048576 : Int64)), .second, .val (.ref b5), .val (.int (1 : Int32)), .val (.long (0 : Int64)), .second, .val (.int p4)]) rfl ?_
              show Steps p.tables e below (T202.setTop (mkF m 165 #[.val (.int p0), .val (.int p1), .val (.int p2), .val (.int p3), .val (.int p4), .val (.long (1048576 : Int64)), .second, .val (.ref b5), .val (.int (1 : Int32)), .val (.long (0 : Int64)), .second, .val (.int p4)] [])) _
              refine XS.iload X202.here hx rfl (hb hby at_165) rfl ?_
              show Steps p.tables e below (T202.setTop (mkF m 167 #[.val (.int p0), .val (.int p1), .val (.int p2), .val (.int p3), .val (.int p4), .val (.long (1048576 : Int64)), .second, .val (.ref b5), .val (.int (1 : Int32)), .val (.long (0 : Int64)), .second, .val (.int p4)] [(.int (1 : Int32))])) _
              refine XS.aload X202.here hx rfl (hb hby at_167) rfl rfl ?_
              exact kont
            obtain ⟨cq207, kq207, q207a, q207b, q207c⟩ := isOf hZ rfl Et202
            obtain ⟨_, _, ⟨T207, L207, k207, n207⟩, -, X207, ⟨Lc207, hQ207, l207, y207, z207⟩, st207⟩ := X202.virtualBack hx (y := (⟨"com/example/arkivsmed/arkivsmed/xml/TextCount", "line", "()I"⟩ : MethodName)) (z := (⟨"com/example/arkivsmed/arkivsmed/xml/TextCount", "line", "()I"⟩ : MethodName)) hown (mvT hZ (hw _ (List.mem_of_getElem? (i := 94) rfl))) (mvT hZ (hw _ (List.mem_of_getElem? (i := 95) rfl))) (notFace_of_selects (args := #[]) (mvT hZ (hw _ (List.mem_of_getElem? (i := 97) rfl)))) (mvT hZ (hw _ (List.mem_of_getElem? (i := 97) rfl))) (mvT hZ (hw _ (List.mem_of_getElem? (i := 96) rfl))) (by decide) (backOf (W := 1) (rm15 l Z a0 hw [] b5 d el kc ((0 : Int64) + p2.toInt64) p4 (0 : Int32) (fun i => if i = 16 then Value.null else (fun i => if i = 16 then Value.ref str else (fun _ => Value.null) i) i)  T202.heap n0 Z202 ⟨Et202, Fo202, Fc202, Fl202, ⟨Ed202, Fe202, Fh202, Ft202, Ad202, Od202, nde202, gd202, ge202⟩, ntd202, nte202, gt202, OL202⟩) hZ (hw _ (List.mem_of_getElem? (i := 98) rfl)) (hw _ (List.mem_of_getElem? (i := 3) rfl)) (by decide) (by decide)) q207a q207c (g := (mkF m 169 #[.val (.int p0), .val (.int p1), .val (.int p2), .val (.int p3), .val (.int p4), .val (.long (1048576 : Int64)), .second, .val (.ref b5), .val (.int (1 : Int32)), .val (.long (0 : Int64)), .second, .val (.int p4)] [(.ref b5), (.int (1 : Int32))])) rfl (by rw [hml]; rfl) (Steps.refl _) (argsL := []) (rest := [(.int (1 : Int32))]) (lenOf pd_10 rfl) rfl (by show 2 * 0 + _ ≤ _; exact Nat.le_of_eq rfl) (hb hby at_169) (fun _ _ => ⟨rfl, rfl, (by decide : 5 + 0 ≤ _), (by decide : 28 + 0 ≤ _)⟩)
            dsimp only [Pt.U, Pt.locs, Pt.cells, Pt.slots] at X207 l207 y207 z207 st207 hQ207
            subst l207 y207 z207
            obtain ⟨rfl, N207q, Z207, H207⟩ := hQ207
            have N207 := Fr.app N202 N207q
            obtain ⟨Et207, Fo207, Fc207, Fl207, Dq207, ntd207, nte207, gt207, OL207⟩ := id H207
            obtain ⟨Ed207, Fe207, Fh207, Ft207, Ad207, Od207, nde207, gd207, ge207⟩ := id Dq207
            have pre208 : ∀ t, Steps p.tables e below (T207.setTop (mkF m 172 #[.val (.int p0), .val (.int p1), .val (.int p2), .val (.int p3), .val (.int p4), .val (.long (1048576 : Int64)), .second, .val (.ref b5), .val (.int (1 : Int32)), .val (.long (0 : Int64)), .second, .val (.int p4)] [(.int p4), (.int (1 : Int32))])) t → Steps p.tables e below (s₁.setTop (entryFrame m #[(.int p0), (.int p1), (.int p2), (.int p3), (.int p4)] maxLocals)) t := fun t kont => pre206 t (st207.trans kont)
            have pre209 : ∀ t, Steps p.tables e below (T207.setTop (mkF m 174 #[.val (.int p0), .val (.int p1), .val (.int p2), .val (.int p3), .val (.int p4), .val (.long (1048576 : Int64)), .second, .val (.ref b5), .val (.int (1 : Int32)), .val (.long (0 : Int64)), .second, .val (.int p4)] [(.int p4), (.int p4), (.int (1 : Int32))])) t → Steps p.tables e below (s₁.setTop (entryFrame m #[(.int p0), (.int p1), (.int p2), (.int p3), (.int p4)] maxLocals)) t := by
              intro t kont
              refine pre208 t ?_
              show Steps p.tables e below (T207.setTop (mkF m 172 #[.val (.int p0), .val (.int p1), .val (.int p2), .val (.int p3), .val (.int p4), .val (.long (1048576 : Int64)), .second, .val (.ref b5), .val (.int (1 : Int32)), .val (.long (0 : Int64)), .second, .val (.int p4)] [(.int p4), (.int (1 : Int32))])) _
              refine XS.iload X207.here hx rfl (hb hby at_172) rfl ?_
              exact kont
            by_cases hc174 : p4 = p4
            · have pre210 : ∀ t, Steps p.tables e below (T207.setTop (mkF m 187 #[.val (.int p0), .val (.int p1), .val (.int p2), .val (.int p3), .val (.int p4), .val (.long (1048576 : Int64)), .second, .val (.ref b5), .val (.int (1 : Int32)), .val (.long (0 : Int64)), .second, .val (.int p4)] [(.int (1 : Int32))])) t → Steps p.tables e below (s₁.setTop (entryFrame m #[(.int p0), (.int p1), (.int p2), (.int p3), (.int p4)] maxLocals)) t := by
                intro t kont
                refine pre209 t ?_
                show Steps p.tables e below (T207.setTop (mkF m 174 #[.val (.int p0), .val (.int p1), .val (.int p2), .val (.int p3), .val (.int p4), .val (.long (1048576 : Int64)), .second, .val (.ref b5), .val (.int (1 : Int32)), .val (.long (0 : Int64)), .second, .val (.int p4)] [(.int p4), (.int p4), (.int (1 : Int32))])) _
                refine XS.icmpNo X207.here hx rfl (hb hby at_174) rfl (teq hc174).2 ?_
                show Steps p.tables e below (T207.setTop (mkF m 177 #[.val (.int p0), .val (.int p1), .val (.int p2), .val (.int p3), .val (.int p4), .val (.long (1048576 : Int64)), .second, .val (.ref b5), .val (.int (1 : Int32)), .val (.long (0 : Int64)), .second, .val (.int p4)] [(.int (1 : Int32))])) _
                refine XS.iconst X207.here hx rfl (hb hby at_177) ?_
                show Steps p.tables e below (T207.setTop (mkF m 178 #[.val (.int p0), .val (.int p1), .val (.int p2), .val (.int p3), .val (.int p4), .val (.long (1048576 : Int64)), .second, .val (.ref b5), .val (.int (1 : Int32)), .val (.long (0 : Int64)), .second, .val (.int p4)] [(.int (1 : Int32)), (.int (1 : Int32))])) _
                refine XS.goto X207.here hx rfl (pc0 := 178) (pc' := 182) rfl (hb hby at_178) (by decide) (by decide) ?_
                show Steps p.tables e below (T207.setTop (mkF m 182 #[.val (.int p0), .val (.int p1), .val (.int p2), .val (.int p3), .val (.int p4), .val (.long (1048576 : Int64)), .second, .val (.ref b5), .val (.int (1 : Int32)), .val (.long (0 : Int64)), .second, .val (.int p4)] [(.int (1 : Int32)), (.int (1 : Int32))])) _
                refine XS.iand X207.here hx rfl (hb hby at_182) rfl ?_
                show Steps p.tables e below (T207.setTop (mkF m 183 #[.val (.int p0), .val (.int p1), .val (.int p2), .val (.int p3), .val (.int p4), .val (.long (1048576 : Int64)), .second, .val (.ref b5), .val (.int (1 : Int32)), .val (.long (0 : Int64)), .second, .val (.int p4)] [(.int (1 : Int32))])) _
                refine XS.istore X207.here hx rfl (hb hby at_183) rfl (l' := #[.val (.int p0), .val (.int p1), .val (.int p2), .val (.int p3), .val (.int p4), .val (.long (1048576 : Int64)), .second, .val (.ref b5), .val (.int (1 : Int32)), .val (.long (0 : Int64)), .second, .val (.int p4)]) rfl ?_
                show Steps p.tables e below (T207.setTop (mkF m 185 #[.val (.int p0), .val (.int p1), .val (.int p2), .val (.int p3), .val (.int p4), .val (.long (1048576 : Int64)), .second, .val (.ref b5), .val (.int (1 : Int32)), .val (.long (0 : Int64)), .second, .val (.int p4)] [])) _
                refine XS.iload X207.here hx rfl (hb hby at_185) rfl ?_
                exact kont
              obtain ⟨fs, hr, hrun, hended, hW, hsame⟩ := X207.leave (v := some (.int (1 : Int32))) (fun h => by rw [Bd.returns] at h; cases h) (BodyLoose.notSynchronized Bd)
              refine ⟨_, _, pre210 _ ?_, hrun, hended, _, _, rfl, ?_, ⟨_, rfl⟩, hW, hsame.mono (by decide) (by decide)⟩
              · exact retN X207 hx (t := .boolean) Bd.returns (by simp) (hb hby at_187) hr
              · show Q0 Z p0 p1 p2 p3 p4 w h0 n0 _ T207.heap _
                exact ⟨rfl, N207⟩
            · exfalso
              exact hc174 rfl
          · exfalso
            exact hc154 (by rw [hv154]; unfold own_add; simp only [own_z])
    · exfalso
      exact hc71 (by rw [hv71]; unfold own_add; simp only [own_z])
  · exfalso
    exact hc33 (by rw [hv33]; unfold own_add; simp only [own_z])
set_option maxRecDepth 65536 in
set_option maxHeartbeats 40000000 in
theorem comes_1 {Post : Tables → Env → Array Value → State → Outcome → State → Prop} (hpost : ∀ tb e args s v u, (limb_1_1.after args s (.returned v) u = true ∧ limb_1_2.after args s (.returned v) u = true ∧ True) → FrameEnd s (.returned v) u (Jvm.fieldLocs frame_1_writes args s ++ Jvm.arrayLocs frame_1_arrays args s ++ Jvm.staticLocs frame_1_statics s) 24 128 → Post tb e args s (.returned v) u) :
    ArmFor flags0 classFile x code maxLocals ret World_1 tables_1 room_1 Calls_1 rest_1 Pre_1 Post := by
  intro l hfl _ _ p e ha hc hk s m args below hf hA hF happ hP
  obtain ⟨hcalls, hrest, hpre⟩ := hP
  obtain ⟨-, -, -, hnamed, -, -, -, hat⟩ := (Spec.applies_iff hf).mp happ
  obtain ⟨hg, hn⟩ := and_e (Cond.before_iff.mp (show (Jvm.Cond.and given_1 narrow_1).before args s = true from hpre))
  obtain ⟨g1, g2⟩ := and_e hg
  obtain ⟨g3, g4⟩ := and_e g2
  obtain ⟨g5, g6⟩ := and_e g4
  obtain ⟨g7, g8⟩ := and_e g6
  obtain ⟨g9, g10⟩ := and_e g8
  obtain ⟨w0, w1, w2, w3, w4, rfl⟩ : ∃ w0 w1 w2 w3 w4 : Value, args = #[w0, w1, w2, w3, w4] := by
    have hs : args.size = 5 := by simpa [Cond.value, given_1] using g1
    obtain ⟨L⟩ := args
    match L, hs with
    | [w0, w1, w2, w3, w4], _ => exact ⟨w0, w1, w2, w3, w4, rfl⟩
  have hw := fun d (hd : d ∈ tables_1) => atoms_spec (ws := Jvm.Cond.code x code maxLocals ret :: tables_1) hat d (List.mem_cons_of_mem _ hd)
  have hfit : Fit s := fun {y c} hc i hi => by
    obtain ⟨ha, rfl⟩ := Array.getElem?_eq_some_iff.mp hc
    have q := List.all_eq_true.mp ((Array.all_eq_true_iff_forall_mem.mp hF) _ (Array.getElem_mem ha)) i (List.mem_range.mpr hi)
    simpa [Array.getElem?_eq_getElem hi] using q
  obtain ⟨hsets, hown0⟩ := atoms_of _ (rest_1_c_eq ▸ (show rest_1_c.before _ s = true from hrest))
  have hr0 := Cond.before_iff.mp hown0
  obtain ⟨i0, ei0⟩ := is_v g3
  obtain rfl : w0 = (.int i0) := Option.some.inj ei0
  obtain ⟨i1, ei1⟩ := is_v g5
  obtain rfl : w1 = (.int i1) := Option.some.inj ei1
  obtain ⟨i2, ei2⟩ := is_v g7
  obtain rfl : w2 = (.int i2) := Option.some.inj ei2
  obtain ⟨i3, ei3⟩ := is_v g9
  obtain rfl : w3 = (.int i3) := Option.some.inj ei3
  obtain ⟨i4, ei4⟩ := is_v g10
  obtain rfl : w4 = (.int i4) := Option.some.inj ei4
  have n5 := not_v (Cond.before_iff.mp (hsets _ (List.mem_of_getElem? (i := 2) rfl)))
  obtain ⟨i11, e10⟩ := is_v (Cond.before_iff.mp (hsets _ (List.mem_of_getElem? (i := 1) rfl)))
  have S12 : Sta s s.heap "java/lang/String" "COMPACT_STRINGS" "Z" (.int i11) := Sta.start e10 (Or.inl (hsets _ (List.mem_of_getElem? (i := 0) rfl)))
  have c17 : ¬ (i11 = (0 : Int32)) := gotF (Cond.eq_ints e10 (Term.int_eval (0))) n5
  obtain ⟨n, o, h1, h2, h3, _, L, rfl, ⟨rfl, N⟩, hq⟩ := rm0 l s _ hw tables_1 i0 i1 i2 i3 i4 i11 s.heap s.heap.size (Nat.le_refl _) (Old.start s) S12 c17 p e ha hc hk s m _ below hf ((Spec.applies_iff_loose hf).mp happ).1 ⟨rfl, State.Warmed39.refl s, rfl⟩ trivial
  refine ⟨n, _, h1, h2, h3, hpost _ _ _ _ _ _ ⟨Cond.after_iff.mpr rfl, Cond.after_iff.mpr (eq_i res_at (Term.int_eval (1)) rfl), trivial⟩ ⟨hq.1, hq.2.1, (hq.2.2.sift fun y hy => Or.inr (N y hy)).mono (by decide) (by decide)⟩⟩
theorem main_1_1 : Claimed_1_1 := comes_1 fun _ _ _ _ _ _ h hF => ⟨h.1, hF⟩
theorem main_1_2 : Claimed_1_2 := comes_1 fun _ _ _ _ _ _ h hF => ⟨h.2.1, hF⟩
end Jvm.Pilot.@@N@@
namespace Jvm.Pilot.@@N@@
open Jvm Jvm.ClassFile Sem Op Lib Jvm.Free Jvm.Stand Jvm.Pilot.@@N@@.Jvm.D
/-! MADE BY PROGRAM (witnessworld.py) out of the Statement's table words and the real class files: 25 classes; the members and pool entries that the words name. The judged class is class 1, her method 1. -/
namespace start1
open Jvm.ClassFile
def u (s : String) : CpInfo := .utf8 (stringToUtf16 s)
/-- a pool by its gaps: so many unusable entries, then the entry; so many at the end -/
def gap : Nat → List CpInfo → List CpInfo
  | 0, r => r
  | n + 1, r => .unusable :: gap n r
def poolList (es : List (Nat × CpInfo)) (last : Nat) : List CpInfo := es.foldr (fun e r => gap e.1 (e.2 :: r)) (gap last [])
def pool (es : List (Nat × CpInfo)) (last : Nat) : Array CpInfo := ⟨poolList es last⟩
def fileOf (pool : Array CpInfo) (this : Nat) (attrs : Array Attribute := #[]) (ms : Array MethodInfo := #[]) (fl : Nat := 33) (sup : Nat := 0) (ifs : Array Nat := #[]) (fds : Array FieldInfo := #[]) : ClassFile where
  minorVersion := 0
  majorVersion := 65
  constantPool := pool
  accessFlags := fl
  thisClass := this
  superClass := sup
  interfaces := ifs
  fields := fds
  methods := ms
  attributes := attrs
def plain (name : String) (sup : Option ClassId) : Class where
  name := name
  kind := .ordinary
  loader := none
  accessFlags := 33
  super := sup
  interfaces := #[]
  cf := none
  fields := #[]
  methods := #[]
  instanceTypes := #[]
  staticTypes := #[]
  resolved := #[]
  callSites := []
  init := .initialized
  statics := none
  mirror := none

def pool0 : Array CpInfo := pool [(5, u "<init>"), (0, u "()V"), (1, .class_ 10), (1, u "java/lang/Object")] 113

def k0c0 : Code := { maxStack := 0, maxLocals := 1, code := object_method_1_code, exceptionTable := #[], attributes := #[] }
def k0m0 : Method := { name := "<init>", desc := "()V", sig := { parameters := [], returnType := none }, accessFlags := 1, code := some k0c0 }
/-- java/lang/Object -/
def k0 : Class := { plain "java/lang/Object" none with
  accessFlags := 33
  interfaces := #[]
  cf := some (fileOf pool0 8 #[] #[{ accessFlags := 1, nameIndex := 5, descriptorIndex := 6, attributes := #[] }] 33 0 #[] #[])
  fields := #[]
  methods := #[k0m0]
  instanceTypes := #[]
  staticTypes := #[]
  resolved := Array.replicate 124 none
  statics := none }

def pool1 : Array CpInfo := pool [(2, .class_ 4), (0, .nameAndType 5 6), (0, u "java/lang/Object"), (0, u "<init>"), (0, u "()V"), (2, .long 1048576), (1, .class_ 12), (0, u "com/example/arkivsmed/arkivsmed/xml/TextCount"), (0, .methodref 11 3), (0, .methodref 11 15), (0, .nameAndType 16 17), (0, u "add"), (0, u "(I)Z"), (0, .methodref 19 20), (0, .class_ 21), (0, .nameAndType 22 23), (0, u "java/lang/String"), (0, u "valueOf"), (0, u "(C)Ljava/lang/String;"), (0, .methodref 11 25), (0, .nameAndType 26 27), (0, u "start"), (0, u "(Ljava/lang/String;I)V"), (0, .methodref 11 29), (0, .nameAndType 30 31), (0, u "end"), (0, u "(I)V"), (0, .methodref 11 33), (0, .nameAndType 34 35), (0, u "line"), (0, u "()I"), (0, .class_ 37), (0, u "com/example/arkivsmed/arkivsmed/xml/TextCountAddPinLaw"), (2, u "law"), (0, u "(IIIII)Z")] 3

def k1m0 : Method := { name := "<init>", desc := "()V", sig := { parameters := [], returnType := none }, accessFlags := 1, code := none }
def k1c1 : Code := { maxStack := 6, maxLocals := 12, code := code, exceptionTable := #[], attributes := #[] }
def k1m1 : Method := { name := "law", desc := "(IIIII)Z", sig := { parameters := [.int, .int, .int, .int, .int], returnType := some .boolean }, accessFlags := 9, code := some k1c1 }
/-- com/example/arkivsmed/arkivsmed/xml/TextCountAddPinLaw -/
def k1 : Class := { plain "com/example/arkivsmed/arkivsmed/xml/TextCountAddPinLaw" (some 0) with
  accessFlags := 49
  interfaces := #[]
  cf := some (fileOf pool1 36 #[] #[{ accessFlags := 1, nameIndex := 5, descriptorIndex := 6, attributes := #[] }, { accessFlags := 9, nameIndex := 40, descriptorIndex := 41, attributes := #[] }] 49 2 #[] #[])
  fields := #[]
  methods := #[k1m0, k1m1]
  instanceTypes := #[]
  staticTypes := #[]
  resolved := Array.replicate 45 none
  statics := none }

def pool2 : Array CpInfo := pool [(1, .methodref 2 3), (0, .class_ 4), (0, .nameAndType 5 6), (0, u "java/lang/Object"), (0, u "<init>"), (0, u "()V"), (0, .class_ 8), (0, u "java/util/ArrayDeque"), (0, .methodref 7 3), (0, .fieldref 11 12), (0, .class_ 13), (0, .nameAndType 14 15), (0, u "com/example/arkivsmed/arkivsmed/xml/TextCount"), (0, u "open"), (0, u "Ljava/util/Deque;"), (0, .fieldref 11 17), (0, .nameAndType 18 19), (0, u "line"), (0, u "I"), (0, .interfaceMethodref 21 22), (0, .class_ 23), (0, .nameAndType 24 25), (0, u "java/util/Deque"), (0, u "push"), (0, u "(Ljava/lang/Object;)V"), (0, .methodref 11 27), (0, .nameAndType 28 29), (0, u "restart"), (0, u "(I)V"), (0, .interfaceMethodref 21 31), (0, .nameAndType 32 33), (0, u "pop"), (0, u "()Ljava/lang/Object;"), (0, .fieldref 11 35), (0, .nameAndType 36 37), (0, u "count"), (0, u "J"), (2, .long 1048576), (21, u "start"), (0, u "(Ljava/lang/String;I)V"), (0, u "end"), (0, u "add"), (0, u "(I)Z"), (1, u "()I")] 21

def k2c0 : Code := { maxStack := 3, maxLocals := 1, code := prog_109_method_1_code, exceptionTable := #[], attributes := #[] }
def k2m0 : Method := { name := "<init>", desc := "()V", sig := { parameters := [], returnType := none }, accessFlags := 0, code := some k2c0 }
def k2c1 : Code := { maxStack := 2, maxLocals := 3, code := prog_109_method_2_code, exceptionTable := #[], attributes := #[] }
def k2m1 : Method := { name := "start", desc := "(Ljava/lang/String;I)V", sig := { parameters := [(.object "java/lang/String"), .int], returnType := none }, accessFlags := 0, code := some k2c1 }
def k2c2 : Code := { maxStack := 2, maxLocals := 2, code := prog_109_method_3_code, exceptionTable := #[], attributes := #[] }
def k2m2 : Method := { name := "end", desc := "(I)V", sig := { parameters := [.int], returnType := none }, accessFlags := 0, code := some k2c2 }
def k2c3 : Code := { maxStack := 5, maxLocals := 2, code := prog_109_method_4_code, exceptionTable := #[], attributes := #[] }
def k2m3 : Method := { name := "add", desc := "(I)Z", sig := { parameters := [.int], returnType := some .boolean }, accessFlags := 0, code := some k2c3 }
def k2c4 : Code := { maxStack := 1, maxLocals := 1, code := prog_109_method_5_code, exceptionTable := #[], attributes := #[] }
def k2m4 : Method := { name := "line", desc := "()I", sig := { parameters := [], returnType := some .int }, accessFlags := 0, code := some k2c4 }
def k2c5 : Code := { maxStack := 3, maxLocals := 2, code := prog_109_method_7_code, exceptionTable := #[], attributes := #[] }
def k2m5 : Method := { name := "restart", desc := "(I)V", sig := { parameters := [.int], returnType := none }, accessFlags := 2, code := some k2c5 }
/-- com/example/arkivsmed/arkivsmed/xml/TextCount -/
def k2 : Class := { plain "com/example/arkivsmed/arkivsmed/xml/TextCount" (some 0) with
  accessFlags := 48
  interfaces := #[]
  cf := some (fileOf pool2 11 #[] #[{ accessFlags := 0, nameIndex := 5, descriptorIndex := 6, attributes := #[] }, { accessFlags := 0, nameIndex := 62, descriptorIndex := 63, attributes := #[] }, { accessFlags := 0, nameIndex := 64, descriptorIndex := 29, attributes := #[] }, { accessFlags := 0, nameIndex := 65, descriptorIndex := 66, attributes := #[] }, { accessFlags := 0, nameIndex := 18, descriptorIndex := 68, attributes := #[] }, { accessFlags := 2, nameIndex := 28, descriptorIndex := 29, attributes := #[] }] 48 2 #[] #[{ accessFlags := 18, nameIndex := 14, descriptorIndex := 15, attributes := #[] }, { accessFlags := 2, nameIndex := 36, descriptorIndex := 37, attributes := #[] }, { accessFlags := 2, nameIndex := 18, descriptorIndex := 19, attributes := #[] }])
  fields := #[{ name := "open", type := (.object "java/util/Deque"), accessFlags := 18, slot := 0, constantValue := 0 }, { name := "count", type := .long, accessFlags := 2, slot := 1, constantValue := 0 }, { name := "line", type := .int, accessFlags := 2, slot := 2, constantValue := 0 }]
  methods := #[k2m0, k2m1, k2m2, k2m3, k2m4, k2m5]
  instanceTypes := #[(.object "java/util/Deque"), .long, .int]
  staticTypes := #[]
  resolved := Array.replicate 90 none
  statics := none }

def pool3 : Array CpInfo := pool [(8, .class_ 10), (1, u "java/lang/Iterable"), (24, .class_ 36), (0, u "java/lang/Object")] 25

/-- java/lang/Iterable -/
def k3 : Class := { plain "java/lang/Iterable" (some 0) with
  accessFlags := 1537
  interfaces := #[]
  cf := some (fileOf pool3 8 #[] #[] 1537 35 #[] #[])
  fields := #[]
  methods := #[]
  instanceTypes := #[]
  staticTypes := #[]
  resolved := Array.replicate 62 none
  statics := none }

def pool4 : Array CpInfo := pool [(10, .class_ 12), (1, u "java/util/Collection"), (47, .class_ 61), (0, u "java/lang/Object"), (0, .class_ 63), (0, u "java/lang/Iterable")] 51

/-- java/util/Collection -/
def k4 : Class := { plain "java/util/Collection" (some 0) with
  accessFlags := 1537
  interfaces := #[3]
  cf := some (fileOf pool4 10 #[] #[] 1537 60 #[62] #[])
  fields := #[]
  methods := #[]
  instanceTypes := #[]
  staticTypes := #[]
  resolved := Array.replicate 115 none
  statics := none }

def pool5 : Array CpInfo := pool [(1, .methodref 2 3), (0, .class_ 4), (0, .nameAndType 5 6), (0, u "java/lang/Object"), (0, u "<init>"), (0, u "()V"), (1, .class_ 10), (1, u "java/util/AbstractCollection"), (66, .class_ 78), (0, u "java/util/Collection")] 81

def k5c0 : Code := { maxStack := 1, maxLocals := 1, code := jdk_22_method_1_code, exceptionTable := #[], attributes := #[] }
def k5m0 : Method := { name := "<init>", desc := "()V", sig := { parameters := [], returnType := none }, accessFlags := 4, code := some k5c0 }
/-- java/util/AbstractCollection -/
def k5 : Class := { plain "java/util/AbstractCollection" (some 0) with
  accessFlags := 1057
  interfaces := #[4]
  cf := some (fileOf pool5 8 #[] #[{ accessFlags := 4, nameIndex := 5, descriptorIndex := 6, attributes := #[] }] 1057 2 #[77] #[])
  fields := #[]
  methods := #[k5m0]
  instanceTypes := #[]
  staticTypes := #[]
  resolved := Array.replicate 160 none
  statics := none }

def pool6 : Array CpInfo := pool [(1, .class_ 2), (0, u "java/util/Queue"), (0, .class_ 4), (0, u "java/lang/Object"), (0, .class_ 6), (0, u "java/util/Collection")] 14

/-- java/util/Queue -/
def k6 : Class := { plain "java/util/Queue" (some 0) with
  accessFlags := 1537
  interfaces := #[4]
  cf := some (fileOf pool6 1 #[] #[] 1537 3 #[5] #[])
  fields := #[]
  methods := #[]
  instanceTypes := #[]
  staticTypes := #[]
  resolved := Array.replicate 21 none
  statics := none }

def pool7 : Array CpInfo := pool [(8, .class_ 10), (1, u "java/util/SequencedCollection"), (15, .class_ 27), (0, u "java/lang/Object"), (0, .class_ 29), (0, u "java/util/Collection")] 27

/-- java/util/SequencedCollection -/
def k7 : Class := { plain "java/util/SequencedCollection" (some 0) with
  accessFlags := 1537
  interfaces := #[4]
  cf := some (fileOf pool7 8 #[] #[] 1537 26 #[28] #[])
  fields := #[]
  methods := #[]
  instanceTypes := #[]
  staticTypes := #[]
  resolved := Array.replicate 57 none
  statics := none }

def pool8 : Array CpInfo := pool [(8, .class_ 10), (1, u "java/util/Deque"), (2, .class_ 14), (0, u "java/lang/Object"), (0, .class_ 16), (0, u "java/util/Queue"), (0, .class_ 18), (0, u "java/util/SequencedCollection"), (1, u "(Ljava/lang/Object;)V"), (8, u "()Ljava/lang/Object;"), (19, u "push"), (0, u "pop")] 19

def k8m0 : Method := { name := "push", desc := "(Ljava/lang/Object;)V", sig := { parameters := [(.object "java/lang/Object")], returnType := none }, accessFlags := 1025, code := none }
def k8m1 : Method := { name := "pop", desc := "()Ljava/lang/Object;", sig := { parameters := [], returnType := some (.object "java/lang/Object") }, accessFlags := 1025, code := none }
/-- java/util/Deque -/
def k8 : Class := { plain "java/util/Deque" (some 0) with
  accessFlags := 1537
  interfaces := #[6, 7]
  cf := some (fileOf pool8 8 #[] #[{ accessFlags := 1025, nameIndex := 49, descriptorIndex := 20, attributes := #[] }, { accessFlags := 1025, nameIndex := 50, descriptorIndex := 29, attributes := #[] }] 1537 13 #[15, 17] #[])
  fields := #[]
  methods := #[k8m0, k8m1]
  instanceTypes := #[]
  staticTypes := #[]
  resolved := Array.replicate 70 none
  statics := none }

def pool9 : Array CpInfo := pool [(1, .class_ 2), (0, u "java/lang/Cloneable"), (0, .class_ 4), (0, u "java/lang/Object")] 2

/-- java/lang/Cloneable -/
def k9 : Class := { plain "java/lang/Cloneable" (some 0) with
  accessFlags := 1537
  interfaces := #[]
  cf := some (fileOf pool9 1 #[] #[] 1537 3 #[] #[])
  fields := #[]
  methods := #[]
  instanceTypes := #[]
  staticTypes := #[]
  resolved := Array.replicate 7 none
  statics := none }

def pool10 : Array CpInfo := pool [(1, .class_ 2), (0, u "java/io/Serializable"), (0, .class_ 4), (0, u "java/lang/Object")] 2

/-- java/io/Serializable -/
def k10 : Class := { plain "java/io/Serializable" (some 0) with
  accessFlags := 1537
  interfaces := #[]
  cf := some (fileOf pool10 1 #[] #[] 1537 3 #[] #[])
  fields := #[]
  methods := #[]
  instanceTypes := #[]
  staticTypes := #[]
  resolved := Array.replicate 7 none
  statics := none }

def pool11 : Array CpInfo := pool [(3, .fieldref 4 5), (0, .class_ 6), (0, .nameAndType 7 8), (0, u "java/util/ArrayDeque"), (0, u "elements"), (0, u "[Ljava/lang/Object;"), (4, u "(II)I"), (6, .fieldref 4 21), (0, .nameAndType 22 23), (0, u "tail"), (0, u "I"), (0, .fieldref 4 25), (0, .nameAndType 26 23), (0, u "head"), (12, u "<init>"), (2, .methodref 43 44), (0, .class_ 45), (0, .nameAndType 39 46), (0, u "java/util/AbstractCollection"), (0, u "()V"), (0, .class_ 48), (0, u "java/lang/Object"), (19, .methodref 4 69), (0, .nameAndType 70 13), (0, u "dec"), (3, .methodref 4 75), (0, .nameAndType 76 13), (0, u "inc"), (9, .methodref 4 87), (0, .nameAndType 88 89), (0, u "addFirst"), (0, u "(Ljava/lang/Object;)V"), (3, .methodref 4 94), (0, .nameAndType 95 96), (0, u "pollFirst"), (0, u "()Ljava/lang/Object;"), (6, .methodref 4 104), (0, .nameAndType 105 106), (0, u "elementAt"), (0, u "([Ljava/lang/Object;I)Ljava/lang/Object;"), (11, .methodref 4 119), (0, .nameAndType 120 96), (0, u "removeFirst"), (10, .class_ 132), (0, u "java/util/ArrayDeque$DeqIterator"), (3, .class_ 137), (0, u "java/util/ArrayDeque$DescendingIterator"), (1, .class_ 140), (0, u "java/util/ArrayDeque$DeqSpliterator"), (137, .class_ 279), (0, u "java/util/Deque"), (0, .class_ 281), (0, u "java/lang/Cloneable"), (0, .class_ 283), (0, u "java/io/Serializable"), (0, u "MAX_ARRAY_SIZE"), (1, u "serialVersionUID"), (0, u "J"), (54, u "push"), (0, u "pop")] 94

def k11c0 : Code := { maxStack := 2, maxLocals := 1, code := jdk_21_method_3_code, exceptionTable := #[], attributes := #[] }
def k11m0 : Method := { name := "<init>", desc := "()V", sig := { parameters := [], returnType := none }, accessFlags := 1, code := some k11c0 }
def k11c1 : Code := { maxStack := 2, maxLocals := 2, code := jdk_21_method_6_code, exceptionTable := #[], attributes := #[] }
def k11m1 : Method := { name := "inc", desc := "(II)I", sig := { parameters := [.int, .int], returnType := some .int }, accessFlags := 24, code := some k11c1 }
def k11c2 : Code := { maxStack := 2, maxLocals := 2, code := jdk_21_method_7_code, exceptionTable := #[], attributes := #[] }
def k11m2 : Method := { name := "dec", desc := "(II)I", sig := { parameters := [.int, .int], returnType := some .int }, accessFlags := 24, code := some k11c2 }
def k11c3 : Code := { maxStack := 2, maxLocals := 2, code := jdk_21_method_10_code, exceptionTable := #[], attributes := #[] }
def k11m3 : Method := { name := "elementAt", desc := "([Ljava/lang/Object;I)Ljava/lang/Object;", sig := { parameters := [(.array (.object "java/lang/Object")), .int], returnType := some (.object "java/lang/Object") }, accessFlags := 24, code := some k11c3 }
def k11c4 : Code := { maxStack := 4, maxLocals := 3, code := jdk_21_method_12_code, exceptionTable := #[], attributes := #[] }
def k11m4 : Method := { name := "addFirst", desc := "(Ljava/lang/Object;)V", sig := { parameters := [(.object "java/lang/Object")], returnType := none }, accessFlags := 1, code := some k11c4 }
def k11c5 : Code := { maxStack := 2, maxLocals := 2, code := jdk_21_method_18_code, exceptionTable := #[], attributes := #[] }
def k11m5 : Method := { name := "removeFirst", desc := "()Ljava/lang/Object;", sig := { parameters := [], returnType := some (.object "java/lang/Object") }, accessFlags := 1, code := some k11c5 }
def k11c6 : Code := { maxStack := 3, maxLocals := 4, code := jdk_21_method_20_code, exceptionTable := #[], attributes := #[] }
def k11m6 : Method := { name := "pollFirst", desc := "()Ljava/lang/Object;", sig := { parameters := [], returnType := some (.object "java/lang/Object") }, accessFlags := 1, code := some k11c6 }
def k11c7 : Code := { maxStack := 2, maxLocals := 2, code := jdk_21_method_34_code, exceptionTable := #[], attributes := #[] }
def k11m7 : Method := { name := "push", desc := "(Ljava/lang/Object;)V", sig := { parameters := [(.object "java/lang/Object")], returnType := none }, accessFlags := 1, code := some k11c7 }
def k11c8 : Code := { maxStack := 1, maxLocals := 1, code := jdk_21_method_35_code, exceptionTable := #[], attributes := #[] }
def k11m8 : Method := { name := "pop", desc := "()Ljava/lang/Object;", sig := { parameters := [], returnType := some (.object "java/lang/Object") }, accessFlags := 1, code := some k11c8 }
/-- java/util/ArrayDeque -/
def k11 : Class := { plain "java/util/ArrayDeque" (some 5) with
  accessFlags := 33
  interfaces := #[8, 9, 10]
  cf := some (fileOf pool11 4 #[.nestMembers #[139, 136, 131]] #[{ accessFlags := 1, nameIndex := 39, descriptorIndex := 46, attributes := #[] }, { accessFlags := 24, nameIndex := 76, descriptorIndex := 13, attributes := #[] }, { accessFlags := 24, nameIndex := 70, descriptorIndex := 13, attributes := #[] }, { accessFlags := 24, nameIndex := 105, descriptorIndex := 106, attributes := #[] }, { accessFlags := 1, nameIndex := 88, descriptorIndex := 89, attributes := #[] }, { accessFlags := 1, nameIndex := 120, descriptorIndex := 96, attributes := #[] }, { accessFlags := 1, nameIndex := 95, descriptorIndex := 96, attributes := #[] }, { accessFlags := 1, nameIndex := 342, descriptorIndex := 89, attributes := #[] }, { accessFlags := 1, nameIndex := 343, descriptorIndex := 96, attributes := #[] }] 33 43 #[278, 280, 282] #[{ accessFlags := 128, nameIndex := 7, descriptorIndex := 8, attributes := #[] }, { accessFlags := 128, nameIndex := 26, descriptorIndex := 23, attributes := #[] }, { accessFlags := 128, nameIndex := 22, descriptorIndex := 23, attributes := #[] }, { accessFlags := 26, nameIndex := 284, descriptorIndex := 23, attributes := #[] }, { accessFlags := 26, nameIndex := 286, descriptorIndex := 287, attributes := #[] }])
  fields := #[{ name := "elements", type := (.array (.object "java/lang/Object")), accessFlags := 128, slot := 0, constantValue := 0 }, { name := "head", type := .int, accessFlags := 128, slot := 1, constantValue := 0 }, { name := "tail", type := .int, accessFlags := 128, slot := 2, constantValue := 0 }, { name := "MAX_ARRAY_SIZE", type := .int, accessFlags := 26, slot := 0, constantValue := 0 }, { name := "serialVersionUID", type := .long, accessFlags := 26, slot := 1, constantValue := 0 }]
  methods := #[k11m0, k11m1, k11m2, k11m3, k11m4, k11m5, k11m6, k11m7, k11m8]
  instanceTypes := #[(.array (.object "java/lang/Object")), .int, .int]
  staticTypes := #[.int, .long]
  resolved := Array.replicate 438 none
  statics := none }

def pool12 : Array CpInfo := pool [(1, .class_ 2), (0, u "java/lang/Comparable"), (0, .class_ 4), (0, u "java/lang/Object")] 7

/-- java/lang/Comparable -/
def k12 : Class := { plain "java/lang/Comparable" (some 0) with
  accessFlags := 1537
  interfaces := #[]
  cf := some (fileOf pool12 1 #[] #[] 1537 3 #[] #[])
  fields := #[]
  methods := #[]
  instanceTypes := #[]
  staticTypes := #[]
  resolved := Array.replicate 12 none
  statics := none }

def pool13 : Array CpInfo := pool [(2, .class_ 4), (1, u "java/lang/CharSequence"), (42, .class_ 48), (0, u "java/lang/CharSequence$1CodePointIterator"), (10, .class_ 60), (0, u "java/lang/CharSequence$1CharIterator"), (5, .class_ 67), (0, u "java/lang/Object")] 63

/-- java/lang/CharSequence -/
def k13 : Class := { plain "java/lang/CharSequence" (some 0) with
  accessFlags := 1537
  interfaces := #[]
  cf := some (fileOf pool13 2 #[.nestMembers #[47, 59]] #[] 1537 66 #[] #[])
  fields := #[]
  methods := #[]
  instanceTypes := #[]
  staticTypes := #[]
  resolved := Array.replicate 131 none
  statics := none }

def pool14 : Array CpInfo := pool [(1, .class_ 2), (0, u "java/lang/constant/Constable"), (0, .class_ 4), (0, u "java/lang/Object")] 6

/-- java/lang/constant/Constable -/
def k14 : Class := { plain "java/lang/constant/Constable" (some 0) with
  accessFlags := 1537
  interfaces := #[]
  cf := some (fileOf pool14 1 #[] #[] 1537 3 #[] #[])
  fields := #[]
  methods := #[]
  instanceTypes := #[]
  staticTypes := #[]
  resolved := Array.replicate 11 none
  statics := none }

def pool15 : Array CpInfo := pool [(1, .class_ 2), (0, u "java/lang/constant/ConstantDesc"), (0, .class_ 4), (0, u "java/lang/Object")] 32

/-- java/lang/constant/ConstantDesc -/
def k15 : Class := { plain "java/lang/constant/ConstantDesc" (some 0) with
  accessFlags := 1537
  interfaces := #[]
  cf := some (fileOf pool15 1 #[] #[] 1537 3 #[] #[])
  fields := #[]
  methods := #[]
  instanceTypes := #[]
  staticTypes := #[]
  resolved := Array.replicate 37 none
  statics := none }

def pool16 : Array CpInfo := pool [(1, .methodref 2 3), (0, .class_ 4), (0, .nameAndType 5 6), (0, u "java/lang/Object"), (0, u "<init>"), (0, u "()V"), (2, .fieldref 10 11), (0, .class_ 12), (0, .nameAndType 13 14), (0, u "java/lang/String"), (0, u "value"), (0, u "[B"), (0, .fieldref 10 16), (0, .nameAndType 17 18), (0, u "coder"), (0, u "B"), (2, u "hash"), (0, u "I"), (2, u "hashIsZero"), (0, u "Z"), (11, .fieldref 10 39), (0, .nameAndType 40 26), (0, u "COMPACT_STRINGS"), (12, u "toBytes"), (53, .class_ 109), (1, u "java/lang/StringLatin1"), (99, .methodref 10 210), (0, .nameAndType 5 211), (0, u "([BB)V"), (157, u "(C)Z"), (205, .class_ 576), (0, u "java/lang/CharSequence"), (22, u "CASE_INSENSITIVE_ORDER"), (0, u "Ljava/util/Comparator;"), (181, u "valueOf"), (0, u "(C)Ljava/lang/String;"), (231, .methodref 107 1016), (0, .nameAndType 1017 369), (0, u "canEncode"), (0, .methodref 107 1019), (0, .nameAndType 53 1020), (0, u "(C)[B"), (80, u "serialPersistentFields"), (0, u "[Ljava/io/ObjectStreamField;"), (0, .class_ 1104), (0, u "java/lang/String$CaseInsensitiveComparator"), (1, .class_ 1107), (0, u "java/io/Serializable"), (0, .class_ 1109), (0, u "java/lang/Comparable"), (0, .class_ 1111), (0, u "java/lang/constant/Constable"), (0, .class_ 1113), (0, u "java/lang/constant/ConstantDesc"), (2, u "serialVersionUID"), (0, u "J"), (3, u "REPL"), (0, u "C"), (2, u "LATIN1"), (1, u "UTF16")] 323

def k16m0 : Method := { name := "<init>", desc := "()V", sig := { parameters := [], returnType := none }, accessFlags := 1, code := none }
def k16c1 : Code := { maxStack := 4, maxLocals := 1, code := jdk_42_method_139_code, exceptionTable := #[], attributes := #[] }
def k16m1 : Method := { name := "valueOf", desc := "(C)Ljava/lang/String;", sig := { parameters := [.char], returnType := some (.object "java/lang/String") }, accessFlags := 9, code := some k16c1 }
def k16c2 : Code := { maxStack := 2, maxLocals := 3, code := jdk_42_method_151_code, exceptionTable := #[], attributes := #[] }
def k16m2 : Method := { name := "<init>", desc := "([BB)V", sig := { parameters := [(.array .byte), .byte], returnType := none }, accessFlags := 0, code := some k16c2 }
/-- java/lang/String -/
def k16 : Class := { plain "java/lang/String" (some 0) with
  accessFlags := 49
  interfaces := #[10, 12, 13, 14, 15]
  cf := some (fileOf pool16 10 #[.nestMembers #[1103]] #[{ accessFlags := 1, nameIndex := 5, descriptorIndex := 6, attributes := #[] }, { accessFlags := 9, nameIndex := 782, descriptorIndex := 783, attributes := #[] }, { accessFlags := 0, nameIndex := 5, descriptorIndex := 211, attributes := #[] }] 49 2 #[1106, 1108, 575, 1110, 1112] #[{ accessFlags := 18, nameIndex := 13, descriptorIndex := 14, attributes := #[] }, { accessFlags := 18, nameIndex := 17, descriptorIndex := 18, attributes := #[] }, { accessFlags := 2, nameIndex := 21, descriptorIndex := 22, attributes := #[] }, { accessFlags := 2, nameIndex := 25, descriptorIndex := 26, attributes := #[] }, { accessFlags := 26, nameIndex := 1116, descriptorIndex := 1117, attributes := #[] }, { accessFlags := 24, nameIndex := 40, descriptorIndex := 26, attributes := #[] }, { accessFlags := 26, nameIndex := 1101, descriptorIndex := 1102, attributes := #[] }, { accessFlags := 26, nameIndex := 1121, descriptorIndex := 1122, attributes := #[] }, { accessFlags := 25, nameIndex := 599, descriptorIndex := 600, attributes := #[] }, { accessFlags := 24, nameIndex := 1125, descriptorIndex := 18, attributes := #[] }, { accessFlags := 24, nameIndex := 1127, descriptorIndex := 18, attributes := #[] }])
  fields := #[{ name := "value", type := (.array .byte), accessFlags := 18, slot := 0, constantValue := 0 }, { name := "coder", type := .byte, accessFlags := 18, slot := 1, constantValue := 0 }, { name := "hash", type := .int, accessFlags := 2, slot := 2, constantValue := 0 }, { name := "hashIsZero", type := .boolean, accessFlags := 2, slot := 3, constantValue := 0 }, { name := "serialVersionUID", type := .long, accessFlags := 26, slot := 0, constantValue := 0 }, { name := "COMPACT_STRINGS", type := .boolean, accessFlags := 24, slot := 1, constantValue := 0 }, { name := "serialPersistentFields", type := (.array (.object "java/io/ObjectStreamField")), accessFlags := 26, slot := 2, constantValue := 0 }, { name := "REPL", type := .char, accessFlags := 26, slot := 3, constantValue := 0 }, { name := "CASE_INSENSITIVE_ORDER", type := (.object "java/util/Comparator"), accessFlags := 25, slot := 4, constantValue := 0 }, { name := "LATIN1", type := .byte, accessFlags := 24, slot := 5, constantValue := 0 }, { name := "UTF16", type := .byte, accessFlags := 24, slot := 6, constantValue := 0 }]
  methods := #[k16m0, k16m1, k16m2]
  instanceTypes := #[(.array .byte), .byte, .int, .boolean]
  staticTypes := #[.long, .boolean, (.array (.object "java/io/ObjectStreamField")), .char, (.object "java/util/Comparator"), .byte, .byte]
  resolved := Array.replicate 1451 none
  statics := some 0 }

def pool17 : Array CpInfo := pool [(4, .class_ 6), (1, u "java/lang/Object"), (0, u "<init>"), (0, u "()V"), (5, .class_ 16), (1, u "java/lang/StringLatin1"), (73, u "canEncode"), (14, u "(C)Z"), (15, u "$assertionsDisabled"), (0, u "Z"), (98, .class_ 223), (1, u "java/lang/StringLatin1$LinesSpliterator"), (156, u "toBytes"), (1, u "(C)[B"), (7, .class_ 391), (0, u "java/lang/StringLatin1$CharsSpliterator")] 3

def k17m0 : Method := { name := "<init>", desc := "()V", sig := { parameters := [], returnType := none }, accessFlags := 0, code := none }
def k17c1 : Code := { maxStack := 2, maxLocals := 1, code := jdk_43_method_3_code, exceptionTable := #[], attributes := #[] }
def k17m1 : Method := { name := "canEncode", desc := "(C)Z", sig := { parameters := [.char], returnType := some .boolean }, accessFlags := 9, code := some k17c1 }
def k17c2 : Code := { maxStack := 4, maxLocals := 1, code := jdk_43_method_46_code, exceptionTable := #[], attributes := #[] }
def k17m2 : Method := { name := "toBytes", desc := "(C)[B", sig := { parameters := [.char], returnType := some (.array .byte) }, accessFlags := 9, code := some k17c2 }
/-- java/lang/StringLatin1 -/
def k17 : Class := { plain "java/lang/StringLatin1" (some 0) with
  accessFlags := 48
  interfaces := #[]
  cf := some (fileOf pool17 14 #[.nestMembers #[390, 221]] #[{ accessFlags := 0, nameIndex := 7, descriptorIndex := 8, attributes := #[] }, { accessFlags := 9, nameIndex := 90, descriptorIndex := 105, attributes := #[] }, { accessFlags := 9, nameIndex := 380, descriptorIndex := 382, attributes := #[] }] 48 4 #[] #[{ accessFlags := 4120, nameIndex := 121, descriptorIndex := 122, attributes := #[] }])
  fields := #[{ name := "$assertionsDisabled", type := .boolean, accessFlags := 4120, slot := 0, constantValue := 0 }]
  methods := #[k17m0, k17m1, k17m2]
  instanceTypes := #[]
  staticTypes := #[.boolean]
  resolved := Array.replicate 395 none
  statics := none }

def pool18 : Array CpInfo := pool [(2, .class_ 4), (1, u "java/lang/Object"), (0, u "<init>"), (0, u "()V"), (17, .class_ 26), (1, u "jdk/internal/util/Preconditions"), (28, .class_ 56), (0, u "jdk/internal/util/Preconditions$4"), (57, .class_ 115), (0, u "jdk/internal/util/Preconditions$1"), (7, u "SIOOBE_FORMATTER"), (0, u "Ljava/util/function/BiFunction;"), (0, .class_ 126), (0, u "jdk/internal/util/Preconditions$2"), (3, u "AIOOBE_FORMATTER"), (0, .class_ 132), (0, u "jdk/internal/util/Preconditions$3"), (3, u "IOOBE_FORMATTER")] 57

def k18m0 : Method := { name := "<init>", desc := "()V", sig := { parameters := [], returnType := none }, accessFlags := 1, code := none }
/-- jdk/internal/util/Preconditions -/
def k18 : Class := { plain "jdk/internal/util/Preconditions" (some 0) with
  accessFlags := 33
  interfaces := #[]
  cf := some (fileOf pool18 24 #[.nestMembers #[55, 131, 125, 114]] #[{ accessFlags := 1, nameIndex := 5, descriptorIndex := 6, attributes := #[] }] 33 2 #[] #[{ accessFlags := 25, nameIndex := 123, descriptorIndex := 124, attributes := #[] }, { accessFlags := 25, nameIndex := 130, descriptorIndex := 124, attributes := #[] }, { accessFlags := 25, nameIndex := 136, descriptorIndex := 124, attributes := #[] }])
  fields := #[{ name := "SIOOBE_FORMATTER", type := (.object "java/util/function/BiFunction"), accessFlags := 25, slot := 0, constantValue := 0 }, { name := "AIOOBE_FORMATTER", type := (.object "java/util/function/BiFunction"), accessFlags := 25, slot := 1, constantValue := 0 }, { name := "IOOBE_FORMATTER", type := (.object "java/util/function/BiFunction"), accessFlags := 25, slot := 2, constantValue := 0 }]
  methods := #[k18m0]
  instanceTypes := #[]
  staticTypes := #[(.object "java/util/function/BiFunction"), (.object "java/util/function/BiFunction"), (.object "java/util/function/BiFunction")]
  resolved := Array.replicate 194 none
  statics := some 1 }

def pool19 : Array CpInfo := pool [(9, u "<init>"), (6, .class_ 18), (1, u "java/lang/Object"), (0, u "()V"), (1, .class_ 23), (1, u "jdk/internal/util/ArraysSupport"), (0, u "LOG2_ARRAY_LONG_INDEX_SCALE"), (0, u "I"), (2, u "U"), (0, u "Ljdk/internal/misc/Unsafe;"), (8, u "BIG_ENDIAN"), (0, u "Z"), (8, u "LOG2_BYTE_BIT_SIZE"), (4, u "LOG2_ARRAY_INT_INDEX_SCALE"), (54, u "JLA"), (0, u "Ljdk/internal/access/JavaLangAccess;"), (11, u "LOG2_ARRAY_BOOLEAN_INDEX_SCALE"), (9, u "LOG2_ARRAY_BYTE_INDEX_SCALE"), (5, u "LOG2_ARRAY_CHAR_INDEX_SCALE"), (5, u "LOG2_ARRAY_SHORT_INDEX_SCALE"), (18, u "LOG2_ARRAY_FLOAT_INDEX_SCALE"), (24, u "LOG2_ARRAY_DOUBLE_INDEX_SCALE"), (89, u "T_BOOLEAN"), (2, u "T_CHAR"), (1, u "T_FLOAT"), (1, u "T_DOUBLE"), (1, u "T_BYTE"), (1, u "T_SHORT"), (1, u "T_INT"), (1, u "T_LONG"), (1, u "SOFT_MAX_ARRAY_LENGTH")] 83

def k19m0 : Method := { name := "<init>", desc := "()V", sig := { parameters := [], returnType := none }, accessFlags := 2, code := none }
/-- jdk/internal/util/ArraysSupport -/
def k19 : Class := { plain "jdk/internal/util/ArraysSupport" (some 0) with
  accessFlags := 33
  interfaces := #[]
  cf := some (fileOf pool19 21 #[] #[{ accessFlags := 2, nameIndex := 9, descriptorIndex := 19, attributes := #[] }] 33 16 #[] #[{ accessFlags := 24, nameIndex := 28, descriptorIndex := 29, attributes := #[] }, { accessFlags := 26, nameIndex := 38, descriptorIndex := 39, attributes := #[] }, { accessFlags := 25, nameIndex := 121, descriptorIndex := 25, attributes := #[] }, { accessFlags := 25, nameIndex := 131, descriptorIndex := 25, attributes := #[] }, { accessFlags := 25, nameIndex := 137, descriptorIndex := 25, attributes := #[] }, { accessFlags := 25, nameIndex := 143, descriptorIndex := 25, attributes := #[] }, { accessFlags := 25, nameIndex := 53, descriptorIndex := 25, attributes := #[] }, { accessFlags := 25, nameIndex := 24, descriptorIndex := 25, attributes := #[] }, { accessFlags := 25, nameIndex := 162, descriptorIndex := 25, attributes := #[] }, { accessFlags := 25, nameIndex := 187, descriptorIndex := 25, attributes := #[] }, { accessFlags := 26, nameIndex := 48, descriptorIndex := 25, attributes := #[] }, { accessFlags := 25, nameIndex := 277, descriptorIndex := 25, attributes := #[] }, { accessFlags := 25, nameIndex := 280, descriptorIndex := 25, attributes := #[] }, { accessFlags := 25, nameIndex := 282, descriptorIndex := 25, attributes := #[] }, { accessFlags := 25, nameIndex := 284, descriptorIndex := 25, attributes := #[] }, { accessFlags := 25, nameIndex := 286, descriptorIndex := 25, attributes := #[] }, { accessFlags := 25, nameIndex := 288, descriptorIndex := 25, attributes := #[] }, { accessFlags := 25, nameIndex := 290, descriptorIndex := 25, attributes := #[] }, { accessFlags := 25, nameIndex := 292, descriptorIndex := 25, attributes := #[] }, { accessFlags := 26, nameIndex := 108, descriptorIndex := 109, attributes := #[] }, { accessFlags := 25, nameIndex := 294, descriptorIndex := 25, attributes := #[] }])
  fields := #[{ name := "U", type := (.object "jdk/internal/misc/Unsafe"), accessFlags := 24, slot := 0, constantValue := 0 }, { name := "BIG_ENDIAN", type := .boolean, accessFlags := 26, slot := 1, constantValue := 0 }, { name := "LOG2_ARRAY_BOOLEAN_INDEX_SCALE", type := .int, accessFlags := 25, slot := 2, constantValue := 0 }, { name := "LOG2_ARRAY_BYTE_INDEX_SCALE", type := .int, accessFlags := 25, slot := 3, constantValue := 0 }, { name := "LOG2_ARRAY_CHAR_INDEX_SCALE", type := .int, accessFlags := 25, slot := 4, constantValue := 0 }, { name := "LOG2_ARRAY_SHORT_INDEX_SCALE", type := .int, accessFlags := 25, slot := 5, constantValue := 0 }, { name := "LOG2_ARRAY_INT_INDEX_SCALE", type := .int, accessFlags := 25, slot := 6, constantValue := 0 }, { name := "LOG2_ARRAY_LONG_INDEX_SCALE", type := .int, accessFlags := 25, slot := 7, constantValue := 0 }, { name := "LOG2_ARRAY_FLOAT_INDEX_SCALE", type := .int, accessFlags := 25, slot := 8, constantValue := 0 }, { name := "LOG2_ARRAY_DOUBLE_INDEX_SCALE", type := .int, accessFlags := 25, slot := 9, constantValue := 0 }, { name := "LOG2_BYTE_BIT_SIZE", type := .int, accessFlags := 26, slot := 10, constantValue := 0 }, { name := "T_BOOLEAN", type := .int, accessFlags := 25, slot := 11, constantValue := 0 }, { name := "T_CHAR", type := .int, accessFlags := 25, slot := 12, constantValue := 0 }, { name := "T_FLOAT", type := .int, accessFlags := 25, slot := 13, constantValue := 0 }, { name := "T_DOUBLE", type := .int, accessFlags := 25, slot := 14, constantValue := 0 }, { name := "T_BYTE", type := .int, accessFlags := 25, slot := 15, constantValue := 0 }, { name := "T_SHORT", type := .int, accessFlags := 25, slot := 16, constantValue := 0 }, { name := "T_INT", type := .int, accessFlags := 25, slot := 17, constantValue := 0 }, { name := "T_LONG", type := .int, accessFlags := 25, slot := 18, constantValue := 0 }, { name := "JLA", type := (.object "jdk/internal/access/JavaLangAccess"), accessFlags := 26, slot := 19, constantValue := 0 }, { name := "SOFT_MAX_ARRAY_LENGTH", type := .int, accessFlags := 25, slot := 20, constantValue := 0 }]
  methods := #[k19m0]
  instanceTypes := #[]
  staticTypes := #[(.object "jdk/internal/misc/Unsafe"), .boolean, .int, .int, .int, .int, .int, .int, .int, .int, .int, .int, .int, .int, .int, .int, .int, .int, .int, (.object "jdk/internal/access/JavaLangAccess"), .int]
  resolved := Array.replicate 378 none
  statics := none }

/-- the primitive byte -/
def k20 : Class := { plain "byte" none with kind := .primitive 'B', accessFlags := 0x411 }
/-- [B -/
def k21 : Class := { plain "[B" (some 0) with kind := .array 20 .byte, interfaces := #[9, 10], accessFlags := 1041 }

/-- the primitive int -/
def k22 : Class := { plain "int" none with kind := .primitive 'I', accessFlags := 0x411 }
/-- [I -/
def k23 : Class := { plain "[I" (some 0) with kind := .array 22 .int, interfaces := #[9, 10], accessFlags := 1041 }

/-- [Ljava/lang/Object; -/
def k24 : Class := { plain "[Ljava/lang/Object;" (some 0) with kind := .array 0 (.object "java/lang/Object"), interfaces := #[9, 10], accessFlags := 1041 }

def heap : Heap := #[{ cls := 16, slots := #[.long 0, .int 1, .null, .int 0, .null, .int 0, .int 0], vm := .statics 16 },
  { cls := 18, slots := #[.null, .null, .null], vm := .statics 18 }]
def classes : Array Class := #[k0, k1, k2, k3, k4, k5, k6, k7, k8, k9, k10, k11, k12, k13, k14, k15, k16, k17, k18, k19, k20, k21, k22, k23, k24]
def interned : List (Array UInt16 × Addr) := []
def slotsUsed : Nat := 10
def theMethod : MethodId := ⟨1, 1⟩
def args0 : Array Value := #[.int 9, .int 10, .int 5, .int 1, .int 3]
def aboutOver (below : List Frame) : State where
  vm := { classes := classes, interned := interned.toArray }
  heap := heap
  slotsUsed := slotsUsed
  threads := #[{ frames := .invoking theMethod args0 :: below }]
def below0 : List Frame := [.native { method := ⟨0, 0⟩, args := #[] }]
def about1 : State := aboutOver below0
def p0 : Program := .bare "" "" ""
def e0 : Env := launch0.env 0 0 0
theorem w_frames : about1.frames = Frame.invoking theMethod args0 :: below0 := rfl
set_option maxRecDepth 65536 in
theorem w_args : argsFit about1.vm theMethod args0 = true := by decide +kernel
set_option maxRecDepth 65536 in
theorem w_heap : heapFits about1 = true := by decide +kernel
set_option maxRecDepth 65536 in
theorem w_runnable : about1.curStatus? = some .runnable := by decide +kernel
set_option maxRecDepth 65536 in
theorem w_alone : about1.alone = true := by decide +kernel
set_option maxRecDepth 65536 in
theorem w_named : about1.methodNamed? x = some theMethod := by decide +kernel
set_option maxRecDepth 65536 in
theorem w_hears : about1.hears theMethod below0 = true := by decide +kernel
set_option maxRecDepth 65536 in
theorem w_ripe : about1.ripe theMethod args0 below0 = true := by decide +kernel
theorem w_running : about1.status = .running := rfl
set_option maxRecDepth 65536 in
theorem w_room : about1.hasRoom e0.platform room_1 = true :=
  launch0.hasRoom_least _ room_1 (by decide +kernel) (by decide +kernel) (by decide +kernel) (by decide +kernel) (by decide +kernel) (by decide +kernel)
theorem allAtoms_all (ts : List Jvm.Cond) (a : Array Jvm.Value) (st : Jvm.State) : (allAtoms ts).before a st = ts.all (fun c => c.before a st) := by
  induction ts with
  | nil => rfl
  | cons c t ih =>
    show (Jvm.Cond.and c (allAtoms t)).before a st = _
    rw [Jvm.Cond.before_and, ih, List.all_cons]
def words1 : List Jvm.Cond := Jvm.Cond.code x code maxLocals ret :: tables_1
/-- a 'code' word, met by the world's own term for the bytes: nothing is compared byte by byte -/
theorem code_word {y : MethodName} {bytes : ByteArray} {mx : Nat} {rt : Option FieldType} {a : Array Value} {s : State} {m : MethodId} {meth : Method} {c : Code} (h1 : s.methodNamed? y = some m) (h2 : s.vm.method? m = some meth) (h3 : meth.code = some c) (h4 : c.code = bytes)
    (h5 : (c.maxLocals == mx && c.exceptionTable.isEmpty && decide (c.maxStack ≤ mostOperands) && decide (meth.sig.returnType = rt) && !meth.locks && decide (parseMethodDescriptor y.desc = some meth.sig)) = true) : (Jvm.Cond.code y bytes mx rt).before a s = true := by
  simp only [Bool.and_eq_true, beq_iff_eq, Bool.not_eq_true', decide_eq_true_eq] at h5
  obtain ⟨⟨⟨⟨⟨g1, g2⟩, g3⟩, g4⟩, g5⟩, g6⟩ := h5
  simp [Cond.before, Cond.holds, Cond.value, h1, h2, h3, h4, g1, g2, g3, g4, g5, g6]
def isCode : Jvm.Cond → Bool
  | .code _ _ _ _ => true
  | _ => false
theorem all_split {L : List Jvm.Cond} {P : Jvm.Cond → Bool} (h1 : L.all (fun c => isCode c || P c) = true) (h2 : ∀ c ∈ L.filter isCode, P c = true) : L.all P = true := by
  refine List.all_eq_true.mpr fun c hc => ?_
  have h := List.all_eq_true.mp h1 c hc
  rcases Bool.eq_false_or_eq_true (isCode c) with hi | hi
  · exact h2 c (List.mem_filter.mpr ⟨hc, hi⟩)
  · simpa [hi] using h
set_option maxRecDepth 65536 in
theorem w_c0 : (Jvm.Cond.code x code maxLocals ret).before args0 about1 = true := code_word (m := ⟨1, 1⟩) (meth := k1m1) (c := k1c1) (by decide +kernel) rfl rfl rfl (by decide +kernel)
set_option maxRecDepth 65536 in
theorem w_c1 : (Jvm.Cond.code ({ cls := "com/example/arkivsmed/arkivsmed/xml/TextCount", name := "<init>", desc := "()V" } : Jvm.MethodName) prog_109_method_1_code (1 : Nat) (Option.none : Option Jvm.ClassFile.FieldType)).before args0 about1 = true := code_word (m := ⟨2, 0⟩) (meth := k2m0) (c := k2c0) (by decide +kernel) rfl rfl rfl (by decide +kernel)
set_option maxRecDepth 65536 in
theorem w_c2 : (Jvm.Cond.code ({ cls := "java/lang/Object", name := "<init>", desc := "()V" } : Jvm.MethodName) object_method_1_code (1 : Nat) (Option.none : Option Jvm.ClassFile.FieldType)).before args0 about1 = true := code_word (m := ⟨0, 0⟩) (meth := k0m0) (c := k0c0) (by decide +kernel) rfl rfl rfl (by decide +kernel)
set_option maxRecDepth 65536 in
theorem w_c3 : (Jvm.Cond.code ({ cls := "java/util/ArrayDeque", name := "<init>", desc := "()V" } : Jvm.MethodName) jdk_21_method_3_code (1 : Nat) (Option.none : Option Jvm.ClassFile.FieldType)).before args0 about1 = true := code_word (m := ⟨11, 0⟩) (meth := k11m0) (c := k11c0) (by decide +kernel) rfl rfl rfl (by decide +kernel)
set_option maxRecDepth 65536 in
theorem w_c4 : (Jvm.Cond.code ({ cls := "java/util/AbstractCollection", name := "<init>", desc := "()V" } : Jvm.MethodName) jdk_22_method_1_code (1 : Nat) (Option.none : Option Jvm.ClassFile.FieldType)).before args0 about1 = true := code_word (m := ⟨5, 0⟩) (meth := k5m0) (c := k5c0) (by decide +kernel) rfl rfl rfl (by decide +kernel)
set_option maxRecDepth 65536 in
theorem w_c5 : (Jvm.Cond.code ({ cls := "com/example/arkivsmed/arkivsmed/xml/TextCount", name := "add", desc := "(I)Z" } : Jvm.MethodName) prog_109_method_4_code (2 : Nat) (Option.some Jvm.ClassFile.FieldType.boolean)).before args0 about1 = true := code_word (m := ⟨2, 3⟩) (meth := k2m3) (c := k2c3) (by decide +kernel) rfl rfl rfl (by decide +kernel)
set_option maxRecDepth 65536 in
theorem w_c6 : (Jvm.Cond.code ({ cls := "java/lang/String", name := "valueOf", desc := "(C)Ljava/lang/String;" } : Jvm.MethodName) jdk_42_method_139_code (1 : Nat) (Option.some (Jvm.ClassFile.FieldType.object "java/lang/String"))).before args0 about1 = true := code_word (m := ⟨16, 1⟩) (meth := k16m1) (c := k16c1) (by decide +kernel) rfl rfl rfl (by decide +kernel)
set_option maxRecDepth 65536 in
theorem w_c7 : (Jvm.Cond.code ({ cls := "java/lang/StringLatin1", name := "canEncode", desc := "(C)Z" } : Jvm.MethodName) jdk_43_method_3_code (1 : Nat) (Option.some Jvm.ClassFile.FieldType.boolean)).before args0 about1 = true := code_word (m := ⟨17, 1⟩) (meth := k17m1) (c := k17c1) (by decide +kernel) rfl rfl rfl (by decide +kernel)
set_option maxRecDepth 65536 in
theorem w_c8 : (Jvm.Cond.code ({ cls := "java/lang/StringLatin1", name := "toBytes", desc := "(C)[B" } : Jvm.MethodName) jdk_43_method_46_code (1 : Nat) (Option.some (Jvm.ClassFile.FieldType.array Jvm.ClassFile.FieldType.byte))).before args0 about1 = true := code_word (m := ⟨17, 2⟩) (meth := k17m2) (c := k17c2) (by decide +kernel) rfl rfl rfl (by decide +kernel)
set_option maxRecDepth 65536 in
theorem w_c9 : (Jvm.Cond.code ({ cls := "java/lang/String", name := "<init>", desc := "([BB)V" } : Jvm.MethodName) jdk_42_method_151_code (3 : Nat) (Option.none : Option Jvm.ClassFile.FieldType)).before args0 about1 = true := code_word (m := ⟨16, 2⟩) (meth := k16m2) (c := k16c2) (by decide +kernel) rfl rfl rfl (by decide +kernel)
set_option maxRecDepth 65536 in
theorem w_c10 : (Jvm.Cond.code ({ cls := "com/example/arkivsmed/arkivsmed/xml/TextCount", name := "start", desc := "(Ljava/lang/String;I)V" } : Jvm.MethodName) prog_109_method_2_code (3 : Nat) (Option.none : Option Jvm.ClassFile.FieldType)).before args0 about1 = true := code_word (m := ⟨2, 1⟩) (meth := k2m1) (c := k2c1) (by decide +kernel) rfl rfl rfl (by decide +kernel)
set_option maxRecDepth 65536 in
theorem w_c11 : (Jvm.Cond.code ({ cls := "java/util/ArrayDeque", name := "push", desc := "(Ljava/lang/Object;)V" } : Jvm.MethodName) jdk_21_method_34_code (2 : Nat) (Option.none : Option Jvm.ClassFile.FieldType)).before args0 about1 = true := code_word (m := ⟨11, 7⟩) (meth := k11m7) (c := k11c7) (by decide +kernel) rfl rfl rfl (by decide +kernel)
set_option maxRecDepth 65536 in
theorem w_c12 : (Jvm.Cond.code ({ cls := "java/util/ArrayDeque", name := "addFirst", desc := "(Ljava/lang/Object;)V" } : Jvm.MethodName) jdk_21_method_12_code (3 : Nat) (Option.none : Option Jvm.ClassFile.FieldType)).before args0 about1 = true := code_word (m := ⟨11, 4⟩) (meth := k11m4) (c := k11c4) (by decide +kernel) rfl rfl rfl (by decide +kernel)
set_option maxRecDepth 65536 in
theorem w_c13 : (Jvm.Cond.code ({ cls := "java/util/ArrayDeque", name := "dec", desc := "(II)I" } : Jvm.MethodName) jdk_21_method_7_code (2 : Nat) (Option.some Jvm.ClassFile.FieldType.int)).before args0 about1 = true := code_word (m := ⟨11, 2⟩) (meth := k11m2) (c := k11c2) (by decide +kernel) rfl rfl rfl (by decide +kernel)
set_option maxRecDepth 65536 in
theorem w_c14 : (Jvm.Cond.code ({ cls := "com/example/arkivsmed/arkivsmed/xml/TextCount", name := "restart", desc := "(I)V" } : Jvm.MethodName) prog_109_method_7_code (2 : Nat) (Option.none : Option Jvm.ClassFile.FieldType)).before args0 about1 = true := code_word (m := ⟨2, 5⟩) (meth := k2m5) (c := k2c5) (by decide +kernel) rfl rfl rfl (by decide +kernel)
set_option maxRecDepth 65536 in
theorem w_c15 : (Jvm.Cond.code ({ cls := "com/example/arkivsmed/arkivsmed/xml/TextCount", name := "line", desc := "()I" } : Jvm.MethodName) prog_109_method_5_code (1 : Nat) (Option.some Jvm.ClassFile.FieldType.int)).before args0 about1 = true := code_word (m := ⟨2, 4⟩) (meth := k2m4) (c := k2c4) (by decide +kernel) rfl rfl rfl (by decide +kernel)
set_option maxRecDepth 65536 in
theorem w_c16 : (Jvm.Cond.code ({ cls := "com/example/arkivsmed/arkivsmed/xml/TextCount", name := "end", desc := "(I)V" } : Jvm.MethodName) prog_109_method_3_code (2 : Nat) (Option.none : Option Jvm.ClassFile.FieldType)).before args0 about1 = true := code_word (m := ⟨2, 2⟩) (meth := k2m2) (c := k2c2) (by decide +kernel) rfl rfl rfl (by decide +kernel)
set_option maxRecDepth 65536 in
theorem w_c17 : (Jvm.Cond.code ({ cls := "java/util/ArrayDeque", name := "pop", desc := "()Ljava/lang/Object;" } : Jvm.MethodName) jdk_21_method_35_code (1 : Nat) (Option.some (Jvm.ClassFile.FieldType.object "java/lang/Object"))).before args0 about1 = true := code_word (m := ⟨11, 8⟩) (meth := k11m8) (c := k11c8) (by decide +kernel) rfl rfl rfl (by decide +kernel)
set_option maxRecDepth 65536 in
theorem w_c18 : (Jvm.Cond.code ({ cls := "java/util/ArrayDeque", name := "removeFirst", desc := "()Ljava/lang/Object;" } : Jvm.MethodName) jdk_21_method_18_code (2 : Nat) (Option.some (Jvm.ClassFile.FieldType.object "java/lang/Object"))).before args0 about1 = true := code_word (m := ⟨11, 5⟩) (meth := k11m5) (c := k11c5) (by decide +kernel) rfl rfl rfl (by decide +kernel)
set_option maxRecDepth 65536 in
theorem w_c19 : (Jvm.Cond.code ({ cls := "java/util/ArrayDeque", name := "pollFirst", desc := "()Ljava/lang/Object;" } : Jvm.MethodName) jdk_21_method_20_code (4 : Nat) (Option.some (Jvm.ClassFile.FieldType.object "java/lang/Object"))).before args0 about1 = true := code_word (m := ⟨11, 6⟩) (meth := k11m6) (c := k11c6) (by decide +kernel) rfl rfl rfl (by decide +kernel)
set_option maxRecDepth 65536 in
theorem w_c20 : (Jvm.Cond.code ({ cls := "java/util/ArrayDeque", name := "elementAt", desc := "([Ljava/lang/Object;I)Ljava/lang/Object;" } : Jvm.MethodName) jdk_21_method_10_code (2 : Nat) (Option.some (Jvm.ClassFile.FieldType.object "java/lang/Object"))).before args0 about1 = true := code_word (m := ⟨11, 3⟩) (meth := k11m3) (c := k11c3) (by decide +kernel) rfl rfl rfl (by decide +kernel)
set_option maxRecDepth 65536 in
theorem w_c21 : (Jvm.Cond.code ({ cls := "java/util/ArrayDeque", name := "inc", desc := "(II)I" } : Jvm.MethodName) jdk_21_method_6_code (2 : Nat) (Option.some Jvm.ClassFile.FieldType.int)).before args0 about1 = true := code_word (m := ⟨11, 1⟩) (meth := k11m1) (c := k11c1) (by decide +kernel) rfl rfl rfl (by decide +kernel)
def codes1 : List Jvm.Cond := [Jvm.Cond.code x code maxLocals ret, Jvm.Cond.code ({ cls := "com/example/arkivsmed/arkivsmed/xml/TextCount", name := "<init>", desc := "()V" } : Jvm.MethodName) prog_109_method_1_code (1 : Nat) (Option.none : Option Jvm.ClassFile.FieldType), Jvm.Cond.code ({ cls := "java/lang/Object", name := "<init>", desc := "()V" } : Jvm.MethodName) object_method_1_code (1 : Nat) (Option.none : Option Jvm.ClassFile.FieldType), Jvm.Cond.code ({ cls := "java/util/ArrayDeque", name := "<init>", desc := "()V" } : Jvm.MethodName) jdk_21_method_3_code (1 : Nat) (Option.none : Option Jvm.ClassFile.FieldType), Jvm.Cond.code ({ cls := "java/util/AbstractCollection", name := "<init>", desc := "()V" } : Jvm.MethodName) jdk_22_method_1_code (1 : Nat) (Option.none : Option Jvm.ClassFile.FieldType), Jvm.Cond.code ({ cls := "com/example/arkivsmed/arkivsmed/xml/TextCount", name := "add", desc := "(I)Z" } : Jvm.MethodName) prog_109_method_4_code (2 : Nat) (Option.some Jvm.ClassFile.FieldType.boolean), Jvm.Cond.code ({ cls := "java/lang/String", name := "valueOf", desc := "(C)Ljava/lang/String;" } : Jvm.MethodName) jdk_42_method_139_code (1 : Nat) (Option.some (Jvm.ClassFile.FieldType.object "java/lang/String")), Jvm.Cond.code ({ cls := "java/lang/StringLatin1", name := "canEncode", desc := "(C)Z" } : Jvm.MethodName) jdk_43_method_3_code (1 : Nat) (Option.some Jvm.ClassFile.FieldType.boolean), Jvm.Cond.code ({ cls := "java/lang/StringLatin1", name := "toBytes", desc := "(C)[B" } : Jvm.MethodName) jdk_43_method_46_code (1 : Nat) (Option.some (Jvm.ClassFile.FieldType.array Jvm.ClassFile.FieldType.byte)), Jvm.Cond.code ({ cls := "java/lang/String", name := "<init>", desc := "([BB)V" } : Jvm.MethodName) jdk_42_method_151_code (3 : Nat) (Option.none : Option Jvm.ClassFile.FieldType), Jvm.Cond.code ({ cls := "com/example/arkivsmed/arkivsmed/xml/TextCount", name := "start", desc := "(Ljava/lang/String;I)V" } : Jvm.MethodName) prog_109_method_2_code (3 : Nat) (Option.none : Option Jvm.ClassFile.FieldType), Jvm.Cond.code ({ cls := "java/util/ArrayDeque", name := "push", desc := "(Ljava/lang/Object;)V" } : Jvm.MethodName) jdk_21_method_34_code (2 : Nat) (Option.none : Option Jvm.ClassFile.FieldType), Jvm.Cond.code ({ cls := "java/util/ArrayDeque", name := "addFirst", desc := "(Ljava/lang/Object;)V" } : Jvm.MethodName) jdk_21_method_12_code (3 : Nat) (Option.none : Option Jvm.ClassFile.FieldType), Jvm.Cond.code ({ cls := "java/util/ArrayDeque", name := "dec", desc := "(II)I" } : Jvm.MethodName) jdk_21_method_7_code (2 : Nat) (Option.some Jvm.ClassFile.FieldType.int), Jvm.Cond.code ({ cls := "com/example/arkivsmed/arkivsmed/xml/TextCount", name := "restart", desc := "(I)V" } : Jvm.MethodName) prog_109_method_7_code (2 : Nat) (Option.none : Option Jvm.ClassFile.FieldType), Jvm.Cond.code ({ cls := "com/example/arkivsmed/arkivsmed/xml/TextCount", name := "line", desc := "()I" } : Jvm.MethodName) prog_109_method_5_code (1 : Nat) (Option.some Jvm.ClassFile.FieldType.int), Jvm.Cond.code ({ cls := "com/example/arkivsmed/arkivsmed/xml/TextCount", name := "end", desc := "(I)V" } : Jvm.MethodName) prog_109_method_3_code (2 : Nat) (Option.none : Option Jvm.ClassFile.FieldType), Jvm.Cond.code ({ cls := "java/util/ArrayDeque", name := "pop", desc := "()Ljava/lang/Object;" } : Jvm.MethodName) jdk_21_method_35_code (1 : Nat) (Option.some (Jvm.ClassFile.FieldType.object "java/lang/Object")), Jvm.Cond.code ({ cls := "java/util/ArrayDeque", name := "removeFirst", desc := "()Ljava/lang/Object;" } : Jvm.MethodName) jdk_21_method_18_code (2 : Nat) (Option.some (Jvm.ClassFile.FieldType.object "java/lang/Object")), Jvm.Cond.code ({ cls := "java/util/ArrayDeque", name := "pollFirst", desc := "()Ljava/lang/Object;" } : Jvm.MethodName) jdk_21_method_20_code (4 : Nat) (Option.some (Jvm.ClassFile.FieldType.object "java/lang/Object")), Jvm.Cond.code ({ cls := "java/util/ArrayDeque", name := "elementAt", desc := "([Ljava/lang/Object;I)Ljava/lang/Object;" } : Jvm.MethodName) jdk_21_method_10_code (2 : Nat) (Option.some (Jvm.ClassFile.FieldType.object "java/lang/Object")), Jvm.Cond.code ({ cls := "java/util/ArrayDeque", name := "inc", desc := "(II)I" } : Jvm.MethodName) jdk_21_method_6_code (2 : Nat) (Option.some Jvm.ClassFile.FieldType.int)]
set_option maxRecDepth 65536 in
theorem codes_eq : words1.filter isCode = codes1 := rfl
theorem w_codes : ∀ c ∈ words1.filter isCode, c.before args0 about1 = true := by
  rw [codes_eq]
  intro c hc
  simp only [codes1, List.mem_cons, List.not_mem_nil, or_false] at hc
  rcases hc with rfl | rfl | rfl | rfl | rfl | rfl | rfl | rfl | rfl | rfl | rfl | rfl | rfl | rfl | rfl | rfl | rfl | rfl | rfl | rfl | rfl | rfl
  · exact w_c0
  · exact w_c1
  · exact w_c2
  · exact w_c3
  · exact w_c4
  · exact w_c5
  · exact w_c6
  · exact w_c7
  · exact w_c8
  · exact w_c9
  · exact w_c10
  · exact w_c11
  · exact w_c12
  · exact w_c13
  · exact w_c14
  · exact w_c15
  · exact w_c16
  · exact w_c17
  · exact w_c18
  · exact w_c19
  · exact w_c20
  · exact w_c21
set_option maxRecDepth 65536 in
theorem w_t1 : (words1.take 24).all (fun c => isCode c || c.before args0 about1) = true := by decide +kernel
set_option maxRecDepth 65536 in
theorem w_t2 : ((words1.drop 24).take 24).all (fun c => isCode c || c.before args0 about1) = true := by decide +kernel
set_option maxRecDepth 65536 in
theorem w_t3 : (((words1.drop 24).drop 24).take 24).all (fun c => isCode c || c.before args0 about1) = true := by decide +kernel
set_option maxRecDepth 65536 in
theorem w_t4 : ((((words1.drop 24).drop 24).drop 24).take 24).all (fun c => isCode c || c.before args0 about1) = true := by decide +kernel
set_option maxRecDepth 65536 in
theorem w_t5 : (((((words1.drop 24).drop 24).drop 24).drop 24).take 24).all (fun c => isCode c || c.before args0 about1) = true := by decide +kernel
set_option maxRecDepth 65536 in
theorem w_t6 : (((((words1.drop 24).drop 24).drop 24).drop 24).drop 24).all (fun c => isCode c || c.before args0 about1) = true := by decide +kernel
theorem w_tables : (allAtoms (Jvm.Cond.code x code maxLocals ret :: tables_1)).before args0 about1 = true := by
  rw [allAtoms_all]
  show words1.all (fun c => c.before args0 about1) = true
  refine all_split ?_ w_codes
  rw [← List.take_append_drop 24 words1, List.all_append, w_t1, ← List.take_append_drop 24 (words1.drop 24), List.all_append, w_t2, ← List.take_append_drop 24 ((words1.drop 24).drop 24), List.all_append, w_t3, ← List.take_append_drop 24 (((words1.drop 24).drop 24).drop 24), List.all_append, w_t4, ← List.take_append_drop 24 ((((words1.drop 24).drop 24).drop 24).drop 24), List.all_append, w_t5, w_t6]
  rfl
set_option maxRecDepth 65536 in
theorem w_rest : rest_1_c.before args0 about1 = true := by decide +kernel
set_option maxRecDepth 65536 in
theorem w_case : (Jvm.Cond.and given_1 narrow_1).before args0 about1 = true := by decide +kernel
theorem w_applies : (headSpec (Jvm.Cond.code x code maxLocals ret :: tables_1) room_1).applies x e0.platform about1 = true :=
  (Spec.applies_iff w_frames).mpr ⟨w_running, w_runnable, w_alone, w_named, w_hears, w_ripe, w_room, w_tables⟩
theorem atStart : AtStart classFile x code maxLocals ret World_1 tables_1 room_1 Calls_1 rest_1 Pre_1 launch0 p0 e0 about1 theMethod args0 below0 :=
  ⟨lists_1, trivial, launch0.admits_env _ _ _, launch0.least_env, fairChoices_fair.cas, fairChoices_fair.clock, w_frames, w_args, w_heap, w_applies, trivial, w_rest, w_case⟩
end start1
theorem witness_1 : WitnessClaimed_1 := ⟨start1.p0, start1.e0, start1.about1, start1.theMethod, start1.args0, start1.below0, start1.atStart⟩
end Jvm.Pilot.@@N@@
