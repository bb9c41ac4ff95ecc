import JvmDerived
import JvmDerived.Pilot.@@N@@Statement
import JvmDerived.Pilot.@@N@@Code
set_option linter.unusedVariables false
set_option linter.unusedSimpArgs false
namespace Jvm.RoadKit
open Sem ClassFile Op Lib Jvm.Stand Jvm.Free Jvm.LawKit
section New
variable {p : Program} {l : Launch} {e : Env} {R : Room} {s : State} {m : MethodId} {args : Array Value} {below : List Frame} {meth : Method} {c : Code} {T : State} {locs : List Loc} {cells slots : Nat}
theorem retI (X : Stand p l e R s m args below meth c T locs cells slots) (hx : p.tables.exec = Jvm.exec) {pc : Nat} {Ls : Array Slot} {z : Int32} {rest : List Value} (hret : meth.sig.returnType = some .int) (hd : decode c.code pc = .ok (.ireturn, 1)) {fs : List Frame}
    (hl : ∀ (f : JFrame) (acts : List Action), f.method = m → f.locked = none → f.entered = [] → (doReturn e (T.setTop f) acts (some (.int z))).1 = T.setFrames fs) : Steps p.tables e below (T.setTop (mkF m pc Ls (.int z :: rest))) (T.setFrames fs) := by
  have hm' : T.vm.method? m = some meth := X.method'
  have hn : narrow .int (.int z) = .int z := rfl
  show Steps p.tables e below (T.setTop { method := m, pc := pc, locals := Ls, stack := _ :: rest, locked := none }) _
  jvm_step X.here [X.here.top, hx, hd, hm', hret, hn]
  first | (intro acts; rw [hl _ acts rfl rfl rfl]) | rw [hl _ _ rfl rfl rfl]
  exact Steps.refl _
end New
end Jvm.RoadKit
namespace Jvm.RoadKit
open Sem ClassFile Op Lib Jvm.Stand Jvm.Free Jvm.LawKit
section OwnArr
variable {p : Program} {l : Launch} {e : Env} {R : Room} {s : State} {m : MethodId} {args : Array Value} {below : List Frame} {meth : Method} {c : Code} {T : State} {locs : List Loc} {cells slots : Nat} {Z : State} {h h' : Heap} {a b : Addr} {ty : FieldType} {n : Nat} {f : Nat → Value}
/-- an array of n places, place j holds f j -/
def own_arr (Z : State) (h : Heap) (a : Addr) (ty : FieldType) (n : Nat) (f : Nat → Value) : Prop := ∃ c : Cell, Arr Z h a c ty ∧ c.slots.size = n ∧ ∀ j, j < n → c.slots[j]? = some (f j)
theorem own_arr.lt (F : own_arr Z h a ty n f) : a < h.size := by obtain ⟨c, A, -⟩ := F; exact A.lt
theorem own_arr.ext (F : own_arr Z h a ty n f) (E : Ext h h') : own_arr Z h' a ty n f := by obtain ⟨c, A, r⟩ := F; exact ⟨c, A.ext E, r⟩
theorem own_arr.other {sl : Nat} {v : Value} (F : own_arr Z h b ty n f) (W : Wr h h' a sl v) (q : b ≠ a) : own_arr Z h' b ty n f := by obtain ⟨c, A, r⟩ := F; exact ⟨c, A.other W q, r⟩
theorem own_arr.keep {ws : List Addr} (F : own_arr Z h a ty n f) (K : Keep h h' ws) (q : a ∉ ws) : own_arr Z h' a ty n f := by obtain ⟨c, A, r⟩ := F; exact ⟨c, ⟨K.2.1 a c A.1 q, A.2⟩, r⟩
theorem own_arr.to {n' : Nat} {f' : Nat → Value} (F : own_arr Z h a ty n f) (q : n = n') (r : ∀ j, j < n → f j = f' j) : own_arr Z h a ty n' f' := by obtain ⟨c, A, s, t⟩ := F; subst q; exact ⟨c, A, s, fun j hj => (t j hj).trans (congrArg some (r j hj))⟩
theorem own_arr.new {k : ClassId} {z : Int32} (A : Arr Z h a (newA k ty z) ty) : own_arr Z h a ty z.toNatClampNeg (fun _ => defaultValue ty) := ⟨_, A, sz_new _ _ _, fun j hj => by simp [newA, hj]⟩
theorem own_arr.newI {k : ClassId} {z : Int32} {i : Nat} (A : Arr Z h a (newA k .int z) .int) (q : z.toNatClampNeg = i) : own_arr Z h a .int i (fun _ => .int 0) := q ▸ own_arr.new A
theorem own_arr.newB {k : ClassId} {z : Int32} {i : Nat} (A : Arr Z h a (newA k .byte z) .byte) (q : z.toNatClampNeg = i) : own_arr Z h a .byte i (fun _ => .int 0) := q ▸ own_arr.new A
theorem own_arr.newJ {k : ClassId} {z : Int32} {i : Nat} (A : Arr Z h a (newA k .long z) .long) (q : z.toNatClampNeg = i) : own_arr Z h a .long i (fun _ => .long 0) := q ▸ own_arr.new A
theorem own_arr.set {j : Nat} {v : Value} (F : own_arr Z h a ty n f) (W : Wr h h' a j v) : own_arr Z h' a ty n (fun i => if i = j then v else f i) := by
  obtain ⟨c, A, s, t⟩ := F
  refine ⟨_, A.same W, by rw [sz_set]; exact s, fun i hi => ?_⟩
  by_cases q : i = j
  · subst q; simp [Cell.setSlot, s, hi]
  · simp only [q, if_false]; rw [← t i hi]; exact Array.getElem?_setIfInBounds_ne fun z => q z.symm
theorem own_in {j : Int32} {k : Nat} {cl : Cell} (h0 : ¬ j < 0) (hj : j.toNatClampNeg = k) (hk : k < n) (q : cl.slots.size = n) : ¬ (j < 0 ∨ cl.slots.size ≤ j.toNatClampNeg) := by
  rintro (r | r)
  · exact h0 r
  · omega
theorem own_ldI {g : Nat → Int32} (X : Stand p l e R s m args below meth c T locs cells slots) (hx : p.tables.exec = Jvm.exec) (hZ : Z.Warmed39 s.vm) (eT : T.heap = h) (A : own_arr Z h a .int n (fun i => .int (g i))) {j : Int32} {k : Nat} (h0 : ¬ j < 0) (hj : j.toNatClampNeg = k) (hk : k < n)
    {fr : JFrame} (hg : fr.method = m) {rest : List Value} (hs : fr.stack = .int j :: .ref a :: rest) (hd : decode c.code fr.pc = .ok (.iaload, 1)) (target : State)
    (hr : Steps p.tables e below (T.setTop { fr with pc := fr.pc + 1, stack := .int (g k) :: rest }) target) : Steps p.tables e below (T.setTop fr) target := by
  obtain ⟨cl, A, s, t⟩ := A
  exact X.iaload hx (by rw [eT]; exact A.1) (State.isArrayOf_alike hZ.alike A.2.1) A.2.2 (own_in h0 hj hk s) (by rw [hj]; exact t k hk) hg hs hd _ hr
theorem own_ldB {g : Nat → Int32} (X : Stand p l e R s m args below meth c T locs cells slots) (hx : p.tables.exec = Jvm.exec) (hZ : Z.Warmed39 s.vm) (eT : T.heap = h) (A : own_arr Z h a .byte n (fun i => .int (g i))) {j : Int32} {k : Nat} (h0 : ¬ j < 0) (hj : j.toNatClampNeg = k) (hk : k < n)
    {fr : JFrame} (hg : fr.method = m) {rest : List Value} (hs : fr.stack = .int j :: .ref a :: rest) (hd : decode c.code fr.pc = .ok (.baload, 1)) (target : State)
    (hr : Steps p.tables e below (T.setTop { fr with pc := fr.pc + 1, stack := .int (g k) :: rest }) target) : Steps p.tables e below (T.setTop fr) target := by
  obtain ⟨cl, A, s, t⟩ := A
  exact X.baloadBytes hx (by rw [eT]; exact A.1) (State.isArrayOf_alike hZ.alike A.2.1) A.2.2 (own_in h0 hj hk s) (by rw [hj]; exact t k hk) hg hs hd _ hr
theorem own_ldJ {g : Nat → Int64} (X : Stand p l e R s m args below meth c T locs cells slots) (hx : p.tables.exec = Jvm.exec) (hZ : Z.Warmed39 s.vm) (eT : T.heap = h) (A : own_arr Z h a .long n (fun i => .long (g i))) {j : Int32} {k : Nat} (h0 : ¬ j < 0) (hj : j.toNatClampNeg = k) (hk : k < n)
    {fr : JFrame} (hg : fr.method = m) {rest : List Value} (hs : fr.stack = .int j :: .ref a :: rest) (hd : decode c.code fr.pc = .ok (.laload, 1)) (target : State)
    (hr : Steps p.tables e below (T.setTop { fr with pc := fr.pc + 1, stack := .long (g k) :: rest }) target) : Steps p.tables e below (T.setTop fr) target := by
  obtain ⟨cl, A, s, t⟩ := A
  exact X.laload hx (by rw [eT]; exact A.1) (State.isArrayOf_alike hZ.alike A.2.1) A.2.2 (own_in h0 hj hk s) (by rw [hj]; exact t k hk) hg hs hd _ hr
theorem own_len (X : Stand p l e R s m args below meth c T locs cells slots) (hx : p.tables.exec = Jvm.exec) (hZ : Z.Warmed39 s.vm) (eT : T.heap = h) (A : own_arr Z h a ty n f) {z : Int32} (q : n.toInt32 = z)
    {fr : JFrame} (hg : fr.method = m) {rest : List Value} (hs : fr.stack = .ref a :: rest) (hd : decode c.code fr.pc = .ok (.arraylength, 1)) (target : State)
    (hr : Steps p.tables e below (T.setTop { fr with pc := fr.pc + 1, stack := .int z :: rest }) target) : Steps p.tables e below (T.setTop fr) target := by
  obtain ⟨cl, A, s, t⟩ := A
  refine X.arraylength hx (by rw [eT]; exact A.1) (State.isArrayOf_alike hZ.alike A.2.1) hg hs hd _ ?_
  rw [s, q]; exact hr
theorem own_stI {g : Nat → Int32} (X : Stand p l e R s m args below meth c T locs cells slots) (hx : p.tables.exec = Jvm.exec) (hZ : Z.Warmed39 s.vm) (eT : T.heap = h) (A : own_arr Z h a .int n (fun i => .int (g i))) {j x : Int32} {k : Nat} (h0 : ¬ j < 0) (hj : j.toNatClampNeg = k) (hk : k < n)
    {fr : JFrame} (hg : fr.method = m) {rest : List Value} (hs : fr.stack = .int x :: .int j :: .ref a :: rest) (hd : decode c.code fr.pc = .ok (.iastore, 1)) :
    ∃ T' h', Stand p l e R s m args below meth c T' (locs ++ [⟨a, k⟩]) cells slots ∧ T'.heap = h' ∧ Wr h h' a k (.int x) ∧ own_arr Z h' a .int n (fun i => .int (if i = k then x else g i)) ∧ ∀ target, Steps p.tables e below (T'.setTop { fr with pc := fr.pc + 1, stack := rest }) target → Steps p.tables e below (T.setTop fr) target := by
  have A' := A
  obtain ⟨cl, A, s, t⟩ := A
  obtain ⟨T', h', X', e', W, st⟩ := stI X hx hZ eT A (own_in h0 hj hk s) hg hs hd
  rw [hj] at X' W
  exact ⟨T', h', X', e', W, (A'.set W).to rfl fun j _ => by by_cases q : j = k <;> simp [q], st⟩
theorem own_stJ {g : Nat → Int64} (X : Stand p l e R s m args below meth c T locs cells slots) (hx : p.tables.exec = Jvm.exec) (hZ : Z.Warmed39 s.vm) (eT : T.heap = h) (A : own_arr Z h a .long n (fun i => .long (g i))) {j : Int32} {x : Int64} {k : Nat} (h0 : ¬ j < 0) (hj : j.toNatClampNeg = k) (hk : k < n)
    {fr : JFrame} (hg : fr.method = m) {rest : List Value} (hs : fr.stack = .long x :: .int j :: .ref a :: rest) (hd : decode c.code fr.pc = .ok (.lastore, 1)) :
    ∃ T' h', Stand p l e R s m args below meth c T' (locs ++ [⟨a, k⟩]) cells slots ∧ T'.heap = h' ∧ Wr h h' a k (.long x) ∧ own_arr Z h' a .long n (fun i => .long (if i = k then x else g i)) ∧ ∀ target, Steps p.tables e below (T'.setTop { fr with pc := fr.pc + 1, stack := rest }) target → Steps p.tables e below (T.setTop fr) target := by
  have A' := A
  obtain ⟨cl, A, s, t⟩ := A
  obtain ⟨T', h', X', e', W, st⟩ := stJ X hx hZ eT A (own_in h0 hj hk s) hg hs hd
  rw [hj] at X' W
  exact ⟨T', h', X', e', W, (A'.set W).to rfl fun j _ => by by_cases q : j = k <;> simp [q], st⟩
theorem own_stB {g : Nat → Int32} (X : Stand p l e R s m args below meth c T locs cells slots) (hx : p.tables.exec = Jvm.exec) (hZ : Z.Warmed39 s.vm) (eT : T.heap = h) (A : own_arr Z h a .byte n (fun i => .int (g i))) {j x : Int32} {k : Nat} (h0 : ¬ j < 0) (hj : j.toNatClampNeg = k) (hk : k < n)
    {fr : JFrame} (hg : fr.method = m) {rest : List Value} (hs : fr.stack = .int x :: .int j :: .ref a :: rest) (hd : decode c.code fr.pc = .ok (.bastore, 1)) :
    ∃ T' h', Stand p l e R s m args below meth c T' (locs ++ [⟨a, k⟩]) cells slots ∧ T'.heap = h' ∧ Wr h h' a k (.int (x.toInt8.toInt32)) ∧ own_arr Z h' a .byte n (fun i => .int (if i = k then x.toInt8.toInt32 else g i)) ∧ ∀ target, Steps p.tables e below (T'.setTop { fr with pc := fr.pc + 1, stack := rest }) target → Steps p.tables e below (T.setTop fr) target := by
  have A' := A
  obtain ⟨cl, A, s, t⟩ := A
  obtain ⟨T', h', X', e', W, st⟩ := stB X hx hZ eT A (own_in h0 hj hk s) hg hs hd
  rw [hj] at X' W
  exact ⟨T', h', X', e', W, (A'.set W).to rfl fun j _ => by by_cases q : j = k <;> simp [q, nar], st⟩
end OwnArr
end Jvm.RoadKit
namespace Jvm.Pilot.@@N@@
open Jvm Jvm.ClassFile Sem Op Lib Jvm.Free Jvm.Stand Jvm.LawKit Jvm.RoadKit Bundle Jvm.Pilot.@@N@@.Jvm.D
def own_al (Z : State) (h : Heap) (n0 : Nat) (t be ba bn bf : Addr) (dr ow lw sz : Int32) (ne : Nat) (ge ga gn gf : Nat → Int32) : Prop :=
  Exa Z h t "com/example/impronta/impronta/engine/Alignments" ∧ Fld Z h t "com/example/impronta/impronta/engine/Alignments" "direct" "I" (.int dr) ∧ Fld Z h t "com/example/impronta/impronta/engine/Alignments" "ownSlots" "Z" (.int ow) ∧ Fld Z h t "com/example/impronta/impronta/engine/Alignments" "lowest" "I" (.int lw) ∧ Fld Z h t "com/example/impronta/impronta/engine/Alignments" "size" "I" (.int sz) ∧ Fld Z h t "com/example/impronta/impronta/engine/Alignments" "shift" "I" (.int (28 : Int32)) ∧ Fld Z h t "com/example/impronta/impronta/engine/Alignments" "endsByAlignment" "[I" (.ref be) ∧ Fld Z h t "com/example/impronta/impronta/engine/Alignments" "alignments" "[I" (.ref ba) ∧ Fld Z h t "com/example/impronta/impronta/engine/Alignments" "ends" "[I" (.ref bn) ∧ Fld Z h t "com/example/impronta/impronta/engine/Alignments" "filled" "[I" (.ref bf) ∧ own_arr Z h be .int ne (fun i => .int (ge i)) ∧ own_arr Z h ba .int 16 (fun i => .int (ga i)) ∧ own_arr Z h bn .int 16 (fun i => .int (gn i)) ∧ own_arr Z h bf .int 8 (fun i => .int (gf i)) ∧ (t ≠ be ∧ t ≠ ba ∧ t ≠ bn ∧ t ≠ bf ∧ be ≠ ba ∧ be ≠ bn ∧ be ≠ bf ∧ ba ≠ bn ∧ ba ≠ bf ∧ bn ≠ bf) ∧ (n0 ≤ t ∧ n0 ≤ be ∧ n0 ≤ ba ∧ n0 ≤ bn ∧ n0 ≤ bf)
theorem own_home (a : Int32) : ¬ (((a * (-1640531527 : Int32)).toUInt32 >>> ((28 : Int32) &&& 31).toUInt32).toInt32) < 0 ∧ (((a * (-1640531527 : Int32)).toUInt32 >>> ((28 : Int32) &&& 31).toUInt32).toInt32).toNatClampNeg < 16 := by
  have e := c_iushr (a * (-1640531527 : Int32)) 28 28 (by decide) (by decide)
  have r := rng32 (a * (-1640531527 : Int32))
  rw [Int32.lt_iff_toInt_lt, Int32.toNatClampNeg, e]
  have o : (0 : Int32).toInt = 0 := rfl
  omega
theorem own_nxt (s : Int32) : ¬ ((s + (1 : Int32)) &&& (15 : Int32)) < 0 ∧ ((s + (1 : Int32)) &&& (15 : Int32)).toNatClampNeg < 16 := by
  have e := c_mask (s + (1 : Int32)) 15 4 (by decide) (by decide)
  rw [Int32.lt_iff_toInt_lt, Int32.toNatClampNeg, e]
  have o : (0 : Int32).toInt = 0 := rfl
  omega
theorem d4_0 : decode jdk_65_method_103_code 0 = .ok (.iconst 0, 1) := by decide +kernel
theorem d4_1 : decode jdk_65_method_103_code 1 = .ok (.istore_n 2, 1) := by decide +kernel
theorem d4_2 : decode jdk_65_method_103_code 2 = .ok (.aload_n 0, 1) := by decide +kernel
theorem d4_3 : decode jdk_65_method_103_code 3 = .ok (.arraylength, 1) := by decide +kernel
theorem d4_4 : decode jdk_65_method_103_code 4 = .ok (.istore_n 3, 1) := by decide +kernel
theorem d4_5 : decode jdk_65_method_103_code 5 = .ok (.iload_n 2, 1) := by decide +kernel
theorem d4_6 : decode jdk_65_method_103_code 6 = .ok (.iload_n 3, 1) := by decide +kernel
theorem d4_7 : decode jdk_65_method_103_code 7 = .ok (.if_icmp .ge 13, 3) := by decide +kernel
theorem d4_10 : decode jdk_65_method_103_code 10 = .ok (.aload_n 0, 1) := by decide +kernel
theorem d4_11 : decode jdk_65_method_103_code 11 = .ok (.iload_n 2, 1) := by decide +kernel
theorem d4_12 : decode jdk_65_method_103_code 12 = .ok (.iload_n 1, 1) := by decide +kernel
theorem d4_13 : decode jdk_65_method_103_code 13 = .ok (.iastore, 1) := by decide +kernel
theorem d4_14 : decode jdk_65_method_103_code 14 = .ok (.iinc 2 1, 3) := by decide +kernel
theorem d4_17 : decode jdk_65_method_103_code 17 = .ok (.goto (-12), 3) := by decide +kernel
theorem d4_20 : decode jdk_65_method_103_code 20 = .ok (.return_, 1) := by decide +kernel
theorem pn_4 : plainName "java/util/Arrays" = true := by first | (simp [plainName, overriddenIn]; done) | decide +kernel
theorem ef_4 (m : MethodId) (x0 : Addr) (x1 : Int32) : entryFrame m #[(.ref x0), (.int x1)] 4 = mkF m 0 #[.val (.ref x0), .val (.int x1), .unset, .unset] [] := by first | (simp [entryFrame, mkF, argsToLocals, Value.category]; done) | rfl
def Q4 (Z : State) (p0 : Addr) (p1 : Int32) (g : Nat → Int32) (h0 : Heap) (n0 : Nat) (v : Option Value) (h : Heap) (L : List Loc) : Prop := v = none ∧ Fr n0 L ∧ Keep h0 h [p0] ∧ own_arr Z h p0 .int 16 (fun _ => .int p1)
set_option maxRecDepth 65536 in
set_option maxHeartbeats 40000000 in
theorem rm4 (l : Launch) (Z : State) (a0 : Array Value) (hw : ∀ d ∈ tables_1, d.before a0 Z = true) (ws : List Jvm.Cond) (p0 : Addr) (p1 : Int32) (g : Nat → Int32) (h0 : Heap) (n0 : Nat) (Z0 : n0 ≤ h0.size) (Ap : own_arr Z h0 p0 .int 16 (fun i => .int (g i))) (gp : n0 ≤ p0) :
    MetFree l (⟨"java/util/Arrays", "fill", "([II)V"⟩ : MethodName) (head1 (Jvm.Cond.code (⟨"java/util/Arrays", "fill", "([II)V"⟩ : MethodName) jdk_65_method_103_code 4 none :: ws) ({ frames := 0, cells := 0, slots := 0, locals := 0 } : Room)) (fun a U => a = #[(.ref p0), (.int p1)] ∧ Z.Warmed39 U.vm ∧ U.heap = h0) (fun _ _ _ _ _ => True) (fun _ U o U' => ∃ v L, o = .returned v ∧ Q4 Z p0 p1 g h0 n0 v U'.heap L ∧ FrameEnd U o U' L ({ frames := 0, cells := 0, slots := 0, locals := 0 } : Room).cells ({ frames := 0, cells := 0, slots := 0, locals := 0 } : Room).slots) := by
  refine MetFree.of_bodySF (plainFor_of_name pn_4) hisR ?_
  intro p e s m args below meth c s₁ Bd hml0 hP hK
  obtain ⟨rfl, hZ, hh⟩ := hP
  have hx := Bd.exec
  have hby := Bd.bytes
  have hml : c.maxLocals = 4 := hml0
  have hown : s.vm.findClass "java/util/Arrays" = some m.cls := findClass_of_methodNamed Bd.named
  have hnm := (name_of_methodNamed Bd.named Bd.method).1
  have X0 : Stand p l e ({ frames := 0, cells := 0, slots := 0, locals := 0 } : Room) s m #[(.ref p0), (.int p1)] below meth c s₁ [] 0 0 := Stand.of_body Bd
  have e0 : s₁.heap = h0 := by rw [← hh, Bd.state]; rfl
  have N0 := Fr.nil n0
  have pre0 : ∀ t, Steps p.tables e below (s₁.setTop (mkF m 0 #[.val (.ref p0), .val (.int p1), .unset, .unset] [])) t → Steps p.tables e below (s₁.setTop (entryFrame m #[(.ref p0), (.int p1)] 4)) t := fun t k => castTop (ef_4 m p0 p1) k
  have pre1 : ∀ t, Steps p.tables e below (s₁.setTop (mkF m 13 #[.val (.ref p0), .val (.int p1), .val (.int (0 : Int32)), .val (.int (16 : Int32))] [(.int p1), (.int (0 : Int32)), (.ref p0)])) t → Steps p.tables e below (s₁.setTop (entryFrame m #[(.ref p0), (.int p1)] 4)) t := by
    intro t kont
    refine pre0 t ?_
    show Steps p.tables e below (s₁.setTop (mkF m 0 #[.val (.ref p0), .val (.int p1), .unset, .unset] [])) _
    refine XS.iconst X0.here hx rfl (hb hby d4_0) ?_
    show Steps p.tables e below (s₁.setTop (mkF m 1 #[.val (.ref p0), .val (.int p1), .unset, .unset] [(.int (0 : Int32))])) _
    refine XS.istoreN X0.here hx rfl (hb hby d4_1) rfl (l' := #[.val (.ref p0), .val (.int p1), .val (.int (0 : Int32)), .unset]) rfl ?_
    show Steps p.tables e below (s₁.setTop (mkF m 2 #[.val (.ref p0), .val (.int p1), .val (.int (0 : Int32)), .unset] [])) _
    refine XS.aloadN X0.here hx rfl (hb hby d4_2) rfl rfl ?_
    show Steps p.tables e below (s₁.setTop (mkF m 3 #[.val (.ref p0), .val (.int p1), .val (.int (0 : Int32)), .unset] [(.ref p0)])) _
    refine own_len X0 hx hZ e0 Ap (z := (16 : Int32)) (by decide) (fr := (mkF m 3 #[.val (.ref p0), .val (.int p1), .val (.int (0 : Int32)), .unset] [(.ref p0)])) rfl rfl (hb hby d4_3) _ ?_
    show Steps p.tables e below (s₁.setTop (mkF m 4 #[.val (.ref p0), .val (.int p1), .val (.int (0 : Int32)), .unset] [(.int (16 : Int32))])) _
    refine XS.istoreN X0.here hx rfl (hb hby d4_4) rfl (l' := #[.val (.ref p0), .val (.int p1), .val (.int (0 : Int32)), .val (.int (16 : Int32))]) rfl ?_
    show Steps p.tables e below (s₁.setTop (mkF m 5 #[.val (.ref p0), .val (.int p1), .val (.int (0 : Int32)), .val (.int (16 : Int32))] [])) _
    refine XS.iloadN X0.here hx rfl (hb hby d4_5) rfl ?_
    show Steps p.tables e below (s₁.setTop (mkF m 6 #[.val (.ref p0), .val (.int p1), .val (.int (0 : Int32)), .val (.int (16 : Int32))] [(.int (0 : Int32))])) _
    refine XS.iloadN X0.here hx rfl (hb hby d4_6) rfl ?_
    show Steps p.tables e below (s₁.setTop (mkF m 7 #[.val (.ref p0), .val (.int p1), .val (.int (0 : Int32)), .val (.int (16 : Int32))] [(.int (16 : Int32)), (.int (0 : Int32))])) _
    refine XS.icmpNo X0.here hx rfl (hb hby d4_7) rfl (tlt (by decide)).2.1 ?_
    show Steps p.tables e below (s₁.setTop (mkF m 10 #[.val (.ref p0), .val (.int p1), .val (.int (0 : Int32)), .val (.int (16 : Int32))] [])) _
    refine XS.aloadN X0.here hx rfl (hb hby d4_10) rfl rfl ?_
    show Steps p.tables e below (s₁.setTop (mkF m 11 #[.val (.ref p0), .val (.int p1), .val (.int (0 : Int32)), .val (.int (16 : Int32))] [(.ref p0)])) _
    refine XS.iloadN X0.here hx rfl (hb hby d4_11) rfl ?_
    show Steps p.tables e below (s₁.setTop (mkF m 12 #[.val (.ref p0), .val (.int p1), .val (.int (0 : Int32)), .val (.int (16 : Int32))] [(.int (0 : Int32)), (.ref p0)])) _
    refine XS.iloadN X0.here hx rfl (hb hby d4_12) rfl ?_
    exact kont
  obtain ⟨T2, h2, X2, e2, W2, V2, st2⟩ := own_stI X0 hx hZ e0 Ap (k := 0) (by decide) (by decide) (by decide) (fr := (mkF m 13 #[.val (.ref p0), .val (.int p1), .val (.int (0 : Int32)), .val (.int (16 : Int32))] [(.int p1), (.int (0 : Int32)), (.ref p0)])) rfl rfl (hb hby d4_13)
  obtain ⟨u13, hu13⟩ : ∃ z : Nat → Int32, z = fun i => if i = 0 then p1 else g i := ⟨_, rfl⟩
  replace V2 : own_arr Z h2 p0 .int 16 (fun i => .int (u13 i)) := by rw [hu13]; exact V2
  have K2 : Keep h0 h2 [p0] := (Keep.refl h0 [p0]).wr W2 (Or.inl (List.mem_of_getElem? (i := 0) rfl))
  have Z2 : n0 ≤ h2.size := Nat.le_trans Z0 (Keep.of_wr W2).1
  have N2 := Fr.snoc X2 N0 gp
  have pre3 : ∀ t, Steps p.tables e below (T2.setTop (mkF m 14 #[.val (.ref p0), .val (.int p1), .val (.int (0 : Int32)), .val (.int (16 : Int32))] [])) t → Steps p.tables e below (s₁.setTop (entryFrame m #[(.ref p0), (.int p1)] 4)) t := fun t kont => pre1 t (st2 _ kont)
  have pre4 : ∀ t, Steps p.tables e below (T2.setTop (mkF m 13 #[.val (.ref p0), .val (.int p1), .val (.int (1 : Int32)), .val (.int (16 : Int32))] [(.int p1), (.int (1 : Int32)), (.ref p0)])) t → Steps p.tables e below (s₁.setTop (entryFrame m #[(.ref p0), (.int p1)] 4)) t := by
    intro t kont
    refine pre3 t ?_
    show Steps p.tables e below (T2.setTop (mkF m 14 #[.val (.ref p0), .val (.int p1), .val (.int (0 : Int32)), .val (.int (16 : Int32))] [])) _
    refine XS.iinc X2.here hx rfl (hb hby d4_14) rfl (l' := #[.val (.ref p0), .val (.int p1), .val (.int (1 : Int32)), .val (.int (16 : Int32))]) rfl ?_
    show Steps p.tables e below (T2.setTop (mkF m 17 #[.val (.ref p0), .val (.int p1), .val (.int (1 : Int32)), .val (.int (16 : Int32))] [])) _
    refine XS.goto X2.here hx rfl (pc0 := 17) (pc' := 5) rfl (hb hby d4_17) (by decide) (by decide) ?_
    show Steps p.tables e below (T2.setTop (mkF m 5 #[.val (.ref p0), .val (.int p1), .val (.int (1 : Int32)), .val (.int (16 : Int32))] [])) _
    refine XS.iloadN X2.here hx rfl (hb hby d4_5) rfl ?_
    show Steps p.tables e below (T2.setTop (mkF m 6 #[.val (.ref p0), .val (.int p1), .val (.int (1 : Int32)), .val (.int (16 : Int32))] [(.int (1 : Int32))])) _
    refine XS.iloadN X2.here hx rfl (hb hby d4_6) rfl ?_
    show Steps p.tables e below (T2.setTop (mkF m 7 #[.val (.ref p0), .val (.int p1), .val (.int (1 : Int32)), .val (.int (16 : Int32))] [(.int (16 : Int32)), (.int (1 : Int32))])) _
    refine XS.icmpNo X2.here hx rfl (hb hby d4_7) rfl (tlt (by decide)).2.1 ?_
    show Steps p.tables e below (T2.setTop (mkF m 10 #[.val (.ref p0), .val (.int p1), .val (.int (1 : Int32)), .val (.int (16 : Int32))] [])) _
    refine XS.aloadN X2.here hx rfl (hb hby d4_10) rfl rfl ?_
    show Steps p.tables e below (T2.setTop (mkF m 11 #[.val (.ref p0), .val (.int p1), .val (.int (1 : Int32)), .val (.int (16 : Int32))] [(.ref p0)])) _
    refine XS.iloadN X2.here hx rfl (hb hby d4_11) rfl ?_
    show Steps p.tables e below (T2.setTop (mkF m 12 #[.val (.ref p0), .val (.int p1), .val (.int (1 : Int32)), .val (.int (16 : Int32))] [(.int (1 : Int32)), (.ref p0)])) _
    refine XS.iloadN X2.here hx rfl (hb hby d4_12) rfl ?_
    exact kont
  obtain ⟨T5, h5, X5, e5, W5, V5, st5⟩ := own_stI X2 hx hZ e2 V2 (k := 1) (by decide) (by decide) (by decide) (fr := (mkF m 13 #[.val (.ref p0), .val (.int p1), .val (.int (1 : Int32)), .val (.int (16 : Int32))] [(.int p1), (.int (1 : Int32)), (.ref p0)])) rfl rfl (hb hby d4_13)
  obtain ⟨u13', hu13'⟩ : ∃ z : Nat → Int32, z = fun i => if i = 1 then p1 else u13 i := ⟨_, rfl⟩
  replace V5 : own_arr Z h5 p0 .int 16 (fun i => .int (u13' i)) := by rw [hu13']; exact V5
  have K5 : Keep h0 h5 [p0] := (K2).wr W5 (Or.inl (List.mem_of_getElem? (i := 0) rfl))
  have Z5 : n0 ≤ h5.size := Nat.le_trans Z2 (Keep.of_wr W5).1
  have N5 := Fr.snoc X5 N2 gp
  have pre6 : ∀ t, Steps p.tables e below (T5.setTop (mkF m 14 #[.val (.ref p0), .val (.int p1), .val (.int (1 : Int32)), .val (.int (16 : Int32))] [])) t → Steps p.tables e below (s₁.setTop (entryFrame m #[(.ref p0), (.int p1)] 4)) t := fun t kont => pre4 t (st5 _ kont)
  have pre7 : ∀ t, Steps p.tables e below (T5.setTop (mkF m 13 #[.val (.ref p0), .val (.int p1), .val (.int (2 : Int32)), .val (.int (16 : Int32))] [(.int p1), (.int (2 : Int32)), (.ref p0)])) t → Steps p.tables e below (s₁.setTop (entryFrame m #[(.ref p0), (.int p1)] 4)) t := by
    intro t kont
    refine pre6 t ?_
    show Steps p.tables e below (T5.setTop (mkF m 14 #[.val (.ref p0), .val (.int p1), .val (.int (1 : Int32)), .val (.int (16 : Int32))] [])) _
    refine XS.iinc X5.here hx rfl (hb hby d4_14) rfl (l' := #[.val (.ref p0), .val (.int p1), .val (.int (2 : Int32)), .val (.int (16 : Int32))]) rfl ?_
    show Steps p.tables e below (T5.setTop (mkF m 17 #[.val (.ref p0), .val (.int p1), .val (.int (2 : Int32)), .val (.int (16 : Int32))] [])) _
    refine XS.goto X5.here hx rfl (pc0 := 17) (pc' := 5) rfl (hb hby d4_17) (by decide) (by decide) ?_
    show Steps p.tables e below (T5.setTop (mkF m 5 #[.val (.ref p0), .val (.int p1), .val (.int (2 : Int32)), .val (.int (16 : Int32))] [])) _
    refine XS.iloadN X5.here hx rfl (hb hby d4_5) rfl ?_
    show Steps p.tables e below (T5.setTop (mkF m 6 #[.val (.ref p0), .val (.int p1), .val (.int (2 : Int32)), .val (.int (16 : Int32))] [(.int (2 : Int32))])) _
    refine XS.iloadN X5.here hx rfl (hb hby d4_6) rfl ?_
    show Steps p.tables e below (T5.setTop (mkF m 7 #[.val (.ref p0), .val (.int p1), .val (.int (2 : Int32)), .val (.int (16 : Int32))] [(.int (16 : Int32)), (.int (2 : Int32))])) _
    refine XS.icmpNo X5.here hx rfl (hb hby d4_7) rfl (tlt (by decide)).2.1 ?_
    show Steps p.tables e below (T5.setTop (mkF m 10 #[.val (.ref p0), .val (.int p1), .val (.int (2 : Int32)), .val (.int (16 : Int32))] [])) _
    refine XS.aloadN X5.here hx rfl (hb hby d4_10) rfl rfl ?_
    show Steps p.tables e below (T5.setTop (mkF m 11 #[.val (.ref p0), .val (.int p1), .val (.int (2 : Int32)), .val (.int (16 : Int32))] [(.ref p0)])) _
    refine XS.iloadN X5.here hx rfl (hb hby d4_11) rfl ?_
    show Steps p.tables e below (T5.setTop (mkF m 12 #[.val (.ref p0), .val (.int p1), .val (.int (2 : Int32)), .val (.int (16 : Int32))] [(.int (2 : Int32)), (.ref p0)])) _
    refine XS.iloadN X5.here hx rfl (hb hby d4_12) rfl ?_
    exact kont
  obtain ⟨T8, h8, X8, e8, W8, V8, st8⟩ := own_stI X5 hx hZ e5 V5 (k := 2) (by decide) (by decide) (by decide) (fr := (mkF m 13 #[.val (.ref p0), .val (.int p1), .val (.int (2 : Int32)), .val (.int (16 : Int32))] [(.int p1), (.int (2 : Int32)), (.ref p0)])) rfl rfl (hb hby d4_13)
  obtain ⟨u13'', hu13''⟩ : ∃ z : Nat → Int32, z = fun i => if i = 2 then p1 else u13' i := ⟨_, rfl⟩
  replace V8 : own_arr Z h8 p0 .int 16 (fun i => .int (u13'' i)) := by rw [hu13'']; exact V8
  have K8 : Keep h0 h8 [p0] := (K5).wr W8 (Or.inl (List.mem_of_getElem? (i := 0) rfl))
  have Z8 : n0 ≤ h8.size := Nat.le_trans Z5 (Keep.of_wr W8).1
  have N8 := Fr.snoc X8 N5 gp
  have pre9 : ∀ t, Steps p.tables e below (T8.setTop (mkF m 14 #[.val (.ref p0), .val (.int p1), .val (.int (2 : Int32)), .val (.int (16 : Int32))] [])) t → Steps p.tables e below (s₁.setTop (entryFrame m #[(.ref p0), (.int p1)] 4)) t := fun t kont => pre7 t (st8 _ kont)
  have pre10 : ∀ t, Steps p.tables e below (T8.setTop (mkF m 13 #[.val (.ref p0), .val (.int p1), .val (.int (3 : Int32)), .val (.int (16 : Int32))] [(.int p1), (.int (3 : Int32)), (.ref p0)])) t → Steps p.tables e below (s₁.setTop (entryFrame m #[(.ref p0), (.int p1)] 4)) t := by
    intro t kont
    refine pre9 t ?_
    show Steps p.tables e below (T8.setTop (mkF m 14 #[.val (.ref p0), .val (.int p1), .val (.int (2 : Int32)), .val (.int (16 : Int32))] [])) _
    refine XS.iinc X8.here hx rfl (hb hby d4_14) rfl (l' := #[.val (.ref p0), .val (.int p1), .val (.int (3 : Int32)), .val (.int (16 : Int32))]) rfl ?_
    show Steps p.tables e below (T8.setTop (mkF m 17 #[.val (.ref p0), .val (.int p1), .val (.int (3 : Int32)), .val (.int (16 : Int32))] [])) _
    refine XS.goto X8.here hx rfl (pc0 := 17) (pc' := 5) rfl (hb hby d4_17) (by decide) (by decide) ?_
    show Steps p.tables e below (T8.setTop (mkF m 5 #[.val (.ref p0), .val (.int p1), .val (.int (3 : Int32)), .val (.int (16 : Int32))] [])) _
    refine XS.iloadN X8.here hx rfl (hb hby d4_5) rfl ?_
    show Steps p.tables e below (T8.setTop (mkF m 6 #[.val (.ref p0), .val (.int p1), .val (.int (3 : Int32)), .val (.int (16 : Int32))] [(.int (3 : Int32))])) _
    refine XS.iloadN X8.here hx rfl (hb hby d4_6) rfl ?_
    show Steps p.tables e below (T8.setTop (mkF m 7 #[.val (.ref p0), .val (.int p1), .val (.int (3 : Int32)), .val (.int (16 : Int32))] [(.int (16 : Int32)), (.int (3 : Int32))])) _
    refine XS.icmpNo X8.here hx rfl (hb hby d4_7) rfl (tlt (by decide)).2.1 ?_
    show Steps p.tables e below (T8.setTop (mkF m 10 #[.val (.ref p0), .val (.int p1), .val (.int (3 : Int32)), .val (.int (16 : Int32))] [])) _
    refine XS.aloadN X8.here hx rfl (hb hby d4_10) rfl rfl ?_
    show Steps p.tables e below (T8.setTop (mkF m 11 #[.val (.ref p0), .val (.int p1), .val (.int (3 : Int32)), .val (.int (16 : Int32))] [(.ref p0)])) _
    refine XS.iloadN X8.here hx rfl (hb hby d4_11) rfl ?_
    show Steps p.tables e below (T8.setTop (mkF m 12 #[.val (.ref p0), .val (.int p1), .val (.int (3 : Int32)), .val (.int (16 : Int32))] [(.int (3 : Int32)), (.ref p0)])) _
    refine XS.iloadN X8.here hx rfl (hb hby d4_12) rfl ?_
    exact kont
  obtain ⟨T11, h11, X11, e11, W11, V11, st11⟩ := own_stI X8 hx hZ e8 V8 (k := 3) (by decide) (by decide) (by decide) (fr := (mkF m 13 #[.val (.ref p0), .val (.int p1), .val (.int (3 : Int32)), .val (.int (16 : Int32))] [(.int p1), (.int (3 : Int32)), (.ref p0)])) rfl rfl (hb hby d4_13)
  obtain ⟨u13''', hu13'''⟩ : ∃ z : Nat → Int32, z = fun i => if i = 3 then p1 else u13'' i := ⟨_, rfl⟩
  replace V11 : own_arr Z h11 p0 .int 16 (fun i => .int (u13''' i)) := by rw [hu13''']; exact V11
  have K11 : Keep h0 h11 [p0] := (K8).wr W11 (Or.inl (List.mem_of_getElem? (i := 0) rfl))
  have Z11 : n0 ≤ h11.size := Nat.le_trans Z8 (Keep.of_wr W11).1
  have N11 := Fr.snoc X11 N8 gp
  have pre12 : ∀ t, Steps p.tables e below (T11.setTop (mkF m 14 #[.val (.ref p0), .val (.int p1), .val (.int (3 : Int32)), .val (.int (16 : Int32))] [])) t → Steps p.tables e below (s₁.setTop (entryFrame m #[(.ref p0), (.int p1)] 4)) t := fun t kont => pre10 t (st11 _ kont)
  have pre13 : ∀ t, Steps p.tables e below (T11.setTop (mkF m 13 #[.val (.ref p0), .val (.int p1), .val (.int (4 : Int32)), .val (.int (16 : Int32))] [(.int p1), (.int (4 : Int32)), (.ref p0)])) t → Steps p.tables e below (s₁.setTop (entryFrame m #[(.ref p0), (.int p1)] 4)) t := by
    intro t kont
    refine pre12 t ?_
    show Steps p.tables e below (T11.setTop (mkF m 14 #[.val (.ref p0), .val (.int p1), .val (.int (3 : Int32)), .val (.int (16 : Int32))] [])) _
    refine XS.iinc X11.here hx rfl (hb hby d4_14) rfl (l' := #[.val (.ref p0), .val (.int p1), .val (.int (4 : Int32)), .val (.int (16 : Int32))]) rfl ?_
    show Steps p.tables e below (T11.setTop (mkF m 17 #[.val (.ref p0), .val (.int p1), .val (.int (4 : Int32)), .val (.int (16 : Int32))] [])) _
    refine XS.goto X11.here hx rfl (pc0 := 17) (pc' := 5) rfl (hb hby d4_17) (by decide) (by decide) ?_
    show Steps p.tables e below (T11.setTop (mkF m 5 #[.val (.ref p0), .val (.int p1), .val (.int (4 : Int32)), .val (.int (16 : Int32))] [])) _
    refine XS.iloadN X11.here hx rfl (hb hby d4_5) rfl ?_
    show Steps p.tables e below (T11.setTop (mkF m 6 #[.val (.ref p0), .val (.int p1), .val (.int (4 : Int32)), .val (.int (16 : Int32))] [(.int (4 : Int32))])) _
    refine XS.iloadN X11.here hx rfl (hb hby d4_6) rfl ?_
    show Steps p.tables e below (T11.setTop (mkF m 7 #[.val (.ref p0), .val (.int p1), .val (.int (4 : Int32)), .val (.int (16 : Int32))] [(.int (16 : Int32)), (.int (4 : Int32))])) _
    refine XS.icmpNo X11.here hx rfl (hb hby d4_7) rfl (tlt (by decide)).2.1 ?_
    show Steps p.tables e below (T11.setTop (mkF m 10 #[.val (.ref p0), .val (.int p1), .val (.int (4 : Int32)), .val (.int (16 : Int32))] [])) _
    refine XS.aloadN X11.here hx rfl (hb hby d4_10) rfl rfl ?_
    show Steps p.tables e below (T11.setTop (mkF m 11 #[.val (.ref p0), .val (.int p1), .val (.int (4 : Int32)), .val (.int (16 : Int32))] [(.ref p0)])) _
    refine XS.iloadN X11.here hx rfl (hb hby d4_11) rfl ?_
    show Steps p.tables e below (T11.setTop (mkF m 12 #[.val (.ref p0), .val (.int p1), .val (.int (4 : Int32)), .val (.int (16 : Int32))] [(.int (4 : Int32)), (.ref p0)])) _
    refine XS.iloadN X11.here hx rfl (hb hby d4_12) rfl ?_
    exact kont
  obtain ⟨T14, h14, X14, e14, W14, V14, st14⟩ := own_stI X11 hx hZ e11 V11 (k := 4) (by decide) (by decide) (by decide) (fr := (mkF m 13 #[.val (.ref p0), .val (.int p1), .val (.int (4 : Int32)), .val (.int (16 : Int32))] [(.int p1), (.int (4 : Int32)), (.ref p0)])) rfl rfl (hb hby d4_13)
  obtain ⟨u13'''', hu13''''⟩ : ∃ z : Nat → Int32, z = fun i => if i = 4 then p1 else u13''' i := ⟨_, rfl⟩
  replace V14 : own_arr Z h14 p0 .int 16 (fun i => .int (u13'''' i)) := by rw [hu13'''']; exact V14
  have K14 : Keep h0 h14 [p0] := (K11).wr W14 (Or.inl (List.mem_of_getElem? (i := 0) rfl))
  have Z14 : n0 ≤ h14.size := Nat.le_trans Z11 (Keep.of_wr W14).1
  have N14 := Fr.snoc X14 N11 gp
  have pre15 : ∀ t, Steps p.tables e below (T14.setTop (mkF m 14 #[.val (.ref p0), .val (.int p1), .val (.int (4 : Int32)), .val (.int (16 : Int32))] [])) t → Steps p.tables e below (s₁.setTop (entryFrame m #[(.ref p0), (.int p1)] 4)) t := fun t kont => pre13 t (st14 _ kont)
  have pre16 : ∀ t, Steps p.tables e below (T14.setTop (mkF m 13 #[.val (.ref p0), .val (.int p1), .val (.int (5 : Int32)), .val (.int (16 : Int32))] [(.int p1), (.int (5 : Int32)), (.ref p0)])) t → Steps p.tables e below (s₁.setTop (entryFrame m #[(.ref p0), (.int p1)] 4)) t := by
    intro t kont
    refine pre15 t ?_
    show Steps p.tables e below (T14.setTop (mkF m 14 #[.val (.ref p0), .val (.int p1), .val (.int (4 : Int32)), .val (.int (16 : Int32))] [])) _
    refine XS.iinc X14.here hx rfl (hb hby d4_14) rfl (l' := #[.val (.ref p0), .val (.int p1), .val (.int (5 : Int32)), .val (.int (16 : Int32))]) rfl ?_
    show Steps p.tables e below (T14.setTop (mkF m 17 #[.val (.ref p0), .val (.int p1), .val (.int (5 : Int32)), .val (.int (16 : Int32))] [])) _
    refine XS.goto X14.here hx rfl (pc0 := 17) (pc' := 5) rfl (hb hby d4_17) (by decide) (by decide) ?_
    show Steps p.tables e below (T14.setTop (mkF m 5 #[.val (.ref p0), .val (.int p1), .val (.int (5 : Int32)), .val (.int (16 : Int32))] [])) _
    refine XS.iloadN X14.here hx rfl (hb hby d4_5) rfl ?_
    show Steps p.tables e below (T14.setTop (mkF m 6 #[.val (.ref p0), .val (.int p1), .val (.int (5 : Int32)), .val (.int (16 : Int32))] [(.int (5 : Int32))])) _
    refine XS.iloadN X14.here hx rfl (hb hby d4_6) rfl ?_
    show Steps p.tables e below (T14.setTop (mkF m 7 #[.val (.ref p0), .val (.int p1), .val (.int (5 : Int32)), .val (.int (16 : Int32))] [(.int (16 : Int32)), (.int (5 : Int32))])) _
    refine XS.icmpNo X14.here hx rfl (hb hby d4_7) rfl (tlt (by decide)).2.1 ?_
    show Steps p.tables e below (T14.setTop (mkF m 10 #[.val (.ref p0), .val (.int p1), .val (.int (5 : Int32)), .val (.int (16 : Int32))] [])) _
    refine XS.aloadN X14.here hx rfl (hb hby d4_10) rfl rfl ?_
    show Steps p.tables e below (T14.setTop (mkF m 11 #[.val (.ref p0), .val (.int p1), .val (.int (5 : Int32)), .val (.int (16 : Int32))] [(.ref p0)])) _
    refine XS.iloadN X14.here hx rfl (hb hby d4_11) rfl ?_
    show Steps p.tables e below (T14.setTop (mkF m 12 #[.val (.ref p0), .val (.int p1), .val (.int (5 : Int32)), .val (.int (16 : Int32))] [(.int (5 : Int32)), (.ref p0)])) _
    refine XS.iloadN X14.here hx rfl (hb hby d4_12) rfl ?_
    exact kont
  obtain ⟨T17, h17, X17, e17, W17, V17, st17⟩ := own_stI X14 hx hZ e14 V14 (k := 5) (by decide) (by decide) (by decide) (fr := (mkF m 13 #[.val (.ref p0), .val (.int p1), .val (.int (5 : Int32)), .val (.int (16 : Int32))] [(.int p1), (.int (5 : Int32)), (.ref p0)])) rfl rfl (hb hby d4_13)
  obtain ⟨u13''''', hu13'''''⟩ : ∃ z : Nat → Int32, z = fun i => if i = 5 then p1 else u13'''' i := ⟨_, rfl⟩
  replace V17 : own_arr Z h17 p0 .int 16 (fun i => .int (u13''''' i)) := by rw [hu13''''']; exact V17
  have K17 : Keep h0 h17 [p0] := (K14).wr W17 (Or.inl (List.mem_of_getElem? (i := 0) rfl))
  have Z17 : n0 ≤ h17.size := Nat.le_trans Z14 (Keep.of_wr W17).1
  have N17 := Fr.snoc X17 N14 gp
  have pre18 : ∀ t, Steps p.tables e below (T17.setTop (mkF m 14 #[.val (.ref p0), .val (.int p1), .val (.int (5 : Int32)), .val (.int (16 : Int32))] [])) t → Steps p.tables e below (s₁.setTop (entryFrame m #[(.ref p0), (.int p1)] 4)) t := fun t kont => pre16 t (st17 _ kont)
  have pre19 : ∀ t, Steps p.tables e below (T17.setTop (mkF m 13 #[.val (.ref p0), .val (.int p1), .val (.int (6 : Int32)), .val (.int (16 : Int32))] [(.int p1), (.int (6 : Int32)), (.ref p0)])) t → Steps p.tables e below (s₁.setTop (entryFrame m #[(.ref p0), (.int p1)] 4)) t := by
    intro t kont
    refine pre18 t ?_
    show Steps p.tables e below (T17.setTop (mkF m 14 #[.val (.ref p0), .val (.int p1), .val (.int (5 : Int32)), .val (.int (16 : Int32))] [])) _
    refine XS.iinc X17.here hx rfl (hb hby d4_14) rfl (l' := #[.val (.ref p0), .val (.int p1), .val (.int (6 : Int32)), .val (.int (16 : Int32))]) rfl ?_
    show Steps p.tables e below (T17.setTop (mkF m 17 #[.val (.ref p0), .val (.int p1), .val (.int (6 : Int32)), .val (.int (16 : Int32))] [])) _
    refine XS.goto X17.here hx rfl (pc0 := 17) (pc' := 5) rfl (hb hby d4_17) (by decide) (by decide) ?_
    show Steps p.tables e below (T17.setTop (mkF m 5 #[.val (.ref p0), .val (.int p1), .val (.int (6 : Int32)), .val (.int (16 : Int32))] [])) _
    refine XS.iloadN X17.here hx rfl (hb hby d4_5) rfl ?_
    show Steps p.tables e below (T17.setTop (mkF m 6 #[.val (.ref p0), .val (.int p1), .val (.int (6 : Int32)), .val (.int (16 : Int32))] [(.int (6 : Int32))])) _
    refine XS.iloadN X17.here hx rfl (hb hby d4_6) rfl ?_
    show Steps p.tables e below (T17.setTop (mkF m 7 #[.val (.ref p0), .val (.int p1), .val (.int (6 : Int32)), .val (.int (16 : Int32))] [(.int (16 : Int32)), (.int (6 : Int32))])) _
    refine XS.icmpNo X17.here hx rfl (hb hby d4_7) rfl (tlt (by decide)).2.1 ?_
    show Steps p.tables e below (T17.setTop (mkF m 10 #[.val (.ref p0), .val (.int p1), .val (.int (6 : Int32)), .val (.int (16 : Int32))] [])) _
    refine XS.aloadN X17.here hx rfl (hb hby d4_10) rfl rfl ?_
    show Steps p.tables e below (T17.setTop (mkF m 11 #[.val (.ref p0), .val (.int p1), .val (.int (6 : Int32)), .val (.int (16 : Int32))] [(.ref p0)])) _
    refine XS.iloadN X17.here hx rfl (hb hby d4_11) rfl ?_
    show Steps p.tables e below (T17.setTop (mkF m 12 #[.val (.ref p0), .val (.int p1), .val (.int (6 : Int32)), .val (.int (16 : Int32))] [(.int (6 : Int32)), (.ref p0)])) _
    refine XS.iloadN X17.here hx rfl (hb hby d4_12) rfl ?_
    exact kont
  obtain ⟨T20, h20, X20, e20, W20, V20, st20⟩ := own_stI X17 hx hZ e17 V17 (k := 6) (by decide) (by decide) (by decide) (fr := (mkF m 13 #[.val (.ref p0), .val (.int p1), .val (.int (6 : Int32)), .val (.int (16 : Int32))] [(.int p1), (.int (6 : Int32)), (.ref p0)])) rfl rfl (hb hby d4_13)
  obtain ⟨u13'''''', hu13''''''⟩ : ∃ z : Nat → Int32, z = fun i => if i = 6 then p1 else u13''''' i := ⟨_, rfl⟩
  replace V20 : own_arr Z h20 p0 .int 16 (fun i => .int (u13'''''' i)) := by rw [hu13'''''']; exact V20
  have K20 : Keep h0 h20 [p0] := (K17).wr W20 (Or.inl (List.mem_of_getElem? (i := 0) rfl))
  have Z20 : n0 ≤ h20.size := Nat.le_trans Z17 (Keep.of_wr W20).1
  have N20 := Fr.snoc X20 N17 gp
  have pre21 : ∀ t, Steps p.tables e below (T20.setTop (mkF m 14 #[.val (.ref p0), .val (.int p1), .val (.int (6 : Int32)), .val (.int (16 : Int32))] [])) t → Steps p.tables e below (s₁.setTop (entryFrame m #[(.ref p0), (.int p1)] 4)) t := fun t kont => pre19 t (st20 _ kont)
  have pre22 : ∀ t, Steps p.tables e below (T20.setTop (mkF m 13 #[.val (.ref p0), .val (.int p1), .val (.int (7 : Int32)), .val (.int (16 : Int32))] [(.int p1), (.int (7 : Int32)), (.ref p0)])) t → Steps p.tables e below (s₁.setTop (entryFrame m #[(.ref p0), (.int p1)] 4)) t := by
    intro t kont
    refine pre21 t ?_
    show Steps p.tables e below (T20.setTop (mkF m 14 #[.val (.ref p0), .val (.int p1), .val (.int (6 : Int32)), .val (.int (16 : Int32))] [])) _
    refine XS.iinc X20.here hx rfl (hb hby d4_14) rfl (l' := #[.val (.ref p0), .val (.int p1), .val (.int (7 : Int32)), .val (.int (16 : Int32))]) rfl ?_
    show Steps p.tables e below (T20.setTop (mkF m 17 #[.val (.ref p0), .val (.int p1), .val (.int (7 : Int32)), .val (.int (16 : Int32))] [])) _
    refine XS.goto X20.here hx rfl (pc0 := 17) (pc' := 5) rfl (hb hby d4_17) (by decide) (by decide) ?_
    show Steps p.tables e below (T20.setTop (mkF m 5 #[.val (.ref p0), .val (.int p1), .val (.int (7 : Int32)), .val (.int (16 : Int32))] [])) _
    refine XS.iloadN X20.here hx rfl (hb hby d4_5) rfl ?_
    show Steps p.tables e below (T20.setTop (mkF m 6 #[.val (.ref p0), .val (.int p1), .val (.int (7 : Int32)), .val (.int (16 : Int32))] [(.int (7 : Int32))])) _
    refine XS.iloadN X20.here hx rfl (hb hby d4_6) rfl ?_
    show Steps p.tables e below (T20.setTop (mkF m 7 #[.val (.ref p0), .val (.int p1), .val (.int (7 : Int32)), .val (.int (16 : Int32))] [(.int (16 : Int32)), (.int (7 : Int32))])) _
    refine XS.icmpNo X20.here hx rfl (hb hby d4_7) rfl (tlt (by decide)).2.1 ?_
    show Steps p.tables e below (T20.setTop (mkF m 10 #[.val (.ref p0), .val (.int p1), .val (.int (7 : Int32)), .val (.int (16 : Int32))] [])) _
    refine XS.aloadN X20.here hx rfl (hb hby d4_10) rfl rfl ?_
    show Steps p.tables e below (T20.setTop (mkF m 11 #[.val (.ref p0), .val (.int p1), .val (.int (7 : Int32)), .val (.int (16 : Int32))] [(.ref p0)])) _
    refine XS.iloadN X20.here hx rfl (hb hby d4_11) rfl ?_
    show Steps p.tables e below (T20.setTop (mkF m 12 #[.val (.ref p0), .val (.int p1), .val (.int (7 : Int32)), .val (.int (16 : Int32))] [(.int (7 : Int32)), (.ref p0)])) _
    refine XS.iloadN X20.here hx rfl (hb hby d4_12) rfl ?_
    exact kont
  obtain ⟨T23, h23, X23, e23, W23, V23, st23⟩ := own_stI X20 hx hZ e20 V20 (k := 7) (by decide) (by decide) (by decide) (fr := (mkF m 13 #[.val (.ref p0), .val (.int p1), .val (.int (7 : Int32)), .val (.int (16 : Int32))] [(.int p1), (.int (7 : Int32)), (.ref p0)])) rfl rfl (hb hby d4_13)
  obtain ⟨u13''''''', hu13'''''''⟩ : ∃ z : Nat → Int32, z = fun i => if i = 7 then p1 else u13'''''' i := ⟨_, rfl⟩
  replace V23 : own_arr Z h23 p0 .int 16 (fun i => .int (u13''''''' i)) := by rw [hu13''''''']; exact V23
  have K23 : Keep h0 h23 [p0] := (K20).wr W23 (Or.inl (List.mem_of_getElem? (i := 0) rfl))
  have Z23 : n0 ≤ h23.size := Nat.le_trans Z20 (Keep.of_wr W23).1
  have N23 := Fr.snoc X23 N20 gp
  have pre24 : ∀ t, Steps p.tables e below (T23.setTop (mkF m 14 #[.val (.ref p0), .val (.int p1), .val (.int (7 : Int32)), .val (.int (16 : Int32))] [])) t → Steps p.tables e below (s₁.setTop (entryFrame m #[(.ref p0), (.int p1)] 4)) t := fun t kont => pre22 t (st23 _ kont)
  have pre25 : ∀ t, Steps p.tables e below (T23.setTop (mkF m 13 #[.val (.ref p0), .val (.int p1), .val (.int (8 : Int32)), .val (.int (16 : Int32))] [(.int p1), (.int (8 : Int32)), (.ref p0)])) t → Steps p.tables e below (s₁.setTop (entryFrame m #[(.ref p0), (.int p1)] 4)) t := by
    intro t kont
    refine pre24 t ?_
    show Steps p.tables e below (T23.setTop (mkF m 14 #[.val (.ref p0), .val (.int p1), .val (.int (7 : Int32)), .val (.int (16 : Int32))] [])) _
    refine XS.iinc X23.here hx rfl (hb hby d4_14) rfl (l' := #[.val (.ref p0), .val (.int p1), .val (.int (8 : Int32)), .val (.int (16 : Int32))]) rfl ?_
    show Steps p.tables e below (T23.setTop (mkF m 17 #[.val (.ref p0), .val (.int p1), .val (.int (8 : Int32)), .val (.int (16 : Int32))] [])) _
    refine XS.goto X23.here hx rfl (pc0 := 17) (pc' := 5) rfl (hb hby d4_17) (by decide) (by decide) ?_
    show Steps p.tables e below (T23.setTop (mkF m 5 #[.val (.ref p0), .val (.int p1), .val (.int (8 : Int32)), .val (.int (16 : Int32))] [])) _
    refine XS.iloadN X23.here hx rfl (hb hby d4_5) rfl ?_
    show Steps p.tables e below (T23.setTop (mkF m 6 #[.val (.ref p0), .val (.int p1), .val (.int (8 : Int32)), .val (.int (16 : Int32))] [(.int (8 : Int32))])) _
    refine XS.iloadN X23.here hx rfl (hb hby d4_6) rfl ?_
    show Steps p.tables e below (T23.setTop (mkF m 7 #[.val (.ref p0), .val (.int p1), .val (.int (8 : Int32)), .val (.int (16 : Int32))] [(.int (16 : Int32)), (.int (8 : Int32))])) _
    refine XS.icmpNo X23.here hx rfl (hb hby d4_7) rfl (tlt (by decide)).2.1 ?_
    show Steps p.tables e below (T23.setTop (mkF m 10 #[.val (.ref p0), .val (.int p1), .val (.int (8 : Int32)), .val (.int (16 : Int32))] [])) _
    refine XS.aloadN X23.here hx rfl (hb hby d4_10) rfl rfl ?_
    show Steps p.tables e below (T23.setTop (mkF m 11 #[.val (.ref p0), .val (.int p1), .val (.int (8 : Int32)), .val (.int (16 : Int32))] [(.ref p0)])) _
    refine XS.iloadN X23.here hx rfl (hb hby d4_11) rfl ?_
    show Steps p.tables e below (T23.setTop (mkF m 12 #[.val (.ref p0), .val (.int p1), .val (.int (8 : Int32)), .val (.int (16 : Int32))] [(.int (8 : Int32)), (.ref p0)])) _
    refine XS.iloadN X23.here hx rfl (hb hby d4_12) rfl ?_
    exact kont
  obtain ⟨T26, h26, X26, e26, W26, V26, st26⟩ := own_stI X23 hx hZ e23 V23 (k := 8) (by decide) (by decide) (by decide) (fr := (mkF m 13 #[.val (.ref p0), .val (.int p1), .val (.int (8 : Int32)), .val (.int (16 : Int32))] [(.int p1), (.int (8 : Int32)), (.ref p0)])) rfl rfl (hb hby d4_13)
  obtain ⟨u13'''''''', hu13''''''''⟩ : ∃ z : Nat → Int32, z = fun i => if i = 8 then p1 else u13''''''' i := ⟨_, rfl⟩
  replace V26 : own_arr Z h26 p0 .int 16 (fun i => .int (u13'''''''' i)) := by rw [hu13'''''''']; exact V26
  have K26 : Keep h0 h26 [p0] := (K23).wr W26 (Or.inl (List.mem_of_getElem? (i := 0) rfl))
  have Z26 : n0 ≤ h26.size := Nat.le_trans Z23 (Keep.of_wr W26).1
  have N26 := Fr.snoc X26 N23 gp
  have pre27 : ∀ t, Steps p.tables e below (T26.setTop (mkF m 14 #[.val (.ref p0), .val (.int p1), .val (.int (8 : Int32)), .val (.int (16 : Int32))] [])) t → Steps p.tables e below (s₁.setTop (entryFrame m #[(.ref p0), (.int p1)] 4)) t := fun t kont => pre25 t (st26 _ kont)
  have pre28 : ∀ t, Steps p.tables e below (T26.setTop (mkF m 13 #[.val (.ref p0), .val (.int p1), .val (.int (9 : Int32)), .val (.int (16 : Int32))] [(.int p1), (.int (9 : Int32)), (.ref p0)])) t → Steps p.tables e below (s₁.setTop (entryFrame m #[(.ref p0), (.int p1)] 4)) t := by
    intro t kont
    refine pre27 t ?_
    show Steps p.tables e below (T26.setTop (mkF m 14 #[.val (.ref p0), .val (.int p1), .val (.int (8 : Int32)), .val (.int (16 : Int32))] [])) _
    refine XS.iinc X26.here hx rfl (hb hby d4_14) rfl (l' := #[.val (.ref p0), .val (.int p1), .val (.int (9 : Int32)), .val (.int (16 : Int32))]) rfl ?_
    show Steps p.tables e below (T26.setTop (mkF m 17 #[.val (.ref p0), .val (.int p1), .val (.int (9 : Int32)), .val (.int (16 : Int32))] [])) _
    refine XS.goto X26.here hx rfl (pc0 := 17) (pc' := 5) rfl (hb hby d4_17) (by decide) (by decide) ?_
    show Steps p.tables e below (T26.setTop (mkF m 5 #[.val (.ref p0), .val (.int p1), .val (.int (9 : Int32)), .val (.int (16 : Int32))] [])) _
    refine XS.iloadN X26.here hx rfl (hb hby d4_5) rfl ?_
    show Steps p.tables e below (T26.setTop (mkF m 6 #[.val (.ref p0), .val (.int p1), .val (.int (9 : Int32)), .val (.int (16 : Int32))] [(.int (9 : Int32))])) _
    refine XS.iloadN X26.here hx rfl (hb hby d4_6) rfl ?_
    show Steps p.tables e below (T26.setTop (mkF m 7 #[.val (.ref p0), .val (.int p1), .val (.int (9 : Int32)), .val (.int (16 : Int32))] [(.int (16 : Int32)), (.int (9 : Int32))])) _
    refine XS.icmpNo X26.here hx rfl (hb hby d4_7) rfl (tlt (by decide)).2.1 ?_
    show Steps p.tables e below (T26.setTop (mkF m 10 #[.val (.ref p0), .val (.int p1), .val (.int (9 : Int32)), .val (.int (16 : Int32))] [])) _
    refine XS.aloadN X26.here hx rfl (hb hby d4_10) rfl rfl ?_
    show Steps p.tables e below (T26.setTop (mkF m 11 #[.val (.ref p0), .val (.int p1), .val (.int (9 : Int32)), .val (.int (16 : Int32))] [(.ref p0)])) _
    refine XS.iloadN X26.here hx rfl (hb hby d4_11) rfl ?_
    show Steps p.tables e below (T26.setTop (mkF m 12 #[.val (.ref p0), .val (.int p1), .val (.int (9 : Int32)), .val (.int (16 : Int32))] [(.int (9 : Int32)), (.ref p0)])) _
    refine XS.iloadN X26.here hx rfl (hb hby d4_12) rfl ?_
    exact kont
  obtain ⟨T29, h29, X29, e29, W29, V29, st29⟩ := own_stI X26 hx hZ e26 V26 (k := 9) (by decide) (by decide) (by decide) (fr := (mkF m 13 #[.val (.ref p0), .val (.int p1), .val (.int (9 : Int32)), .val (.int (16 : Int32))] [(.int p1), (.int (9 : Int32)), (.ref p0)])) rfl rfl (hb hby d4_13)
  obtain ⟨u13''''''''', hu13'''''''''⟩ : ∃ z : Nat → Int32, z = fun i => if i = 9 then p1 else u13'''''''' i := ⟨_, rfl⟩
  replace V29 : own_arr Z h29 p0 .int 16 (fun i => .int (u13''''''''' i)) := by rw [hu13''''''''']; exact V29
  have K29 : Keep h0 h29 [p0] := (K26).wr W29 (Or.inl (List.mem_of_getElem? (i := 0) rfl))
  have Z29 : n0 ≤ h29.size := Nat.le_trans Z26 (Keep.of_wr W29).1
  have N29 := Fr.snoc X29 N26 gp
  have pre30 : ∀ t, Steps p.tables e below (T29.setTop (mkF m 14 #[.val (.ref p0), .val (.int p1), .val (.int (9 : Int32)), .val (.int (16 : Int32))] [])) t → Steps p.tables e below (s₁.setTop (entryFrame m #[(.ref p0), (.int p1)] 4)) t := fun t kont => pre28 t (st29 _ kont)
  have pre31 : ∀ t, Steps p.tables e below (T29.setTop (mkF m 13 #[.val (.ref p0), .val (.int p1), .val (.int (10 : Int32)), .val (.int (16 : Int32))] [(.int p1), (.int (10 : Int32)), (.ref p0)])) t → Steps p.tables e below (s₁.setTop (entryFrame m #[(.ref p0), (.int p1)] 4)) t := by
    intro t kont
    refine pre30 t ?_
    show Steps p.tables e below (T29.setTop (mkF m 14 #[.val (.ref p0), .val (.int p1), .val (.int (9 : Int32)), .val (.int (16 : Int32))] [])) _
    refine XS.iinc X29.here hx rfl (hb hby d4_14) rfl (l' := #[.val (.ref p0), .val (.int p1), .val (.int (10 : Int32)), .val (.int (16 : Int32))]) rfl ?_
    show Steps p.tables e below (T29.setTop (mkF m 17 #[.val (.ref p0), .val (.int p1), .val (.int (10 : Int32)), .val (.int (16 : Int32))] [])) _
    refine XS.goto X29.here hx rfl (pc0 := 17) (pc' := 5) rfl (hb hby d4_17) (by decide) (by decide) ?_
    show Steps p.tables e below (T29.setTop (mkF m 5 #[.val (.ref p0), .val (.int p1), .val (.int (10 : Int32)), .val (.int (16 : Int32))] [])) _
    refine XS.iloadN X29.here hx rfl (hb hby d4_5) rfl ?_
    show Steps p.tables e below (T29.setTop (mkF m 6 #[.val (.ref p0), .val (.int p1), .val (.int (10 : Int32)), .val (.int (16 : Int32))] [(.int (10 : Int32))])) _
    refine XS.iloadN X29.here hx rfl (hb hby d4_6) rfl ?_
    show Steps p.tables e below (T29.setTop (mkF m 7 #[.val (.ref p0), .val (.int p1), .val (.int (10 : Int32)), .val (.int (16 : Int32))] [(.int (16 : Int32)), (.int (10 : Int32))])) _
    refine XS.icmpNo X29.here hx rfl (hb hby d4_7) rfl (tlt (by decide)).2.1 ?_
    show Steps p.tables e below (T29.setTop (mkF m 10 #[.val (.ref p0), .val (.int p1), .val (.int (10 : Int32)), .val (.int (16 : Int32))] [])) _
    refine XS.aloadN X29.here hx rfl (hb hby d4_10) rfl rfl ?_
    show Steps p.tables e below (T29.setTop (mkF m 11 #[.val (.ref p0), .val (.int p1), .val (.int (10 : Int32)), .val (.int (16 : Int32))] [(.ref p0)])) _
    refine XS.iloadN X29.here hx rfl (hb hby d4_11) rfl ?_
    show Steps p.tables e below (T29.setTop (mkF m 12 #[.val (.ref p0), .val (.int p1), .val (.int (10 : Int32)), .val (.int (16 : Int32))] [(.int (10 : Int32)), (.ref p0)])) _
    refine XS.iloadN X29.here hx rfl (hb hby d4_12) rfl ?_
    exact kont
  obtain ⟨T32, h32, X32, e32, W32, V32, st32⟩ := own_stI X29 hx hZ e29 V29 (k := 10) (by decide) (by decide) (by decide) (fr := (mkF m 13 #[.val (.ref p0), .val (.int p1), .val (.int (10 : Int32)), .val (.int (16 : Int32))] [(.int p1), (.int (10 : Int32)), (.ref p0)])) rfl rfl (hb hby d4_13)
  obtain ⟨u13'''''''''', hu13''''''''''⟩ : ∃ z : Nat → Int32, z = fun i => if i = 10 then p1 else u13''''''''' i := ⟨_, rfl⟩
  replace V32 : own_arr Z h32 p0 .int 16 (fun i => .int (u13'''''''''' i)) := by rw [hu13'''''''''']; exact V32
  have K32 : Keep h0 h32 [p0] := (K29).wr W32 (Or.inl (List.mem_of_getElem? (i := 0) rfl))
  have Z32 : n0 ≤ h32.size := Nat.le_trans Z29 (Keep.of_wr W32).1
  have N32 := Fr.snoc X32 N29 gp
  have pre33 : ∀ t, Steps p.tables e below (T32.setTop (mkF m 14 #[.val (.ref p0), .val (.int p1), .val (.int (10 : Int32)), .val (.int (16 : Int32))] [])) t → Steps p.tables e below (s₁.setTop (entryFrame m #[(.ref p0), (.int p1)] 4)) t := fun t kont => pre31 t (st32 _ kont)
  have pre34 : ∀ t, Steps p.tables e below (T32.setTop (mkF m 13 #[.val (.ref p0), .val (.int p1), .val (.int (11 : Int32)), .val (.int (16 : Int32))] [(.int p1), (.int (11 : Int32)), (.ref p0)])) t → Steps p.tables e below (s₁.setTop (entryFrame m #[(.ref p0), (.int p1)] 4)) t := by
    intro t kont
    refine pre33 t ?_
    show Steps p.tables e below (T32.setTop (mkF m 14 #[.val (.ref p0), .val (.int p1), .val (.int (10 : Int32)), .val (.int (16 : Int32))] [])) _
    refine XS.iinc X32.here hx rfl (hb hby d4_14) rfl (l' := #[.val (.ref p0), .val (.int p1), .val (.int (11 : Int32)), .val (.int (16 : Int32))]) rfl ?_
    show Steps p.tables e below (T32.setTop (mkF m 17 #[.val (.ref p0), .val (.int p1), .val (.int (11 : Int32)), .val (.int (16 : Int32))] [])) _
    refine XS.goto X32.here hx rfl (pc0 := 17) (pc' := 5) rfl (hb hby d4_17) (by decide) (by decide) ?_
    show Steps p.tables e below (T32.setTop (mkF m 5 #[.val (.ref p0), .val (.int p1), .val (.int (11 : Int32)), .val (.int (16 : Int32))] [])) _
    refine XS.iloadN X32.here hx rfl (hb hby d4_5) rfl ?_
    show Steps p.tables e below (T32.setTop (mkF m 6 #[.val (.ref p0), .val (.int p1), .val (.int (11 : Int32)), .val (.int (16 : Int32))] [(.int (11 : Int32))])) _
    refine XS.iloadN X32.here hx rfl (hb hby d4_6) rfl ?_
    show Steps p.tables e below (T32.setTop (mkF m 7 #[.val (.ref p0), .val (.int p1), .val (.int (11 : Int32)), .val (.int (16 : Int32))] [(.int (16 : Int32)), (.int (11 : Int32))])) _
    refine XS.icmpNo X32.here hx rfl (hb hby d4_7) rfl (tlt (by decide)).2.1 ?_
    show Steps p.tables e below (T32.setTop (mkF m 10 #[.val (.ref p0), .val (.int p1), .val (.int (11 : Int32)), .val (.int (16 : Int32))] [])) _
    refine XS.aloadN X32.here hx rfl (hb hby d4_10) rfl rfl ?_
    show Steps p.tables e below (T32.setTop (mkF m 11 #[.val (.ref p0), .val (.int p1), .val (.int (11 : Int32)), .val (.int (16 : Int32))] [(.ref p0)])) _
    refine XS.iloadN X32.here hx rfl (hb hby d4_11) rfl ?_
    show Steps p.tables e below (T32.setTop (mkF m 12 #[.val (.ref p0), .val (.int p1), .val (.int (11 : Int32)), .val (.int (16 : Int32))] [(.int (11 : Int32)), (.ref p0)])) _
    refine XS.iloadN X32.here hx rfl (hb hby d4_12) rfl ?_
    exact kont
  obtain ⟨T35, h35, X35, e35, W35, V35, st35⟩ := own_stI X32 hx hZ e32 V32 (k := 11) (by decide) (by decide) (by decide) (fr := (mkF m 13 #[.val (.ref p0), .val (.int p1), .val (.int (11 : Int32)), .val (.int (16 : Int32))] [(.int p1), (.int (11 : Int32)), (.ref p0)])) rfl rfl (hb hby d4_13)
  obtain ⟨u13''''''''''', hu13'''''''''''⟩ : ∃ z : Nat → Int32, z = fun i => if i = 11 then p1 else u13'''''''''' i := ⟨_, rfl⟩
  replace V35 : own_arr Z h35 p0 .int 16 (fun i => .int (u13''''''''''' i)) := by rw [hu13''''''''''']; exact V35
  have K35 : Keep h0 h35 [p0] := (K32).wr W35 (Or.inl (List.mem_of_getElem? (i := 0) rfl))
  have Z35 : n0 ≤ h35.size := Nat.le_trans Z32 (Keep.of_wr W35).1
  have N35 := Fr.snoc X35 N32 gp
  have pre36 : ∀ t, Steps p.tables e below (T35.setTop (mkF m 14 #[.val (.ref p0), .val (.int p1), .val (.int (11 : Int32)), .val (.int (16 : Int32))] [])) t → Steps p.tables e below (s₁.setTop (entryFrame m #[(.ref p0), (.int p1)] 4)) t := fun t kont => pre34 t (st35 _ kont)
  have pre37 : ∀ t, Steps p.tables e below (T35.setTop (mkF m 13 #[.val (.ref p0), .val (.int p1), .val (.int (12 : Int32)), .val (.int (16 : Int32))] [(.int p1), (.int (12 : Int32)), (.ref p0)])) t → Steps p.tables e below (s₁.setTop (entryFrame m #[(.ref p0), (.int p1)] 4)) t := by
    intro t kont
    refine pre36 t ?_
    show Steps p.tables e below (T35.setTop (mkF m 14 #[.val (.ref p0), .val (.int p1), .val (.int (11 : Int32)), .val (.int (16 : Int32))] [])) _
    refine XS.iinc X35.here hx rfl (hb hby d4_14) rfl (l' := #[.val (.ref p0), .val (.int p1), .val (.int (12 : Int32)), .val (.int (16 : Int32))]) rfl ?_
    show Steps p.tables e below (T35.setTop (mkF m 17 #[.val (.ref p0), .val (.int p1), .val (.int (12 : Int32)), .val (.int (16 : Int32))] [])) _
    refine XS.goto X35.here hx rfl (pc0 := 17) (pc' := 5) rfl (hb hby d4_17) (by decide) (by decide) ?_
    show Steps p.tables e below (T35.setTop (mkF m 5 #[.val (.ref p0), .val (.int p1), .val (.int (12 : Int32)), .val (.int (16 : Int32))] [])) _
    refine XS.iloadN X35.here hx rfl (hb hby d4_5) rfl ?_
    show Steps p.tables e below (T35.setTop (mkF m 6 #[.val (.ref p0), .val (.int p1), .val (.int (12 : Int32)), .val (.int (16 : Int32))] [(.int (12 : Int32))])) _
    refine XS.iloadN X35.here hx rfl (hb hby d4_6) rfl ?_
    show Steps p.tables e below (T35.setTop (mkF m 7 #[.val (.ref p0), .val (.int p1), .val (.int (12 : Int32)), .val (.int (16 : Int32))] [(.int (16 : Int32)), (.int (12 : Int32))])) _
    refine XS.icmpNo X35.here hx rfl (hb hby d4_7) rfl (tlt (by decide)).2.1 ?_
    show Steps p.tables e below (T35.setTop (mkF m 10 #[.val (.ref p0), .val (.int p1), .val (.int (12 : Int32)), .val (.int (16 : Int32))] [])) _
    refine XS.aloadN X35.here hx rfl (hb hby d4_10) rfl rfl ?_
    show Steps p.tables e below (T35.setTop (mkF m 11 #[.val (.ref p0), .val (.int p1), .val (.int (12 : Int32)), .val (.int (16 : Int32))] [(.ref p0)])) _
    refine XS.iloadN X35.here hx rfl (hb hby d4_11) rfl ?_
    show Steps p.tables e below (T35.setTop (mkF m 12 #[.val (.ref p0), .val (.int p1), .val (.int (12 : Int32)), .val (.int (16 : Int32))] [(.int (12 : Int32)), (.ref p0)])) _
    refine XS.iloadN X35.here hx rfl (hb hby d4_12) rfl ?_
    exact kont
  obtain ⟨T38, h38, X38, e38, W38, V38, st38⟩ := own_stI X35 hx hZ e35 V35 (k := 12) (by decide) (by decide) (by decide) (fr := (mkF m 13 #[.val (.ref p0), .val (.int p1), .val (.int (12 : Int32)), .val (.int (16 : Int32))] [(.int p1), (.int (12 : Int32)), (.ref p0)])) rfl rfl (hb hby d4_13)
  obtain ⟨u13'''''''''''', hu13''''''''''''⟩ : ∃ z : Nat → Int32, z = fun i => if i = 12 then p1 else u13''''''''''' i := ⟨_, rfl⟩
  replace V38 : own_arr Z h38 p0 .int 16 (fun i => .int (u13'''''''''''' i)) := by rw [hu13'''''''''''']; exact V38
  have K38 : Keep h0 h38 [p0] := (K35).wr W38 (Or.inl (List.mem_of_getElem? (i := 0) rfl))
  have Z38 : n0 ≤ h38.size := Nat.le_trans Z35 (Keep.of_wr W38).1
  have N38 := Fr.snoc X38 N35 gp
  have pre39 : ∀ t, Steps p.tables e below (T38.setTop (mkF m 14 #[.val (.ref p0), .val (.int p1), .val (.int (12 : Int32)), .val (.int (16 : Int32))] [])) t → Steps p.tables e below (s₁.setTop (entryFrame m #[(.ref p0), (.int p1)] 4)) t := fun t kont => pre37 t (st38 _ kont)
  have pre40 : ∀ t, Steps p.tables e below (T38.setTop (mkF m 13 #[.val (.ref p0), .val (.int p1), .val (.int (13 : Int32)), .val (.int (16 : Int32))] [(.int p1), (.int (13 : Int32)), (.ref p0)])) t → Steps p.tables e below (s₁.setTop (entryFrame m #[(.ref p0), (.int p1)] 4)) t := by
    intro t kont
    refine pre39 t ?_
    show Steps p.tables e below (T38.setTop (mkF m 14 #[.val (.ref p0), .val (.int p1), .val (.int (12 : Int32)), .val (.int (16 : Int32))] [])) _
    refine XS.iinc X38.here hx rfl (hb hby d4_14) rfl (l' := #[.val (.ref p0), .val (.int p1), .val (.int (13 : Int32)), .val (.int (16 : Int32))]) rfl ?_
    show Steps p.tables e below (T38.setTop (mkF m 17 #[.val (.ref p0), .val (.int p1), .val (.int (13 : Int32)), .val (.int (16 : Int32))] [])) _
    refine XS.goto X38.here hx rfl (pc0 := 17) (pc' := 5) rfl (hb hby d4_17) (by decide) (by decide) ?_
    show Steps p.tables e below (T38.setTop (mkF m 5 #[.val (.ref p0), .val (.int p1), .val (.int (13 : Int32)), .val (.int (16 : Int32))] [])) _
    refine XS.iloadN X38.here hx rfl (hb hby d4_5) rfl ?_
    show Steps p.tables e below (T38.setTop (mkF m 6 #[.val (.ref p0), .val (.int p1), .val (.int (13 : Int32)), .val (.int (16 : Int32))] [(.int (13 : Int32))])) _
    refine XS.iloadN X38.here hx rfl (hb hby d4_6) rfl ?_
    show Steps p.tables e below (T38.setTop (mkF m 7 #[.val (.ref p0), .val (.int p1), .val (.int (13 : Int32)), .val (.int (16 : Int32))] [(.int (16 : Int32)), (.int (13 : Int32))])) _
    refine XS.icmpNo X38.here hx rfl (hb hby d4_7) rfl (tlt (by decide)).2.1 ?_
    show Steps p.tables e below (T38.setTop (mkF m 10 #[.val (.ref p0), .val (.int p1), .val (.int (13 : Int32)), .val (.int (16 : Int32))] [])) _
    refine XS.aloadN X38.here hx rfl (hb hby d4_10) rfl rfl ?_
    show Steps p.tables e below (T38.setTop (mkF m 11 #[.val (.ref p0), .val (.int p1), .val (.int (13 : Int32)), .val (.int (16 : Int32))] [(.ref p0)])) _
    refine XS.iloadN X38.here hx rfl (hb hby d4_11) rfl ?_
    show Steps p.tables e below (T38.setTop (mkF m 12 #[.val (.ref p0), .val (.int p1), .val (.int (13 : Int32)), .val (.int (16 : Int32))] [(.int (13 : Int32)), (.ref p0)])) _
    refine XS.iloadN X38.here hx rfl (hb hby d4_12) rfl ?_
    exact kont
  obtain ⟨T41, h41, X41, e41, W41, V41, st41⟩ := own_stI X38 hx hZ e38 V38 (k := 13) (by decide) (by decide) (by decide) (fr := (mkF m 13 #[.val (.ref p0), .val (.int p1), .val (.int (13 : Int32)), .val (.int (16 : Int32))] [(.int p1), (.int (13 : Int32)), (.ref p0)])) rfl rfl (hb hby d4_13)
  obtain ⟨u13''''''''''''', hu13'''''''''''''⟩ : ∃ z : Nat → Int32, z = fun i => if i = 13 then p1 else u13'''''''''''' i := ⟨_, rfl⟩
  replace V41 : own_arr Z h41 p0 .int 16 (fun i => .int (u13''''''''''''' i)) := by rw [hu13''''''''''''']; exact V41
  have K41 : Keep h0 h41 [p0] := (K38).wr W41 (Or.inl (List.mem_of_getElem? (i := 0) rfl))
  have Z41 : n0 ≤ h41.size := Nat.le_trans Z38 (Keep.of_wr W41).1
  have N41 := Fr.snoc X41 N38 gp
  have pre42 : ∀ t, Steps p.tables e below (T41.setTop (mkF m 14 #[.val (.ref p0), .val (.int p1), .val (.int (13 : Int32)), .val (.int (16 : Int32))] [])) t → Steps p.tables e below (s₁.setTop (entryFrame m #[(.ref p0), (.int p1)] 4)) t := fun t kont => pre40 t (st41 _ kont)
  have pre43 : ∀ t, Steps p.tables e below (T41.setTop (mkF m 13 #[.val (.ref p0), .val (.int p1), .val (.int (14 : Int32)), .val (.int (16 : Int32))] [(.int p1), (.int (14 : Int32)), (.ref p0)])) t → Steps p.tables e below (s₁.setTop (entryFrame m #[(.ref p0), (.int p1)] 4)) t := by
    intro t kont
    refine pre42 t ?_
    show Steps p.tables e below (T41.setTop (mkF m 14 #[.val (.ref p0), .val (.int p1), .val (.int (13 : Int32)), .val (.int (16 : Int32))] [])) _
    refine XS.iinc X41.here hx rfl (hb hby d4_14) rfl (l' := #[.val (.ref p0), .val (.int p1), .val (.int (14 : Int32)), .val (.int (16 : Int32))]) rfl ?_
    show Steps p.tables e below (T41.setTop (mkF m 17 #[.val (.ref p0), .val (.int p1), .val (.int (14 : Int32)), .val (.int (16 : Int32))] [])) _
    refine XS.goto X41.here hx rfl (pc0 := 17) (pc' := 5) rfl (hb hby d4_17) (by decide) (by decide) ?_
    show Steps p.tables e below (T41.setTop (mkF m 5 #[.val (.ref p0), .val (.int p1), .val (.int (14 : Int32)), .val (.int (16 : Int32))] [])) _
    refine XS.iloadN X41.here hx rfl (hb hby d4_5) rfl ?_
    show Steps p.tables e below (T41.setTop (mkF m 6 #[.val (.ref p0), .val (.int p1), .val (.int (14 : Int32)), .val (.int (16 : Int32))] [(.int (14 : Int32))])) _
    refine XS.iloadN X41.here hx rfl (hb hby d4_6) rfl ?_
    show Steps p.tables e below (T41.setTop (mkF m 7 #[.val (.ref p0), .val (.int p1), .val (.int (14 : Int32)), .val (.int (16 : Int32))] [(.int (16 : Int32)), (.int (14 : Int32))])) _
    refine XS.icmpNo X41.here hx rfl (hb hby d4_7) rfl (tlt (by decide)).2.1 ?_
    show Steps p.tables e below (T41.setTop (mkF m 10 #[.val (.ref p0), .val (.int p1), .val (.int (14 : Int32)), .val (.int (16 : Int32))] [])) _
    refine XS.aloadN X41.here hx rfl (hb hby d4_10) rfl rfl ?_
    show Steps p.tables e below (T41.setTop (mkF m 11 #[.val (.ref p0), .val (.int p1), .val (.int (14 : Int32)), .val (.int (16 : Int32))] [(.ref p0)])) _
    refine XS.iloadN X41.here hx rfl (hb hby d4_11) rfl ?_
    show Steps p.tables e below (T41.setTop (mkF m 12 #[.val (.ref p0), .val (.int p1), .val (.int (14 : Int32)), .val (.int (16 : Int32))] [(.int (14 : Int32)), (.ref p0)])) _
    refine XS.iloadN X41.here hx rfl (hb hby d4_12) rfl ?_
    exact kont
  obtain ⟨T44, h44, X44, e44, W44, V44, st44⟩ := own_stI X41 hx hZ e41 V41 (k := 14) (by decide) (by decide) (by decide) (fr := (mkF m 13 #[.val (.ref p0), .val (.int p1), .val (.int (14 : Int32)), .val (.int (16 : Int32))] [(.int p1), (.int (14 : Int32)), (.ref p0)])) rfl rfl (hb hby d4_13)
  obtain ⟨u13'''''''''''''', hu13''''''''''''''⟩ : ∃ z : Nat → Int32, z = fun i => if i = 14 then p1 else u13''''''''''''' i := ⟨_, rfl⟩
  replace V44 : own_arr Z h44 p0 .int 16 (fun i => .int (u13'''''''''''''' i)) := by rw [hu13'''''''''''''']; exact V44
  have K44 : Keep h0 h44 [p0] := (K41).wr W44 (Or.inl (List.mem_of_getElem? (i := 0) rfl))
  have Z44 : n0 ≤ h44.size := Nat.le_trans Z41 (Keep.of_wr W44).1
  have N44 := Fr.snoc X44 N41 gp
  have pre45 : ∀ t, Steps p.tables e below (T44.setTop (mkF m 14 #[.val (.ref p0), .val (.int p1), .val (.int (14 : Int32)), .val (.int (16 : Int32))] [])) t → Steps p.tables e below (s₁.setTop (entryFrame m #[(.ref p0), (.int p1)] 4)) t := fun t kont => pre43 t (st44 _ kont)
  have pre46 : ∀ t, Steps p.tables e below (T44.setTop (mkF m 13 #[.val (.ref p0), .val (.int p1), .val (.int (15 : Int32)), .val (.int (16 : Int32))] [(.int p1), (.int (15 : Int32)), (.ref p0)])) t → Steps p.tables e below (s₁.setTop (entryFrame m #[(.ref p0), (.int p1)] 4)) t := by
    intro t kont
    refine pre45 t ?_
    show Steps p.tables e below (T44.setTop (mkF m 14 #[.val (.ref p0), .val (.int p1), .val (.int (14 : Int32)), .val (.int (16 : Int32))] [])) _
    refine XS.iinc X44.here hx rfl (hb hby d4_14) rfl (l' := #[.val (.ref p0), .val (.int p1), .val (.int (15 : Int32)), .val (.int (16 : Int32))]) rfl ?_
    show Steps p.tables e below (T44.setTop (mkF m 17 #[.val (.ref p0), .val (.int p1), .val (.int (15 : Int32)), .val (.int (16 : Int32))] [])) _
    refine XS.goto X44.here hx rfl (pc0 := 17) (pc' := 5) rfl (hb hby d4_17) (by decide) (by decide) ?_
    show Steps p.tables e below (T44.setTop (mkF m 5 #[.val (.ref p0), .val (.int p1), .val (.int (15 : Int32)), .val (.int (16 : Int32))] [])) _
    refine XS.iloadN X44.here hx rfl (hb hby d4_5) rfl ?_
    show Steps p.tables e below (T44.setTop (mkF m 6 #[.val (.ref p0), .val (.int p1), .val (.int (15 : Int32)), .val (.int (16 : Int32))] [(.int (15 : Int32))])) _
    refine XS.iloadN X44.here hx rfl (hb hby d4_6) rfl ?_
    show Steps p.tables e below (T44.setTop (mkF m 7 #[.val (.ref p0), .val (.int p1), .val (.int (15 : Int32)), .val (.int (16 : Int32))] [(.int (16 : Int32)), (.int (15 : Int32))])) _
    refine XS.icmpNo X44.here hx rfl (hb hby d4_7) rfl (tlt (by decide)).2.1 ?_
    show Steps p.tables e below (T44.setTop (mkF m 10 #[.val (.ref p0), .val (.int p1), .val (.int (15 : Int32)), .val (.int (16 : Int32))] [])) _
    refine XS.aloadN X44.here hx rfl (hb hby d4_10) rfl rfl ?_
    show Steps p.tables e below (T44.setTop (mkF m 11 #[.val (.ref p0), .val (.int p1), .val (.int (15 : Int32)), .val (.int (16 : Int32))] [(.ref p0)])) _
    refine XS.iloadN X44.here hx rfl (hb hby d4_11) rfl ?_
    show Steps p.tables e below (T44.setTop (mkF m 12 #[.val (.ref p0), .val (.int p1), .val (.int (15 : Int32)), .val (.int (16 : Int32))] [(.int (15 : Int32)), (.ref p0)])) _
    refine XS.iloadN X44.here hx rfl (hb hby d4_12) rfl ?_
    exact kont
  obtain ⟨T47, h47, X47, e47, W47, V47, st47⟩ := own_stI X44 hx hZ e44 V44 (k := 15) (by decide) (by decide) (by decide) (fr := (mkF m 13 #[.val (.ref p0), .val (.int p1), .val (.int (15 : Int32)), .val (.int (16 : Int32))] [(.int p1), (.int (15 : Int32)), (.ref p0)])) rfl rfl (hb hby d4_13)
  obtain ⟨u13''''''''''''''', hu13'''''''''''''''⟩ : ∃ z : Nat → Int32, z = fun i => if i = 15 then p1 else u13'''''''''''''' i := ⟨_, rfl⟩
  replace V47 : own_arr Z h47 p0 .int 16 (fun i => .int (u13''''''''''''''' i)) := by rw [hu13''''''''''''''']; exact V47
  have K47 : Keep h0 h47 [p0] := (K44).wr W47 (Or.inl (List.mem_of_getElem? (i := 0) rfl))
  have Z47 : n0 ≤ h47.size := Nat.le_trans Z44 (Keep.of_wr W47).1
  have N47 := Fr.snoc X47 N44 gp
  have pre48 : ∀ t, Steps p.tables e below (T47.setTop (mkF m 14 #[.val (.ref p0), .val (.int p1), .val (.int (15 : Int32)), .val (.int (16 : Int32))] [])) t → Steps p.tables e below (s₁.setTop (entryFrame m #[(.ref p0), (.int p1)] 4)) t := fun t kont => pre46 t (st47 _ kont)
  have pre49 : ∀ t, Steps p.tables e below (T47.setTop (mkF m 20 #[.val (.ref p0), .val (.int p1), .val (.int (16 : Int32)), .val (.int (16 : Int32))] [])) t → Steps p.tables e below (s₁.setTop (entryFrame m #[(.ref p0), (.int p1)] 4)) t := by
    intro t kont
    refine pre48 t ?_
    show Steps p.tables e below (T47.setTop (mkF m 14 #[.val (.ref p0), .val (.int p1), .val (.int (15 : Int32)), .val (.int (16 : Int32))] [])) _
    refine XS.iinc X47.here hx rfl (hb hby d4_14) rfl (l' := #[.val (.ref p0), .val (.int p1), .val (.int (16 : Int32)), .val (.int (16 : Int32))]) rfl ?_
    show Steps p.tables e below (T47.setTop (mkF m 17 #[.val (.ref p0), .val (.int p1), .val (.int (16 : Int32)), .val (.int (16 : Int32))] [])) _
    refine XS.goto X47.here hx rfl (pc0 := 17) (pc' := 5) rfl (hb hby d4_17) (by decide) (by decide) ?_
    show Steps p.tables e below (T47.setTop (mkF m 5 #[.val (.ref p0), .val (.int p1), .val (.int (16 : Int32)), .val (.int (16 : Int32))] [])) _
    refine XS.iloadN X47.here hx rfl (hb hby d4_5) rfl ?_
    show Steps p.tables e below (T47.setTop (mkF m 6 #[.val (.ref p0), .val (.int p1), .val (.int (16 : Int32)), .val (.int (16 : Int32))] [(.int (16 : Int32))])) _
    refine XS.iloadN X47.here hx rfl (hb hby d4_6) rfl ?_
    show Steps p.tables e below (T47.setTop (mkF m 7 #[.val (.ref p0), .val (.int p1), .val (.int (16 : Int32)), .val (.int (16 : Int32))] [(.int (16 : Int32)), (.int (16 : Int32))])) _
    refine XS.icmpYes X47.here hx rfl (pc0 := 7) (pc' := 20) rfl (hb hby d4_7) rfl (flt (by decide)).2.1 (by decide) (by decide) ?_
    exact kont
  obtain ⟨fs, hr, hrun, hended, hW, hsame⟩ := X47.leave (v := none) (fun _ => rfl)
  refine ⟨_, _, pre49 _ ?_, hrun, hended, _, _, rfl, ?_, ⟨_, rfl⟩, hW, hsame.mono (by decide) (by decide)⟩
  · exact X47.returnOut hx Bd.returns (hb hby d4_20) hr
  · show Q4 Z p0 p1 g h0 n0 _ T47.heap _
    rw [e47]
    refine ⟨rfl, N47, K47, V47.to rfl (fun j hj => ?_)⟩
    rw [hu13''''''''''''''', hu13'''''''''''''', hu13''''''''''''', hu13'''''''''''', hu13''''''''''', hu13'''''''''', hu13''''''''', hu13'''''''', hu13''''''', hu13'''''', hu13''''', hu13'''', hu13''', hu13'', hu13', hu13]
    match j, hj with
    | 0, _ => rfl
    | 1, _ => rfl
    | 2, _ => rfl
    | 3, _ => rfl
    | 4, _ => rfl
    | 5, _ => rfl
    | 6, _ => rfl
    | 7, _ => rfl
    | 8, _ => rfl
    | 9, _ => rfl
    | 10, _ => rfl
    | 11, _ => rfl
    | 12, _ => rfl
    | 13, _ => rfl
    | 14, _ => rfl
    | 15, _ => rfl
    | j + 16, h => exact absurd h (by omega)
theorem d3_0 : decode prog_18_method_8_code 0 = .ok (.iload_n 0, 1) := by decide +kernel
theorem d3_1 : decode prog_18_method_8_code 1 = .ok (.newarray .int, 2) := by decide +kernel
theorem d3_3 : decode prog_18_method_8_code 3 = .ok (.astore_n 1, 1) := by decide +kernel
theorem d3_4 : decode prog_18_method_8_code 4 = .ok (.aload_n 1, 1) := by decide +kernel
theorem d3_5 : decode prog_18_method_8_code 5 = .ok (.ldc 43, 2) := by decide +kernel
theorem d3_7 : decode prog_18_method_8_code 7 = .ok (.invokestatic 67, 3) := by decide +kernel
theorem pd_0 : parseMethodDescriptor "([II)V" = some ⟨[(.array .int), .int], none⟩ := by decide +kernel
theorem d3_10 : decode prog_18_method_8_code 10 = .ok (.aload_n 1, 1) := by decide +kernel
theorem d3_11 : decode prog_18_method_8_code 11 = .ok (.areturn, 1) := by decide +kernel
theorem pn_3 : plainName "com/example/impronta/impronta/engine/Alignments" = true := by first | (simp [plainName, overriddenIn]; done) | decide +kernel
theorem ef_3 (m : MethodId) (x0 : Int32) : entryFrame m #[(.int x0)] 2 = mkF m 0 #[.val (.int x0), .unset] [] := by first | (simp [entryFrame, mkF, argsToLocals, Value.category]; done) | rfl
def Q3 (Z : State)  (h0 : Heap) (n0 : Nat) (v : Option Value) (h : Heap) (L : List Loc) : Prop := ∃ a, v = some (.ref a) ∧ h0.size ≤ a ∧ Fr n0 L ∧ Keep h0 h [] ∧ own_arr Z h a .int 16 (fun _ => .int (-2147483648 : Int32))
set_option maxRecDepth 65536 in
set_option maxHeartbeats 40000000 in
theorem rm3 (l : Launch) (Z : State) (a0 : Array Value) (hw : ∀ d ∈ tables_1, d.before a0 Z = true) (ws : List Jvm.Cond)  (h0 : Heap) (n0 : Nat) (Z0 : n0 ≤ h0.size) :
    MetFree l (⟨"com/example/impronta/impronta/engine/Alignments", "emptySlots", "(I)[I"⟩ : MethodName) (head1 (Jvm.Cond.code (⟨"com/example/impronta/impronta/engine/Alignments", "emptySlots", "(I)[I"⟩ : MethodName) prog_18_method_8_code 2 (some (.array .int)) :: ws) ({ frames := 1, cells := 1, slots := 16, locals := 15 } : Room)) (fun a U => a = #[(.int (16 : Int32))] ∧ Z.Warmed39 U.vm ∧ U.heap = h0) (fun _ _ _ _ _ => True) (fun _ U o U' => ∃ v L, o = .returned v ∧ Q3 Z  h0 n0 v U'.heap L ∧ FrameEnd U o U' L ({ frames := 1, cells := 1, slots := 16, locals := 15 } : Room).cells ({ frames := 1, cells := 1, slots := 16, locals := 15 } : Room).slots) := by
  refine MetFree.of_bodySF (plainFor_of_name pn_3) hisR ?_
  intro p e s m args below meth c s₁ Bd hml0 hP hK
  obtain ⟨rfl, hZ, hh⟩ := hP
  have hx := Bd.exec
  have hby := Bd.bytes
  have hml : c.maxLocals = 2 := hml0
  have hown : s.vm.findClass "com/example/impronta/impronta/engine/Alignments" = some m.cls := findClass_of_methodNamed Bd.named
  have hnm := (name_of_methodNamed Bd.named Bd.method).1
  have X0 : Stand p l e ({ frames := 1, cells := 1, slots := 16, locals := 15 } : Room) s m #[(.int (16 : Int32))] below meth c s₁ [] 0 0 := Stand.of_body Bd
  have e0 : s₁.heap = h0 := by rw [← hh, Bd.state]; rfl
  have N0 := Fr.nil n0
  have pre0 : ∀ t, Steps p.tables e below (s₁.setTop (mkF m 0 #[.val (.int (16 : Int32)), .unset] [])) t → Steps p.tables e below (s₁.setTop (entryFrame m #[(.int (16 : Int32))] 2)) t := fun t k => castTop (ef_3 m (16 : Int32)) k
  have pre50 : ∀ t, Steps p.tables e below (s₁.setTop (mkF m 1 #[.val (.int (16 : Int32)), .unset] [(.int (16 : Int32))])) t → Steps p.tables e below (s₁.setTop (entryFrame m #[(.int (16 : Int32))] 2)) t := by
    intro t kont
    refine pre0 t ?_
    show Steps p.tables e below (s₁.setTop (mkF m 0 #[.val (.int (16 : Int32)), .unset] [])) _
    refine XS.iloadN X0.here hx rfl (hb hby d3_0) rfl ?_
    exact kont
  obtain ⟨T51, h51, k51, X51, e51, E51, A51, st51⟩ := newP X0 hx hZ (hw _ (List.mem_of_getElem? (i := 9) rfl)) e0 (g := (mkF m 1 #[.val (.int (16 : Int32)), .unset] [(.int (16 : Int32))])) rfl (hb hby d3_1) rfl (by decide) (cap := 16) (by decide) (by decide) (by decide) (by decide)
  obtain ⟨b1, g51⟩ : ∃ z, z = h0.size := ⟨_, rfl⟩
  rw [← g51] at A51 st51
  have g_b1 : n0 ≤ b1 := Nat.le_trans Z0 (Nat.le_of_eq g51.symm)
  have sz_b1 : h0.size ≤ b1 := Nat.le_trans (Keep.refl h0 []).1 (Nat.le_of_eq g51.symm)
  have K51 : Keep h0 h51 [] := (Keep.refl h0 []).ext E51
  have V51 := own_arr.newI A51 (i := 16) rfl
  have Z51 : n0 ≤ h51.size := Nat.le_trans Z0 E51.1
  have pre52 : ∀ t, Steps p.tables e below (T51.setTop (mkF m 3 #[.val (.int (16 : Int32)), .unset] [(.ref b1)])) t → Steps p.tables e below (s₁.setTop (entryFrame m #[(.int (16 : Int32))] 2)) t := fun t kont => pre50 t (st51 _ kont)
  have pre53 : ∀ t, Steps p.tables e below (T51.setTop (mkF m 7 #[.val (.int (16 : Int32)), .val (.ref b1)] [(.int (-2147483648 : Int32)), (.ref b1)])) t → Steps p.tables e below (s₁.setTop (entryFrame m #[(.int (16 : Int32))] 2)) t := by
    intro t kont
    refine pre52 t ?_
    show Steps p.tables e below (T51.setTop (mkF m 3 #[.val (.int (16 : Int32)), .unset] [(.ref b1)])) _
    refine XS.astoreN X51.here hx rfl (hb hby d3_3) rfl rfl (l' := #[.val (.int (16 : Int32)), .val (.ref b1)]) rfl ?_
    show Steps p.tables e below (T51.setTop (mkF m 4 #[.val (.int (16 : Int32)), .val (.ref b1)] [])) _
    refine XS.aloadN X51.here hx rfl (hb hby d3_4) rfl rfl ?_
    show Steps p.tables e below (T51.setTop (mkF m 5 #[.val (.int (16 : Int32)), .val (.ref b1)] [(.ref b1)])) _
    refine X51.ldcInt hx hown (mvT hZ (hw _ (List.mem_of_getElem? (i := 15) rfl))) (g := (mkF m 5 #[.val (.int (16 : Int32)), .val (.ref b1)] [(.ref b1)])) rfl (hb hby d3_5) _ ?_
    exact kont
  obtain ⟨_, _, ⟨T54, L54, k54, n54⟩, -, X54, ⟨Lc54, hQ54, l54, y54, z54⟩, st54⟩ := Jvm.LawKit.callS X51 hx (y := (⟨"java/util/Arrays", "fill", "([II)V"⟩ : MethodName)) hown (mvT hZ (hw _ (List.mem_of_getElem? (i := 16) rfl))) (mvT hZ (hw _ (List.mem_of_getElem? (i := 17) rfl))) (mvT hZ (hw _ (List.mem_of_getElem? (i := 18) rfl))) (mvT hZ (hw _ (List.mem_of_getElem? (i := 19) rfl))) (by decide) (backOf (W := 0) (rm4 l Z a0 hw [] b1 (-2147483648 : Int32) (fun _ => (0 : Int32))  h51 n0 Z51 V51 g_b1) hZ (hw _ (List.mem_of_getElem? (i := 19) rfl)) (hw _ (List.mem_of_getElem? (i := 18) rfl)) (by decide) (by decide)) (g := (mkF m 7 #[.val (.int (16 : Int32)), .val (.ref b1)] [(.int (-2147483648 : Int32)), (.ref b1)])) rfl (by rw [hml]; rfl) (argsL := [(.ref b1), (.int (-2147483648 : Int32))]) (rest := []) (lenOf pd_0 rfl) rfl (by show 2 * 0 + _ ≤ _; exact Nat.le_of_eq rfl) (hb hby d3_7) (fun _ _ => ⟨rfl, e51, (by decide : 1 + 0 ≤ _), (by decide : 16 + 0 ≤ _)⟩)
  dsimp only [Pt.U, Pt.locs, Pt.cells, Pt.slots] at X54 l54 y54 z54 st54 hQ54
  subst l54 y54 z54
  obtain ⟨rfl, N54q, K54, V54⟩ := hQ54
  have N54 := Fr.app N0 N54q
  have Z54 : n0 ≤ T54.heap.size := Nat.le_trans Z51 (K54).1
  have KK54 : Keep h0 T54.heap [] := (K51).trans K54 (allS (Or.inr sz_b1) all0)
  have pre55 : ∀ t, Steps p.tables e below (T54.setTop (mkF m 10 #[.val (.int (16 : Int32)), .val (.ref b1)] [])) t → Steps p.tables e below (s₁.setTop (entryFrame m #[(.int (16 : Int32))] 2)) t := fun t kont => pre53 t (st54 _ kont)
  have pre56 : ∀ t, Steps p.tables e below (T54.setTop (mkF m 11 #[.val (.int (16 : Int32)), .val (.ref b1)] [(.ref b1)])) t → Steps p.tables e below (s₁.setTop (entryFrame m #[(.int (16 : Int32))] 2)) t := by
    intro t kont
    refine pre55 t ?_
    show Steps p.tables e below (T54.setTop (mkF m 10 #[.val (.int (16 : Int32)), .val (.ref b1)] [])) _
    refine XS.aloadN X54.here hx rfl (hb hby d3_10) rfl rfl ?_
    exact kont
  obtain ⟨fs, hr, hrun, hended, hW, hsame⟩ := X54.leave (v := some (.ref b1)) (fun h => by rw [Bd.returns] at h; cases h)
  refine ⟨_, _, pre56 _ ?_, hrun, hended, _, _, rfl, ?_, ⟨_, rfl⟩, hW, hsame.mono (by decide) (by decide)⟩
  · jvm_step X54.here [X54.here.top, hx, (hb hby d3_11), X54.method', Bd.returns, Value.isRef, FieldType.isReference]
    first | (intro acts; rw [hr _ acts rfl rfl rfl]) | rw [hr _ _ rfl rfl rfl]
    exact Steps.refl _
  · show Q3 Z  h0 n0 _ T54.heap _
    exact ⟨_, rfl, sz_b1, N54, KK54, V54⟩
theorem d1_0 : decode prog_18_method_1_code 0 = .ok (.aload_n 0, 1) := by decide +kernel
theorem d1_1 : decode prog_18_method_1_code 1 = .ok (.invokespecial 3, 3) := by decide +kernel
theorem d1_4 : decode prog_18_method_1_code 4 = .ok (.aload_n 0, 1) := by decide +kernel
theorem d1_5 : decode prog_18_method_1_code 5 = .ok (.iconst 0, 1) := by decide +kernel
theorem d1_6 : decode prog_18_method_1_code 6 = .ok (.newarray .int, 2) := by decide +kernel
theorem d1_8 : decode prog_18_method_1_code 8 = .ok (.putfield 9, 3) := by decide +kernel
theorem d1_11 : decode prog_18_method_1_code 11 = .ok (.aload_n 0, 1) := by decide +kernel
theorem d1_12 : decode prog_18_method_1_code 12 = .ok (.bipush 16, 2) := by decide +kernel
theorem d1_14 : decode prog_18_method_1_code 14 = .ok (.invokestatic 15, 3) := by decide +kernel
theorem pd_1 : parseMethodDescriptor "(I)[I" = some ⟨[.int], some (.array .int)⟩ := by decide +kernel
theorem d1_17 : decode prog_18_method_1_code 17 = .ok (.putfield 19, 3) := by decide +kernel
theorem d1_20 : decode prog_18_method_1_code 20 = .ok (.aload_n 0, 1) := by decide +kernel
theorem d1_21 : decode prog_18_method_1_code 21 = .ok (.bipush 16, 2) := by decide +kernel
theorem d1_23 : decode prog_18_method_1_code 23 = .ok (.newarray .int, 2) := by decide +kernel
theorem d1_25 : decode prog_18_method_1_code 25 = .ok (.putfield 22, 3) := by decide +kernel
theorem d1_28 : decode prog_18_method_1_code 28 = .ok (.aload_n 0, 1) := by decide +kernel
theorem d1_29 : decode prog_18_method_1_code 29 = .ok (.bipush 28, 2) := by decide +kernel
theorem d1_31 : decode prog_18_method_1_code 31 = .ok (.putfield 25, 3) := by decide +kernel
theorem d1_34 : decode prog_18_method_1_code 34 = .ok (.aload_n 0, 1) := by decide +kernel
theorem d1_35 : decode prog_18_method_1_code 35 = .ok (.bipush 8, 2) := by decide +kernel
theorem d1_37 : decode prog_18_method_1_code 37 = .ok (.newarray .int, 2) := by decide +kernel
theorem d1_39 : decode prog_18_method_1_code 39 = .ok (.putfield 29, 3) := by decide +kernel
theorem d1_42 : decode prog_18_method_1_code 42 = .ok (.aload_n 0, 1) := by decide +kernel
theorem d1_43 : decode prog_18_method_1_code 43 = .ok (.iload_n 1, 1) := by decide +kernel
theorem d1_44 : decode prog_18_method_1_code 44 = .ok (.putfield 32, 3) := by decide +kernel
theorem d1_47 : decode prog_18_method_1_code 47 = .ok (.return_, 1) := by decide +kernel
theorem ef_1 (m : MethodId) (x0 : Addr) (x1 : Int32) : entryFrame m #[(.ref x0), (.int x1)] 2 = mkF m 0 #[.val (.ref x0), .val (.int x1)] [] := by first | (simp [entryFrame, mkF, argsToLocals, Value.category]; done) | rfl
def Q1 (Z : State) (p0 : Addr) (p1 : Int32) (h0 : Heap) (n0 : Nat) (v : Option Value) (h : Heap) (L : List Loc) : Prop := v = none ∧ Fr n0 L ∧ n0 ≤ h.size ∧ ∃ be ba bn bf : Addr, own_al Z h n0 p0 be ba bn bf p1 (0 : Int32) (0 : Int32) (0 : Int32) 0 (fun _ => (0 : Int32)) (fun _ => (-2147483648 : Int32)) (fun _ => (0 : Int32)) (fun _ => (0 : Int32))
set_option maxRecDepth 65536 in
set_option maxHeartbeats 40000000 in
theorem rm1 (l : Launch) (Z : State) (a0 : Array Value) (hw : ∀ d ∈ tables_1, d.before a0 Z = true) (ws : List Jvm.Cond) (p0 : Addr) (p1 : Int32) (h0 : Heap) (n0 : Nat) (Z0 : n0 ≤ h0.size) (Ep : Exa Z h0 p0 "com/example/impronta/impronta/engine/Alignments") (F_direct : Fld Z h0 p0 "com/example/impronta/impronta/engine/Alignments" "direct" "I" (.int (0 : Int32))) (F_ownSlots : Fld Z h0 p0 "com/example/impronta/impronta/engine/Alignments" "ownSlots" "Z" (.int (0 : Int32))) (F_lowest : Fld Z h0 p0 "com/example/impronta/impronta/engine/Alignments" "lowest" "I" (.int (0 : Int32))) (F_size : Fld Z h0 p0 "com/example/impronta/impronta/engine/Alignments" "size" "I" (.int (0 : Int32))) (F_shift : Fld Z h0 p0 "com/example/impronta/impronta/engine/Alignments" "shift" "I" (.int (0 : Int32))) (F_endsByAlignment : Fld Z h0 p0 "com/example/impronta/impronta/engine/Alignments" "endsByAlignment" "[I" .null) (F_alignments : Fld Z h0 p0 "com/example/impronta/impronta/engine/Alignments" "alignments" "[I" .null) (F_ends : Fld Z h0 p0 "com/example/impronta/impronta/engine/Alignments" "ends" "[I" .null) (F_filled : Fld Z h0 p0 "com/example/impronta/impronta/engine/Alignments" "filled" "[I" .null) (gp : n0 ≤ p0) :
    MetFree l (⟨"com/example/impronta/impronta/engine/Alignments", "<init>", "(I)V"⟩ : MethodName) (head1 (Jvm.Cond.code (⟨"com/example/impronta/impronta/engine/Alignments", "<init>", "(I)V"⟩ : MethodName) prog_18_method_1_code 2 none :: ws) ({ frames := 2, cells := 4, slots := 40, locals := 29 } : Room)) (fun a U => a = #[(.ref p0), (.int p1)] ∧ Z.Warmed39 U.vm ∧ U.heap = h0) (fun _ _ _ _ _ => True) (fun _ U o U' => ∃ v L, o = .returned v ∧ Q1 Z p0 p1 h0 n0 v U'.heap L ∧ FrameEnd U o U' L ({ frames := 2, cells := 4, slots := 40, locals := 29 } : Room).cells ({ frames := 2, cells := 4, slots := 40, locals := 29 } : Room).slots) := by
  refine MetFree.of_bodySF (plainFor_of_name pn_3) hisR ?_
  intro p e s m args below meth c s₁ Bd hml0 hP hK
  obtain ⟨rfl, hZ, hh⟩ := hP
  have hx := Bd.exec
  have hby := Bd.bytes
  have hml : c.maxLocals = 2 := hml0
  have hown : s.vm.findClass "com/example/impronta/impronta/engine/Alignments" = some m.cls := findClass_of_methodNamed Bd.named
  have hnm := (name_of_methodNamed Bd.named Bd.method).1
  have X0 : Stand p l e ({ frames := 2, cells := 4, slots := 40, locals := 29 } : Room) s m #[(.ref p0), (.int p1)] below meth c s₁ [] 0 0 := Stand.of_body Bd
  have e0 : s₁.heap = h0 := by rw [← hh, Bd.state]; rfl
  have N0 := Fr.nil n0
  have pre0 : ∀ t, Steps p.tables e below (s₁.setTop (mkF m 0 #[.val (.ref p0), .val (.int p1)] [])) t → Steps p.tables e below (s₁.setTop (entryFrame m #[(.ref p0), (.int p1)] 2)) t := fun t k => castTop (ef_1 m p0 p1) k
  have pre57 : ∀ t, Steps p.tables e below (s₁.setTop (mkF m 1 #[.val (.ref p0), .val (.int p1)] [(.ref p0)])) t → Steps p.tables e below (s₁.setTop (entryFrame m #[(.ref p0), (.int p1)] 2)) t := by
    intro t kont
    refine pre0 t ?_
    show Steps p.tables e below (s₁.setTop (mkF m 0 #[.val (.ref p0), .val (.int p1)] [])) _
    refine XS.aloadN X0.here hx rfl (hb hby d1_0) rfl rfl ?_
    exact kont
  obtain ⟨T58, X58, e58, st58⟩ := initO X0 hx hZ hown (hw _ (List.mem_of_getElem? (i := 6) rfl)) (hw _ (List.mem_of_getElem? (i := 7) rfl)) (hw _ (List.mem_of_getElem? (i := 8) rfl)) e0 (g := (mkF m 1 #[.val (.ref p0), .val (.int p1)] [(.ref p0)])) rfl (by rw [hml]; rfl) rfl (hb hby d1_1) (by decide) (W := 0) (by show 2 * 0 + _ ≤ _; exact Nat.le_of_eq rfl) (by decide)
  have pre59 : ∀ t, Steps p.tables e below (T58.setTop (mkF m 4 #[.val (.ref p0), .val (.int p1)] [])) t → Steps p.tables e below (s₁.setTop (entryFrame m #[(.ref p0), (.int p1)] 2)) t := fun t kont => pre57 t (st58 _ kont)
  have pre60 : ∀ t, Steps p.tables e below (T58.setTop (mkF m 6 #[.val (.ref p0), .val (.int p1)] [(.int (0 : Int32)), (.ref p0)])) t → Steps p.tables e below (s₁.setTop (entryFrame m #[(.ref p0), (.int p1)] 2)) t := by
    intro t kont
    refine pre59 t ?_
    show Steps p.tables e below (T58.setTop (mkF m 4 #[.val (.ref p0), .val (.int p1)] [])) _
    refine XS.aloadN X58.here hx rfl (hb hby d1_4) rfl rfl ?_
    show Steps p.tables e below (T58.setTop (mkF m 5 #[.val (.ref p0), .val (.int p1)] [(.ref p0)])) _
    refine XS.iconst X58.here hx rfl (hb hby d1_5) ?_
    exact kont
  obtain ⟨T61, h61, k61, X61, e61, E61, A61, st61⟩ := newP X58 hx hZ (hw _ (List.mem_of_getElem? (i := 9) rfl)) e58 (g := (mkF m 6 #[.val (.ref p0), .val (.int p1)] [(.int (0 : Int32)), (.ref p0)])) rfl (hb hby d1_6) rfl (by decide) (cap := 0) (by decide) (by decide) (by decide) (by decide)
  obtain ⟨b6, g61⟩ : ∃ z, z = h0.size := ⟨_, rfl⟩
  rw [← g61] at A61 st61
  have g_b6 : n0 ≤ b6 := Nat.le_trans Z0 (Nat.le_of_eq g61.symm)
  have ne_p0_b6 : p0 ≠ b6 := Nat.ne_of_lt (Nat.lt_of_lt_of_le (Ep).lt (Nat.le_of_eq g61.symm))
  have f61_0 := Exa.ext E61 Ep
  have f61_1 := Fld.ext E61 F_direct
  have f61_2 := Fld.ext E61 F_ownSlots
  have f61_3 := Fld.ext E61 F_lowest
  have f61_4 := Fld.ext E61 F_size
  have f61_5 := Fld.ext E61 F_shift
  have f61_6 := Fld.ext E61 F_endsByAlignment
  have f61_7 := Fld.ext E61 F_alignments
  have f61_8 := Fld.ext E61 F_ends
  have f61_9 := Fld.ext E61 F_filled
  have V61 := own_arr.newI A61 (i := 0) rfl
  have Z61 : n0 ≤ h61.size := Nat.le_trans Z0 E61.1
  have pre62 : ∀ t, Steps p.tables e below (T61.setTop (mkF m 8 #[.val (.ref p0), .val (.int p1)] [(.ref b6), (.ref p0)])) t → Steps p.tables e below (s₁.setTop (entryFrame m #[(.ref p0), (.int p1)] 2)) t := fun t kont => pre60 t (st61 _ kont)
  obtain ⟨T63, h63, X63, e63, W63, st63⟩ := putF X61 hx hZ hown (host := "") (Or.inl (hw _ (List.mem_of_getElem? (i := 10) rfl))) Via.refl e61 f61_6 f61_0 (Or.inl (hw _ (List.mem_of_getElem? (i := 11) rfl))) (hw _ (List.mem_of_getElem? (i := 1) rfl)) (ty := (.array .int)) (by decide) rfl rfl (g := (mkF m 8 #[.val (.ref p0), .val (.int p1)] [(.ref b6), (.ref p0)])) rfl rfl (hb hby d1_8)
  have f63_0 := Exa.wr W63 f61_0
  have f63_1 := Fld.other W63 f61_1 (Or.inr (slot_ne (Or.inr (hw _ (List.mem_of_getElem? (i := 29) rfl))) (Or.inl (hw _ (List.mem_of_getElem? (i := 11) rfl))) (by decide) (t := .int) (t' := (.array .int)) (by decide) (by decide)))
  have f63_2 := Fld.other W63 f61_2 (Or.inr (slot_ne (Or.inl (hw _ (List.mem_of_getElem? (i := 36) rfl))) (Or.inl (hw _ (List.mem_of_getElem? (i := 11) rfl))) (by decide) (t := .boolean) (t' := (.array .int)) (by decide) (by decide)))
  have f63_3 := Fld.other W63 f61_3 (Or.inr (slot_ne (Or.inl (hw _ (List.mem_of_getElem? (i := 38) rfl))) (Or.inl (hw _ (List.mem_of_getElem? (i := 11) rfl))) (by decide) (t := .int) (t' := (.array .int)) (by decide) (by decide)))
  have f63_4 := Fld.other W63 f61_4 (Or.inr (slot_ne (Or.inl (hw _ (List.mem_of_getElem? (i := 45) rfl))) (Or.inl (hw _ (List.mem_of_getElem? (i := 11) rfl))) (by decide) (t := .int) (t' := (.array .int)) (by decide) (by decide)))
  have f63_5 := Fld.other W63 f61_5 (Or.inr (slot_ne (Or.inl (hw _ (List.mem_of_getElem? (i := 25) rfl))) (Or.inl (hw _ (List.mem_of_getElem? (i := 11) rfl))) (by decide) (t := .int) (t' := (.array .int)) (by decide) (by decide)))
  have f63_6 := Fld.same W63 f61_6
  have f63_7 := Fld.other W63 f61_7 (Or.inr (slot_ne (Or.inl (hw _ (List.mem_of_getElem? (i := 21) rfl))) (Or.inl (hw _ (List.mem_of_getElem? (i := 11) rfl))) (by decide) (t := (.array .int)) (t' := (.array .int)) (by decide) (by decide)))
  have f63_8 := Fld.other W63 f61_8 (Or.inr (slot_ne (Or.inl (hw _ (List.mem_of_getElem? (i := 23) rfl))) (Or.inl (hw _ (List.mem_of_getElem? (i := 11) rfl))) (by decide) (t := (.array .int)) (t' := (.array .int)) (by decide) (by decide)))
  have f63_9 := Fld.other W63 f61_9 (Or.inr (slot_ne (Or.inl (hw _ (List.mem_of_getElem? (i := 27) rfl))) (Or.inl (hw _ (List.mem_of_getElem? (i := 11) rfl))) (by decide) (t := (.array .int)) (t' := (.array .int)) (by decide) (by decide)))
  have f63_10 := V61.other W63 (Ne.symm ne_p0_b6)
  have Z63 : n0 ≤ h63.size := Nat.le_trans Z61 (Keep.of_wr W63).1
  have N63 := Fr.snoc X63 N0 gp
  have pre64 : ∀ t, Steps p.tables e below (T63.setTop (mkF m 11 #[.val (.ref p0), .val (.int p1)] [])) t → Steps p.tables e below (s₁.setTop (entryFrame m #[(.ref p0), (.int p1)] 2)) t := fun t kont => pre62 t (st63 _ kont)
  have pre65 : ∀ t, Steps p.tables e below (T63.setTop (mkF m 14 #[.val (.ref p0), .val (.int p1)] [(.int (16 : Int32)), (.ref p0)])) t → Steps p.tables e below (s₁.setTop (entryFrame m #[(.ref p0), (.int p1)] 2)) t := by
    intro t kont
    refine pre64 t ?_
    show Steps p.tables e below (T63.setTop (mkF m 11 #[.val (.ref p0), .val (.int p1)] [])) _
    refine XS.aloadN X63.here hx rfl (hb hby d1_11) rfl rfl ?_
    show Steps p.tables e below (T63.setTop (mkF m 12 #[.val (.ref p0), .val (.int p1)] [(.ref p0)])) _
    refine XS.bipush X63.here hx rfl (hb hby d1_12) ?_
    exact kont
  obtain ⟨_, _, ⟨T66, L66, k66, n66⟩, -, X66, ⟨Lc66, hQ66, l66, y66, z66⟩, st66⟩ := Jvm.LawKit.callS X63 hx (y := (⟨"com/example/impronta/impronta/engine/Alignments", "emptySlots", "(I)[I"⟩ : MethodName)) hown (mvT hZ (hw _ (List.mem_of_getElem? (i := 12) rfl))) (mvT hZ (hw _ (List.mem_of_getElem? (i := 13) rfl))) (mvT hZ (hw _ (List.mem_of_getElem? (i := 2) rfl))) (mvT hZ (hw _ (List.mem_of_getElem? (i := 14) rfl))) (by decide) (backOf (W := 1) (rm3 l Z a0 hw []   h63 n0 Z63) hZ (hw _ (List.mem_of_getElem? (i := 14) rfl)) (hw _ (List.mem_of_getElem? (i := 2) rfl)) (by decide) (by decide)) (g := (mkF m 14 #[.val (.ref p0), .val (.int p1)] [(.int (16 : Int32)), (.ref p0)])) rfl (by rw [hml]; rfl) (argsL := [(.int (16 : Int32))]) (rest := [(.ref p0)]) (lenOf pd_1 rfl) rfl (by show 2 * 0 + _ ≤ _; exact Nat.le_of_eq rfl) (hb hby d1_14) (fun _ _ => ⟨rfl, e63, (by decide : 1 + 1 ≤ _), (by decide : 0 + 16 ≤ _)⟩)
  dsimp only [Pt.U, Pt.locs, Pt.cells, Pt.slots] at X66 l66 y66 z66 st66 hQ66
  subst l66 y66 z66
  obtain ⟨bs66, rfl, S66, N66q, K66, V66⟩ := hQ66
  have N66 := Fr.app N63 N66q
  have g_bs66 : n0 ≤ bs66 := Nat.le_trans Z63 S66
  have ne_p0_bs66 : p0 ≠ bs66 := Nat.ne_of_lt (Nat.lt_of_lt_of_le (f63_0).lt S66)
  have ne_b6_bs66 : b6 ≠ bs66 := Nat.ne_of_lt (Nat.lt_of_lt_of_le (f63_10).lt S66)
  have f66_0 := Exa.keep f63_0 K66
  have f66_1 := Fld.keep f63_1 K66 nin0
  have f66_2 := Fld.keep f63_2 K66 nin0
  have f66_3 := Fld.keep f63_3 K66 nin0
  have f66_4 := Fld.keep f63_4 K66 nin0
  have f66_5 := Fld.keep f63_5 K66 nin0
  have f66_6 := Fld.keep f63_6 K66 nin0
  have f66_7 := Fld.keep f63_7 K66 nin0
  have f66_8 := Fld.keep f63_8 K66 nin0
  have f66_9 := Fld.keep f63_9 K66 nin0
  have f66_10 := f63_10.keep K66 nin0
  have Z66 : n0 ≤ T66.heap.size := Nat.le_trans Z63 (K66).1
  have pre67 : ∀ t, Steps p.tables e below (T66.setTop (mkF m 17 #[.val (.ref p0), .val (.int p1)] [(.ref bs66), (.ref p0)])) t → Steps p.tables e below (s₁.setTop (entryFrame m #[(.ref p0), (.int p1)] 2)) t := fun t kont => pre65 t (st66 _ kont)
  obtain ⟨T68, h68, X68, e68, W68, st68⟩ := putF X66 hx hZ hown (host := "") (Or.inl (hw _ (List.mem_of_getElem? (i := 20) rfl))) Via.refl rfl f66_7 f66_0 (Or.inl (hw _ (List.mem_of_getElem? (i := 21) rfl))) (hw _ (List.mem_of_getElem? (i := 1) rfl)) (ty := (.array .int)) (by decide) rfl rfl (g := (mkF m 17 #[.val (.ref p0), .val (.int p1)] [(.ref bs66), (.ref p0)])) rfl rfl (hb hby d1_17)
  have f68_0 := Exa.wr W68 f66_0
  have f68_1 := Fld.other W68 f66_1 (Or.inr (slot_ne (Or.inr (hw _ (List.mem_of_getElem? (i := 29) rfl))) (Or.inl (hw _ (List.mem_of_getElem? (i := 21) rfl))) (by decide) (t := .int) (t' := (.array .int)) (by decide) (by decide)))
  have f68_2 := Fld.other W68 f66_2 (Or.inr (slot_ne (Or.inl (hw _ (List.mem_of_getElem? (i := 36) rfl))) (Or.inl (hw _ (List.mem_of_getElem? (i := 21) rfl))) (by decide) (t := .boolean) (t' := (.array .int)) (by decide) (by decide)))
  have f68_3 := Fld.other W68 f66_3 (Or.inr (slot_ne (Or.inl (hw _ (List.mem_of_getElem? (i := 38) rfl))) (Or.inl (hw _ (List.mem_of_getElem? (i := 21) rfl))) (by decide) (t := .int) (t' := (.array .int)) (by decide) (by decide)))
  have f68_4 := Fld.other W68 f66_4 (Or.inr (slot_ne (Or.inl (hw _ (List.mem_of_getElem? (i := 45) rfl))) (Or.inl (hw _ (List.mem_of_getElem? (i := 21) rfl))) (by decide) (t := .int) (t' := (.array .int)) (by decide) (by decide)))
  have f68_5 := Fld.other W68 f66_5 (Or.inr (slot_ne (Or.inl (hw _ (List.mem_of_getElem? (i := 25) rfl))) (Or.inl (hw _ (List.mem_of_getElem? (i := 21) rfl))) (by decide) (t := .int) (t' := (.array .int)) (by decide) (by decide)))
  have f68_6 := Fld.other W68 f66_6 (Or.inr (slot_ne (Or.inl (hw _ (List.mem_of_getElem? (i := 11) rfl))) (Or.inl (hw _ (List.mem_of_getElem? (i := 21) rfl))) (by decide) (t := (.array .int)) (t' := (.array .int)) (by decide) (by decide)))
  have f68_7 := Fld.same W68 f66_7
  have f68_8 := Fld.other W68 f66_8 (Or.inr (slot_ne (Or.inl (hw _ (List.mem_of_getElem? (i := 23) rfl))) (Or.inl (hw _ (List.mem_of_getElem? (i := 21) rfl))) (by decide) (t := (.array .int)) (t' := (.array .int)) (by decide) (by decide)))
  have f68_9 := Fld.other W68 f66_9 (Or.inr (slot_ne (Or.inl (hw _ (List.mem_of_getElem? (i := 27) rfl))) (Or.inl (hw _ (List.mem_of_getElem? (i := 21) rfl))) (by decide) (t := (.array .int)) (t' := (.array .int)) (by decide) (by decide)))
  have f68_10 := f66_10.other W68 (Ne.symm ne_p0_b6)
  have f68_11 := V66.other W68 (Ne.symm ne_p0_bs66)
  have Z68 : n0 ≤ h68.size := Nat.le_trans Z66 (Keep.of_wr W68).1
  have N68 := Fr.snoc X68 N66 gp
  have pre69 : ∀ t, Steps p.tables e below (T68.setTop (mkF m 20 #[.val (.ref p0), .val (.int p1)] [])) t → Steps p.tables e below (s₁.setTop (entryFrame m #[(.ref p0), (.int p1)] 2)) t := fun t kont => pre67 t (st68 _ kont)
  have pre70 : ∀ t, Steps p.tables e below (T68.setTop (mkF m 23 #[.val (.ref p0), .val (.int p1)] [(.int (16 : Int32)), (.ref p0)])) t → Steps p.tables e below (s₁.setTop (entryFrame m #[(.ref p0), (.int p1)] 2)) t := by
    intro t kont
    refine pre69 t ?_
    show Steps p.tables e below (T68.setTop (mkF m 20 #[.val (.ref p0), .val (.int p1)] [])) _
    refine XS.aloadN X68.here hx rfl (hb hby d1_20) rfl rfl ?_
    show Steps p.tables e below (T68.setTop (mkF m 21 #[.val (.ref p0), .val (.int p1)] [(.ref p0)])) _
    refine XS.bipush X68.here hx rfl (hb hby d1_21) ?_
    exact kont
  obtain ⟨T71, h71, k71, X71, e71, E71, A71, st71⟩ := newP X68 hx hZ (hw _ (List.mem_of_getElem? (i := 9) rfl)) e68 (g := (mkF m 23 #[.val (.ref p0), .val (.int p1)] [(.int (16 : Int32)), (.ref p0)])) rfl (hb hby d1_23) rfl (by decide) (cap := 16) (by decide) (by decide) (by decide) (by decide)
  obtain ⟨b23, g71⟩ : ∃ z, z = h68.size := ⟨_, rfl⟩
  rw [← g71] at A71 st71
  have g_b23 : n0 ≤ b23 := Nat.le_trans Z68 (Nat.le_of_eq g71.symm)
  have ne_p0_b23 : p0 ≠ b23 := Nat.ne_of_lt (Nat.lt_of_lt_of_le (f68_0).lt (Nat.le_of_eq g71.symm))
  have ne_b6_b23 : b6 ≠ b23 := Nat.ne_of_lt (Nat.lt_of_lt_of_le (f68_10).lt (Nat.le_of_eq g71.symm))
  have ne_bs66_b23 : bs66 ≠ b23 := Nat.ne_of_lt (Nat.lt_of_lt_of_le (f68_11).lt (Nat.le_of_eq g71.symm))
  have f71_0 := Exa.ext E71 f68_0
  have f71_1 := Fld.ext E71 f68_1
  have f71_2 := Fld.ext E71 f68_2
  have f71_3 := Fld.ext E71 f68_3
  have f71_4 := Fld.ext E71 f68_4
  have f71_5 := Fld.ext E71 f68_5
  have f71_6 := Fld.ext E71 f68_6
  have f71_7 := Fld.ext E71 f68_7
  have f71_8 := Fld.ext E71 f68_8
  have f71_9 := Fld.ext E71 f68_9
  have f71_10 := f68_10.ext E71
  have f71_11 := f68_11.ext E71
  have V71 := own_arr.newI A71 (i := 16) rfl
  have Z71 : n0 ≤ h71.size := Nat.le_trans Z68 E71.1
  have pre72 : ∀ t, Steps p.tables e below (T71.setTop (mkF m 25 #[.val (.ref p0), .val (.int p1)] [(.ref b23), (.ref p0)])) t → Steps p.tables e below (s₁.setTop (entryFrame m #[(.ref p0), (.int p1)] 2)) t := fun t kont => pre70 t (st71 _ kont)
  obtain ⟨T73, h73, X73, e73, W73, st73⟩ := putF X71 hx hZ hown (host := "") (Or.inl (hw _ (List.mem_of_getElem? (i := 22) rfl))) Via.refl e71 f71_8 f71_0 (Or.inl (hw _ (List.mem_of_getElem? (i := 23) rfl))) (hw _ (List.mem_of_getElem? (i := 1) rfl)) (ty := (.array .int)) (by decide) rfl rfl (g := (mkF m 25 #[.val (.ref p0), .val (.int p1)] [(.ref b23), (.ref p0)])) rfl rfl (hb hby d1_25)
  have f73_0 := Exa.wr W73 f71_0
  have f73_1 := Fld.other W73 f71_1 (Or.inr (slot_ne (Or.inr (hw _ (List.mem_of_getElem? (i := 29) rfl))) (Or.inl (hw _ (List.mem_of_getElem? (i := 23) rfl))) (by decide) (t := .int) (t' := (.array .int)) (by decide) (by decide)))
  have f73_2 := Fld.other W73 f71_2 (Or.inr (slot_ne (Or.inl (hw _ (List.mem_of_getElem? (i := 36) rfl))) (Or.inl (hw _ (List.mem_of_getElem? (i := 23) rfl))) (by decide) (t := .boolean) (t' := (.array .int)) (by decide) (by decide)))
  have f73_3 := Fld.other W73 f71_3 (Or.inr (slot_ne (Or.inl (hw _ (List.mem_of_getElem? (i := 38) rfl))) (Or.inl (hw _ (List.mem_of_getElem? (i := 23) rfl))) (by decide) (t := .int) (t' := (.array .int)) (by decide) (by decide)))
  have f73_4 := Fld.other W73 f71_4 (Or.inr (slot_ne (Or.inl (hw _ (List.mem_of_getElem? (i := 45) rfl))) (Or.inl (hw _ (List.mem_of_getElem? (i := 23) rfl))) (by decide) (t := .int) (t' := (.array .int)) (by decide) (by decide)))
  have f73_5 := Fld.other W73 f71_5 (Or.inr (slot_ne (Or.inl (hw _ (List.mem_of_getElem? (i := 25) rfl))) (Or.inl (hw _ (List.mem_of_getElem? (i := 23) rfl))) (by decide) (t := .int) (t' := (.array .int)) (by decide) (by decide)))
  have f73_6 := Fld.other W73 f71_6 (Or.inr (slot_ne (Or.inl (hw _ (List.mem_of_getElem? (i := 11) rfl))) (Or.inl (hw _ (List.mem_of_getElem? (i := 23) rfl))) (by decide) (t := (.array .int)) (t' := (.array .int)) (by decide) (by decide)))
  have f73_7 := Fld.other W73 f71_7 (Or.inr (slot_ne (Or.inl (hw _ (List.mem_of_getElem? (i := 21) rfl))) (Or.inl (hw _ (List.mem_of_getElem? (i := 23) rfl))) (by decide) (t := (.array .int)) (t' := (.array .int)) (by decide) (by decide)))
  have f73_8 := Fld.same W73 f71_8
  have f73_9 := Fld.other W73 f71_9 (Or.inr (slot_ne (Or.inl (hw _ (List.mem_of_getElem? (i := 27) rfl))) (Or.inl (hw _ (List.mem_of_getElem? (i := 23) rfl))) (by decide) (t := (.array .int)) (t' := (.array .int)) (by decide) (by decide)))
  have f73_10 := f71_10.other W73 (Ne.symm ne_p0_b6)
  have f73_11 := f71_11.other W73 (Ne.symm ne_p0_bs66)
  have f73_12 := V71.other W73 (Ne.symm ne_p0_b23)
  have Z73 : n0 ≤ h73.size := Nat.le_trans Z71 (Keep.of_wr W73).1
  have N73 := Fr.snoc X73 N68 gp
  have pre74 : ∀ t, Steps p.tables e below (T73.setTop (mkF m 28 #[.val (.ref p0), .val (.int p1)] [])) t → Steps p.tables e below (s₁.setTop (entryFrame m #[(.ref p0), (.int p1)] 2)) t := fun t kont => pre72 t (st73 _ kont)
  have pre75 : ∀ t, Steps p.tables e below (T73.setTop (mkF m 31 #[.val (.ref p0), .val (.int p1)] [(.int (28 : Int32)), (.ref p0)])) t → Steps p.tables e below (s₁.setTop (entryFrame m #[(.ref p0), (.int p1)] 2)) t := by
    intro t kont
    refine pre74 t ?_
    show Steps p.tables e below (T73.setTop (mkF m 28 #[.val (.ref p0), .val (.int p1)] [])) _
    refine XS.aloadN X73.here hx rfl (hb hby d1_28) rfl rfl ?_
    show Steps p.tables e below (T73.setTop (mkF m 29 #[.val (.ref p0), .val (.int p1)] [(.ref p0)])) _
    refine XS.bipush X73.here hx rfl (hb hby d1_29) ?_
    exact kont
  obtain ⟨T76, h76, X76, e76, W76, st76⟩ := putF X73 hx hZ hown (host := "") (Or.inl (hw _ (List.mem_of_getElem? (i := 24) rfl))) Via.refl e73 f73_5 f73_0 (Or.inl (hw _ (List.mem_of_getElem? (i := 25) rfl))) (hw _ (List.mem_of_getElem? (i := 1) rfl)) (ty := .int) (by decide) rfl rfl (g := (mkF m 31 #[.val (.ref p0), .val (.int p1)] [(.int (28 : Int32)), (.ref p0)])) rfl rfl (hb hby d1_31)
  have f76_0 := Exa.wr W76 f73_0
  have f76_1 := Fld.other W76 f73_1 (Or.inr (slot_ne (Or.inr (hw _ (List.mem_of_getElem? (i := 29) rfl))) (Or.inl (hw _ (List.mem_of_getElem? (i := 25) rfl))) (by decide) (t := .int) (t' := .int) (by decide) (by decide)))
  have f76_2 := Fld.other W76 f73_2 (Or.inr (slot_ne (Or.inl (hw _ (List.mem_of_getElem? (i := 36) rfl))) (Or.inl (hw _ (List.mem_of_getElem? (i := 25) rfl))) (by decide) (t := .boolean) (t' := .int) (by decide) (by decide)))
  have f76_3 := Fld.other W76 f73_3 (Or.inr (slot_ne (Or.inl (hw _ (List.mem_of_getElem? (i := 38) rfl))) (Or.inl (hw _ (List.mem_of_getElem? (i := 25) rfl))) (by decide) (t := .int) (t' := .int) (by decide) (by decide)))
  have f76_4 := Fld.other W76 f73_4 (Or.inr (slot_ne (Or.inl (hw _ (List.mem_of_getElem? (i := 45) rfl))) (Or.inl (hw _ (List.mem_of_getElem? (i := 25) rfl))) (by decide) (t := .int) (t' := .int) (by decide) (by decide)))
  have f76_5 := Fld.same W76 f73_5
  have f76_6 := Fld.other W76 f73_6 (Or.inr (slot_ne (Or.inl (hw _ (List.mem_of_getElem? (i := 11) rfl))) (Or.inl (hw _ (List.mem_of_getElem? (i := 25) rfl))) (by decide) (t := (.array .int)) (t' := .int) (by decide) (by decide)))
  have f76_7 := Fld.other W76 f73_7 (Or.inr (slot_ne (Or.inl (hw _ (List.mem_of_getElem? (i := 21) rfl))) (Or.inl (hw _ (List.mem_of_getElem? (i := 25) rfl))) (by decide) (t := (.array .int)) (t' := .int) (by decide) (by decide)))
  have f76_8 := Fld.other W76 f73_8 (Or.inr (slot_ne (Or.inl (hw _ (List.mem_of_getElem? (i := 23) rfl))) (Or.inl (hw _ (List.mem_of_getElem? (i := 25) rfl))) (by decide) (t := (.array .int)) (t' := .int) (by decide) (by decide)))
  have f76_9 := Fld.other W76 f73_9 (Or.inr (slot_ne (Or.inl (hw _ (List.mem_of_getElem? (i := 27) rfl))) (Or.inl (hw _ (List.mem_of_getElem? (i := 25) rfl))) (by decide) (t := (.array .int)) (t' := .int) (by decide) (by decide)))
  have f76_10 := f73_10.other W76 (Ne.symm ne_p0_b6)
  have f76_11 := f73_11.other W76 (Ne.symm ne_p0_bs66)
  have f76_12 := f73_12.other W76 (Ne.symm ne_p0_b23)
  have Z76 : n0 ≤ h76.size := Nat.le_trans Z73 (Keep.of_wr W76).1
  have N76 := Fr.snoc X76 N73 gp
  have pre77 : ∀ t, Steps p.tables e below (T76.setTop (mkF m 34 #[.val (.ref p0), .val (.int p1)] [])) t → Steps p.tables e below (s₁.setTop (entryFrame m #[(.ref p0), (.int p1)] 2)) t := fun t kont => pre75 t (st76 _ kont)
  have pre78 : ∀ t, Steps p.tables e below (T76.setTop (mkF m 37 #[.val (.ref p0), .val (.int p1)] [(.int (8 : Int32)), (.ref p0)])) t → Steps p.tables e below (s₁.setTop (entryFrame m #[(.ref p0), (.int p1)] 2)) t := by
    intro t kont
    refine pre77 t ?_
    show Steps p.tables e below (T76.setTop (mkF m 34 #[.val (.ref p0), .val (.int p1)] [])) _
    refine XS.aloadN X76.here hx rfl (hb hby d1_34) rfl rfl ?_
    show Steps p.tables e below (T76.setTop (mkF m 35 #[.val (.ref p0), .val (.int p1)] [(.ref p0)])) _
    refine XS.bipush X76.here hx rfl (hb hby d1_35) ?_
    exact kont
  obtain ⟨T79, h79, k79, X79, e79, E79, A79, st79⟩ := newP X76 hx hZ (hw _ (List.mem_of_getElem? (i := 9) rfl)) e76 (g := (mkF m 37 #[.val (.ref p0), .val (.int p1)] [(.int (8 : Int32)), (.ref p0)])) rfl (hb hby d1_37) rfl (by decide) (cap := 8) (by decide) (by decide) (by decide) (by decide)
  obtain ⟨b37, g79⟩ : ∃ z, z = h76.size := ⟨_, rfl⟩
  rw [← g79] at A79 st79
  have g_b37 : n0 ≤ b37 := Nat.le_trans Z76 (Nat.le_of_eq g79.symm)
  have ne_p0_b37 : p0 ≠ b37 := Nat.ne_of_lt (Nat.lt_of_lt_of_le (f76_0).lt (Nat.le_of_eq g79.symm))
  have ne_b6_b37 : b6 ≠ b37 := Nat.ne_of_lt (Nat.lt_of_lt_of_le (f76_10).lt (Nat.le_of_eq g79.symm))
  have ne_bs66_b37 : bs66 ≠ b37 := Nat.ne_of_lt (Nat.lt_of_lt_of_le (f76_11).lt (Nat.le_of_eq g79.symm))
  have ne_b23_b37 : b23 ≠ b37 := Nat.ne_of_lt (Nat.lt_of_lt_of_le (f76_12).lt (Nat.le_of_eq g79.symm))
  have f79_0 := Exa.ext E79 f76_0
  have f79_1 := Fld.ext E79 f76_1
  have f79_2 := Fld.ext E79 f76_2
  have f79_3 := Fld.ext E79 f76_3
  have f79_4 := Fld.ext E79 f76_4
  have f79_5 := Fld.ext E79 f76_5
  have f79_6 := Fld.ext E79 f76_6
  have f79_7 := Fld.ext E79 f76_7
  have f79_8 := Fld.ext E79 f76_8
  have f79_9 := Fld.ext E79 f76_9
  have f79_10 := f76_10.ext E79
  have f79_11 := f76_11.ext E79
  have f79_12 := f76_12.ext E79
  have V79 := own_arr.newI A79 (i := 8) rfl
  have Z79 : n0 ≤ h79.size := Nat.le_trans Z76 E79.1
  have pre80 : ∀ t, Steps p.tables e below (T79.setTop (mkF m 39 #[.val (.ref p0), .val (.int p1)] [(.ref b37), (.ref p0)])) t → Steps p.tables e below (s₁.setTop (entryFrame m #[(.ref p0), (.int p1)] 2)) t := fun t kont => pre78 t (st79 _ kont)
  obtain ⟨T81, h81, X81, e81, W81, st81⟩ := putF X79 hx hZ hown (host := "") (Or.inl (hw _ (List.mem_of_getElem? (i := 26) rfl))) Via.refl e79 f79_9 f79_0 (Or.inl (hw _ (List.mem_of_getElem? (i := 27) rfl))) (hw _ (List.mem_of_getElem? (i := 1) rfl)) (ty := (.array .int)) (by decide) rfl rfl (g := (mkF m 39 #[.val (.ref p0), .val (.int p1)] [(.ref b37), (.ref p0)])) rfl rfl (hb hby d1_39)
  have f81_0 := Exa.wr W81 f79_0
  have f81_1 := Fld.other W81 f79_1 (Or.inr (slot_ne (Or.inr (hw _ (List.mem_of_getElem? (i := 29) rfl))) (Or.inl (hw _ (List.mem_of_getElem? (i := 27) rfl))) (by decide) (t := .int) (t' := (.array .int)) (by decide) (by decide)))
  have f81_2 := Fld.other W81 f79_2 (Or.inr (slot_ne (Or.inl (hw _ (List.mem_of_getElem? (i := 36) rfl))) (Or.inl (hw _ (List.mem_of_getElem? (i := 27) rfl))) (by decide) (t := .boolean) (t' := (.array .int)) (by decide) (by decide)))
  have f81_3 := Fld.other W81 f79_3 (Or.inr (slot_ne (Or.inl (hw _ (List.mem_of_getElem? (i := 38) rfl))) (Or.inl (hw _ (List.mem_of_getElem? (i := 27) rfl))) (by decide) (t := .int) (t' := (.array .int)) (by decide) (by decide)))
  have f81_4 := Fld.other W81 f79_4 (Or.inr (slot_ne (Or.inl (hw _ (List.mem_of_getElem? (i := 45) rfl))) (Or.inl (hw _ (List.mem_of_getElem? (i := 27) rfl))) (by decide) (t := .int) (t' := (.array .int)) (by decide) (by decide)))
  have f81_5 := Fld.other W81 f79_5 (Or.inr (slot_ne (Or.inl (hw _ (List.mem_of_getElem? (i := 25) rfl))) (Or.inl (hw _ (List.mem_of_getElem? (i := 27) rfl))) (by decide) (t := .int) (t' := (.array .int)) (by decide) (by decide)))
  have f81_6 := Fld.other W81 f79_6 (Or.inr (slot_ne (Or.inl (hw _ (List.mem_of_getElem? (i := 11) rfl))) (Or.inl (hw _ (List.mem_of_getElem? (i := 27) rfl))) (by decide) (t := (.array .int)) (t' := (.array .int)) (by decide) (by decide)))
  have f81_7 := Fld.other W81 f79_7 (Or.inr (slot_ne (Or.inl (hw _ (List.mem_of_getElem? (i := 21) rfl))) (Or.inl (hw _ (List.mem_of_getElem? (i := 27) rfl))) (by decide) (t := (.array .int)) (t' := (.array .int)) (by decide) (by decide)))
  have f81_8 := Fld.other W81 f79_8 (Or.inr (slot_ne (Or.inl (hw _ (List.mem_of_getElem? (i := 23) rfl))) (Or.inl (hw _ (List.mem_of_getElem? (i := 27) rfl))) (by decide) (t := (.array .int)) (t' := (.array .int)) (by decide) (by decide)))
  have f81_9 := Fld.same W81 f79_9
  have f81_10 := f79_10.other W81 (Ne.symm ne_p0_b6)
  have f81_11 := f79_11.other W81 (Ne.symm ne_p0_bs66)
  have f81_12 := f79_12.other W81 (Ne.symm ne_p0_b23)
  have f81_13 := V79.other W81 (Ne.symm ne_p0_b37)
  have Z81 : n0 ≤ h81.size := Nat.le_trans Z79 (Keep.of_wr W81).1
  have N81 := Fr.snoc X81 N76 gp
  have pre82 : ∀ t, Steps p.tables e below (T81.setTop (mkF m 42 #[.val (.ref p0), .val (.int p1)] [])) t → Steps p.tables e below (s₁.setTop (entryFrame m #[(.ref p0), (.int p1)] 2)) t := fun t kont => pre80 t (st81 _ kont)
  have pre83 : ∀ t, Steps p.tables e below (T81.setTop (mkF m 44 #[.val (.ref p0), .val (.int p1)] [(.int p1), (.ref p0)])) t → Steps p.tables e below (s₁.setTop (entryFrame m #[(.ref p0), (.int p1)] 2)) t := by
    intro t kont
    refine pre82 t ?_
    show Steps p.tables e below (T81.setTop (mkF m 42 #[.val (.ref p0), .val (.int p1)] [])) _
    refine XS.aloadN X81.here hx rfl (hb hby d1_42) rfl rfl ?_
    show Steps p.tables e below (T81.setTop (mkF m 43 #[.val (.ref p0), .val (.int p1)] [(.ref p0)])) _
    refine XS.iloadN X81.here hx rfl (hb hby d1_43) rfl ?_
    exact kont
  obtain ⟨T84, h84, X84, e84, W84, st84⟩ := putF X81 hx hZ hown (host := "") (Or.inl (hw _ (List.mem_of_getElem? (i := 28) rfl))) Via.refl e81 f81_1 f81_0 (Or.inr ⟨(hw _ (List.mem_of_getElem? (i := 29) rfl)), rfl, hnm⟩) (hw _ (List.mem_of_getElem? (i := 1) rfl)) (ty := .int) (by decide) rfl rfl (g := (mkF m 44 #[.val (.ref p0), .val (.int p1)] [(.int p1), (.ref p0)])) rfl rfl (hb hby d1_44)
  have f84_0 := Exa.wr W84 f81_0
  have f84_1 := Fld.same W84 f81_1
  have f84_2 := Fld.other W84 f81_2 (Or.inr (slot_ne (Or.inl (hw _ (List.mem_of_getElem? (i := 36) rfl))) (Or.inr (hw _ (List.mem_of_getElem? (i := 29) rfl))) (by decide) (t := .boolean) (t' := .int) (by decide) (by decide)))
  have f84_3 := Fld.other W84 f81_3 (Or.inr (slot_ne (Or.inl (hw _ (List.mem_of_getElem? (i := 38) rfl))) (Or.inr (hw _ (List.mem_of_getElem? (i := 29) rfl))) (by decide) (t := .int) (t' := .int) (by decide) (by decide)))
  have f84_4 := Fld.other W84 f81_4 (Or.inr (slot_ne (Or.inl (hw _ (List.mem_of_getElem? (i := 45) rfl))) (Or.inr (hw _ (List.mem_of_getElem? (i := 29) rfl))) (by decide) (t := .int) (t' := .int) (by decide) (by decide)))
  have f84_5 := Fld.other W84 f81_5 (Or.inr (slot_ne (Or.inl (hw _ (List.mem_of_getElem? (i := 25) rfl))) (Or.inr (hw _ (List.mem_of_getElem? (i := 29) rfl))) (by decide) (t := .int) (t' := .int) (by decide) (by decide)))
  have f84_6 := Fld.other W84 f81_6 (Or.inr (slot_ne (Or.inl (hw _ (List.mem_of_getElem? (i := 11) rfl))) (Or.inr (hw _ (List.mem_of_getElem? (i := 29) rfl))) (by decide) (t := (.array .int)) (t' := .int) (by decide) (by decide)))
  have f84_7 := Fld.other W84 f81_7 (Or.inr (slot_ne (Or.inl (hw _ (List.mem_of_getElem? (i := 21) rfl))) (Or.inr (hw _ (List.mem_of_getElem? (i := 29) rfl))) (by decide) (t := (.array .int)) (t' := .int) (by decide) (by decide)))
  have f84_8 := Fld.other W84 f81_8 (Or.inr (slot_ne (Or.inl (hw _ (List.mem_of_getElem? (i := 23) rfl))) (Or.inr (hw _ (List.mem_of_getElem? (i := 29) rfl))) (by decide) (t := (.array .int)) (t' := .int) (by decide) (by decide)))
  have f84_9 := Fld.other W84 f81_9 (Or.inr (slot_ne (Or.inl (hw _ (List.mem_of_getElem? (i := 27) rfl))) (Or.inr (hw _ (List.mem_of_getElem? (i := 29) rfl))) (by decide) (t := (.array .int)) (t' := .int) (by decide) (by decide)))
  have f84_10 := f81_10.other W84 (Ne.symm ne_p0_b6)
  have f84_11 := f81_11.other W84 (Ne.symm ne_p0_bs66)
  have f84_12 := f81_12.other W84 (Ne.symm ne_p0_b23)
  have f84_13 := f81_13.other W84 (Ne.symm ne_p0_b37)
  have Z84 : n0 ≤ h84.size := Nat.le_trans Z81 (Keep.of_wr W84).1
  have N84 := Fr.snoc X84 N81 gp
  have pre85 : ∀ t, Steps p.tables e below (T84.setTop (mkF m 47 #[.val (.ref p0), .val (.int p1)] [])) t → Steps p.tables e below (s₁.setTop (entryFrame m #[(.ref p0), (.int p1)] 2)) t := fun t kont => pre83 t (st84 _ kont)
  obtain ⟨fs, hr, hrun, hended, hW, hsame⟩ := X84.leave (v := none) (fun _ => rfl)
  refine ⟨_, _, pre85 _ ?_, hrun, hended, _, _, rfl, ?_, ⟨_, rfl⟩, hW, hsame.mono (by decide) (by decide)⟩
  · exact X84.returnOut hx Bd.returns (hb hby d1_47) hr
  · show Q1 Z p0 p1 h0 n0 _ T84.heap _
    rw [e84]
    exact ⟨rfl, N84, Z84, b6, bs66, b23, b37, ⟨f84_0, f84_1, f84_2, f84_3, f84_4, f84_5, f84_6, f84_7, f84_8, f84_9, f84_10, f84_11, f84_12, f84_13, ⟨ne_p0_b6, ne_p0_bs66, ne_p0_b23, ne_p0_b37, ne_b6_bs66, ne_b6_b23, ne_b6_b37, ne_bs66_b23, ne_bs66_b37, ne_b23_b37⟩, ⟨gp, g_b6, g_bs66, g_b23, g_b37⟩⟩⟩
def own_probe (ga : Nat → Int32) (a : Int32) : Int32 := if ga (((a * (-1640531527 : Int32)).toUInt32 >>> ((28 : Int32) &&& 31).toUInt32).toInt32).toNatClampNeg = a then (((a * (-1640531527 : Int32)).toUInt32 >>> ((28 : Int32) &&& 31).toUInt32).toInt32) else if ga (((a * (-1640531527 : Int32)).toUInt32 >>> ((28 : Int32) &&& 31).toUInt32).toInt32).toNatClampNeg = (-2147483648 : Int32) then (((a * (-1640531527 : Int32)).toUInt32 >>> ((28 : Int32) &&& 31).toUInt32).toInt32) else (if ga (((((a * (-1640531527 : Int32)).toUInt32 >>> ((28 : Int32) &&& 31).toUInt32).toInt32) + (1 : Int32)) &&& (15 : Int32)).toNatClampNeg = a then (((((a * (-1640531527 : Int32)).toUInt32 >>> ((28 : Int32) &&& 31).toUInt32).toInt32) + (1 : Int32)) &&& (15 : Int32)) else if ga (((((a * (-1640531527 : Int32)).toUInt32 >>> ((28 : Int32) &&& 31).toUInt32).toInt32) + (1 : Int32)) &&& (15 : Int32)).toNatClampNeg = (-2147483648 : Int32) then (((((a * (-1640531527 : Int32)).toUInt32 >>> ((28 : Int32) &&& 31).toUInt32).toInt32) + (1 : Int32)) &&& (15 : Int32)) else (if ga (((((((a * (-1640531527 : Int32)).toUInt32 >>> ((28 : Int32) &&& 31).toUInt32).toInt32) + (1 : Int32)) &&& (15 : Int32)) + (1 : Int32)) &&& (15 : Int32)).toNatClampNeg = a then (((((((a * (-1640531527 : Int32)).toUInt32 >>> ((28 : Int32) &&& 31).toUInt32).toInt32) + (1 : Int32)) &&& (15 : Int32)) + (1 : Int32)) &&& (15 : Int32)) else if ga (((((((a * (-1640531527 : Int32)).toUInt32 >>> ((28 : Int32) &&& 31).toUInt32).toInt32) + (1 : Int32)) &&& (15 : Int32)) + (1 : Int32)) &&& (15 : Int32)).toNatClampNeg = (-2147483648 : Int32) then (((((((a * (-1640531527 : Int32)).toUInt32 >>> ((28 : Int32) &&& 31).toUInt32).toInt32) + (1 : Int32)) &&& (15 : Int32)) + (1 : Int32)) &&& (15 : Int32)) else ((0 : Int32))))
def own_slot (ow lw : Int32) (ga : Nat → Int32) (a : Int32) : Int32 := if ow = (0 : Int32) then own_probe ga a else a - lw
theorem d7_0 : decode prog_18_method_3_code 0 = .ok (.aload_n 0, 1) := by decide +kernel
theorem d7_1 : decode prog_18_method_3_code 1 = .ok (.getfield 35, 3) := by decide +kernel
theorem d7_4 : decode prog_18_method_3_code 4 = .ok (.ifCond .eq 10, 3) := by decide +kernel
theorem d7_14 : decode prog_18_method_3_code 14 = .ok (.aload_n 0, 1) := by decide +kernel
theorem d7_15 : decode prog_18_method_3_code 15 = .ok (.getfield 19, 3) := by decide +kernel
theorem d7_18 : decode prog_18_method_3_code 18 = .ok (.arraylength, 1) := by decide +kernel
theorem d7_19 : decode prog_18_method_3_code 19 = .ok (.iconst 1, 1) := by decide +kernel
theorem d7_20 : decode prog_18_method_3_code 20 = .ok (.isub, 1) := by decide +kernel
theorem d7_21 : decode prog_18_method_3_code 21 = .ok (.istore_n 2, 1) := by decide +kernel
theorem d7_22 : decode prog_18_method_3_code 22 = .ok (.iload_n 1, 1) := by decide +kernel
theorem d7_23 : decode prog_18_method_3_code 23 = .ok (.ldc 42, 2) := by decide +kernel
theorem d7_25 : decode prog_18_method_3_code 25 = .ok (.imul, 1) := by decide +kernel
theorem d7_26 : decode prog_18_method_3_code 26 = .ok (.aload_n 0, 1) := by decide +kernel
theorem d7_27 : decode prog_18_method_3_code 27 = .ok (.getfield 25, 3) := by decide +kernel
theorem d7_30 : decode prog_18_method_3_code 30 = .ok (.iushr, 1) := by decide +kernel
theorem d7_31 : decode prog_18_method_3_code 31 = .ok (.istore_n 3, 1) := by decide +kernel
theorem d7_32 : decode prog_18_method_3_code 32 = .ok (.aload_n 0, 1) := by decide +kernel
theorem d7_33 : decode prog_18_method_3_code 33 = .ok (.getfield 19, 3) := by decide +kernel
theorem d7_36 : decode prog_18_method_3_code 36 = .ok (.iload_n 3, 1) := by decide +kernel
theorem d7_37 : decode prog_18_method_3_code 37 = .ok (.iaload, 1) := by decide +kernel
theorem d7_38 : decode prog_18_method_3_code 38 = .ok (.iload_n 1, 1) := by decide +kernel
theorem d7_39 : decode prog_18_method_3_code 39 = .ok (.if_icmp .eq 23, 3) := by decide +kernel
theorem d7_62 : decode prog_18_method_3_code 62 = .ok (.iload_n 3, 1) := by decide +kernel
theorem d7_63 : decode prog_18_method_3_code 63 = .ok (.ireturn, 1) := by decide +kernel
theorem d7_42 : decode prog_18_method_3_code 42 = .ok (.aload_n 0, 1) := by decide +kernel
theorem d7_43 : decode prog_18_method_3_code 43 = .ok (.getfield 19, 3) := by decide +kernel
theorem d7_46 : decode prog_18_method_3_code 46 = .ok (.iload_n 3, 1) := by decide +kernel
theorem d7_47 : decode prog_18_method_3_code 47 = .ok (.iaload, 1) := by decide +kernel
theorem d7_48 : decode prog_18_method_3_code 48 = .ok (.ldc 43, 2) := by decide +kernel
theorem d7_50 : decode prog_18_method_3_code 50 = .ok (.if_icmp .eq 12, 3) := by decide +kernel
theorem d7_53 : decode prog_18_method_3_code 53 = .ok (.iload_n 3, 1) := by decide +kernel
theorem d7_54 : decode prog_18_method_3_code 54 = .ok (.iconst 1, 1) := by decide +kernel
theorem d7_55 : decode prog_18_method_3_code 55 = .ok (.iadd, 1) := by decide +kernel
theorem d7_56 : decode prog_18_method_3_code 56 = .ok (.iload_n 2, 1) := by decide +kernel
theorem d7_57 : decode prog_18_method_3_code 57 = .ok (.iand, 1) := by decide +kernel
theorem d7_58 : decode prog_18_method_3_code 58 = .ok (.istore_n 3, 1) := by decide +kernel
theorem d7_59 : decode prog_18_method_3_code 59 = .ok (.goto (-27), 3) := by decide +kernel
theorem d7_7 : decode prog_18_method_3_code 7 = .ok (.iload_n 1, 1) := by decide +kernel
theorem d7_8 : decode prog_18_method_3_code 8 = .ok (.aload_n 0, 1) := by decide +kernel
theorem d7_9 : decode prog_18_method_3_code 9 = .ok (.getfield 39, 3) := by decide +kernel
theorem d7_12 : decode prog_18_method_3_code 12 = .ok (.isub, 1) := by decide +kernel
theorem d7_13 : decode prog_18_method_3_code 13 = .ok (.ireturn, 1) := by decide +kernel
theorem ef_7 (m : MethodId) (x0 : Addr) (x1 : Int32) : entryFrame m #[(.ref x0), (.int x1)] 4 = mkF m 0 #[.val (.ref x0), .val (.int x1), .unset, .unset] [] := by first | (simp [entryFrame, mkF, argsToLocals, Value.category]; done) | rfl
def Q7 (Z : State) (p0 : Addr) (p1 : Int32) (be : Addr) (ba : Addr) (bn : Addr) (bf : Addr) (dr : Int32) (ow : Int32) (lw : Int32) (sz : Int32) (ne : Nat) (ge : Nat → Int32) (ga : Nat → Int32) (gn : Nat → Int32) (gf : Nat → Int32) (h0 : Heap) (n0 : Nat) (v : Option Value) (h : Heap) (L : List Loc) : Prop := v = some (.int (own_slot ow lw ga p1)) ∧ Fr n0 L ∧ h = h0
set_option maxRecDepth 65536 in
set_option maxHeartbeats 40000000 in
theorem rm7 (l : Launch) (Z : State) (a0 : Array Value) (hw : ∀ d ∈ tables_1, d.before a0 Z = true) (ws : List Jvm.Cond) (p0 : Addr) (p1 : Int32) (be : Addr) (ba : Addr) (bn : Addr) (bf : Addr) (dr : Int32) (ow : Int32) (lw : Int32) (sz : Int32) (ne : Nat) (ge : Nat → Int32) (ga : Nat → Int32) (gn : Nat → Int32) (gf : Nat → Int32) (h0 : Heap) (n0 : Nat) (Z0 : n0 ≤ h0.size) (Hal : own_al Z h0 n0 p0 be ba bn bf dr ow lw sz ne ge ga gn gf) (hE : ow = (0 : Int32) → ga (((p1 * (-1640531527 : Int32)).toUInt32 >>> ((28 : Int32) &&& 31).toUInt32).toInt32).toNatClampNeg = (-2147483648 : Int32) ∨ ga (((((p1 * (-1640531527 : Int32)).toUInt32 >>> ((28 : Int32) &&& 31).toUInt32).toInt32) + (1 : Int32)) &&& (15 : Int32)).toNatClampNeg = (-2147483648 : Int32) ∨ ga (((((((p1 * (-1640531527 : Int32)).toUInt32 >>> ((28 : Int32) &&& 31).toUInt32).toInt32) + (1 : Int32)) &&& (15 : Int32)) + (1 : Int32)) &&& (15 : Int32)).toNatClampNeg = (-2147483648 : Int32)) :
    MetFree l (⟨"com/example/impronta/impronta/engine/Alignments", "slot", "(I)I"⟩ : MethodName) (head1 (Jvm.Cond.code (⟨"com/example/impronta/impronta/engine/Alignments", "slot", "(I)I"⟩ : MethodName) prog_18_method_3_code 4 (some .int) :: ws) ({ frames := 0, cells := 0, slots := 0, locals := 0 } : Room)) (fun a U => a = #[(.ref p0), (.int p1)] ∧ Z.Warmed39 U.vm ∧ U.heap = h0) (fun _ _ _ _ _ => True) (fun _ U o U' => ∃ v L, o = .returned v ∧ Q7 Z p0 p1 be ba bn bf dr ow lw sz ne ge ga gn gf h0 n0 v U'.heap L ∧ FrameEnd U o U' L ({ frames := 0, cells := 0, slots := 0, locals := 0 } : Room).cells ({ frames := 0, cells := 0, slots := 0, locals := 0 } : Room).slots) := by
  refine MetFree.of_bodySF (plainFor_of_name pn_3) hisR ?_
  intro p e s m args below meth c s₁ Bd hml0 hP hK
  obtain ⟨rfl, hZ, hh⟩ := hP
  have hx := Bd.exec
  have hby := Bd.bytes
  have hml : c.maxLocals = 4 := hml0
  have hown : s.vm.findClass "com/example/impronta/impronta/engine/Alignments" = some m.cls := findClass_of_methodNamed Bd.named
  have hnm := (name_of_methodNamed Bd.named Bd.method).1
  have X0 : Stand p l e ({ frames := 0, cells := 0, slots := 0, locals := 0 } : Room) s m #[(.ref p0), (.int p1)] below meth c s₁ [] 0 0 := Stand.of_body Bd
  have e0 : s₁.heap = h0 := by rw [← hh, Bd.state]; rfl
  have N0 := Fr.nil n0
  have pre0 : ∀ t, Steps p.tables e below (s₁.setTop (mkF m 0 #[.val (.ref p0), .val (.int p1), .unset, .unset] [])) t → Steps p.tables e below (s₁.setTop (entryFrame m #[(.ref p0), (.int p1)] 4)) t := fun t k => castTop (ef_7 m p0 p1) k
  obtain ⟨qE, q_direct, q_ownSlots, q_lowest, q_size, q_shift, q_endsByAlignment, q_alignments, q_ends, q_filled, Ve, Va, Vn, Vf, ⟨d0, d1, d2, d3, d4, d5, d6, d7, d8, d9⟩, ⟨g0, g1, g2, g3, g4⟩⟩ := id Hal
  have pre86 : ∀ t, Steps p.tables e below (s₁.setTop (mkF m 1 #[.val (.ref p0), .val (.int p1), .unset, .unset] [(.ref p0)])) t → Steps p.tables e below (s₁.setTop (entryFrame m #[(.ref p0), (.int p1)] 4)) t := by
    intro t kont
    refine pre0 t ?_
    show Steps p.tables e below (s₁.setTop (mkF m 0 #[.val (.ref p0), .val (.int p1), .unset, .unset] [])) _
    refine XS.aloadN X0.here hx rfl (hb hby d7_0) rfl rfl ?_
    exact kont
  obtain ⟨T87, X87, e87, st87⟩ := getF X0 hx hZ hown (host := "") (Or.inl (hw _ (List.mem_of_getElem? (i := 35) rfl))) Via.refl e0 q_ownSlots (g := (mkF m 1 #[.val (.ref p0), .val (.int p1), .unset, .unset] [(.ref p0)])) rfl rfl (hb hby d7_1)
  have pre88 : ∀ t, Steps p.tables e below (T87.setTop (mkF m 4 #[.val (.ref p0), .val (.int p1), .unset, .unset] [(.int ow)])) t → Steps p.tables e below (s₁.setTop (entryFrame m #[(.ref p0), (.int p1)] 4)) t := fun t kont => pre86 t (st87 _ kont)
  by_cases hc4 : ow = (0 : Int32)
  · have pre89 : ∀ t, Steps p.tables e below (T87.setTop (mkF m 15 #[.val (.ref p0), .val (.int p1), .unset, .unset] [(.ref p0)])) t → Steps p.tables e below (s₁.setTop (entryFrame m #[(.ref p0), (.int p1)] 4)) t := by
      intro t kont
      refine pre88 t ?_
      show Steps p.tables e below (T87.setTop (mkF m 4 #[.val (.ref p0), .val (.int p1), .unset, .unset] [(.int ow)])) _
      refine XS.ifYes X87.here hx rfl (pc0 := 4) (pc' := 14) rfl (hb hby d7_4) rfl ((if0 _ _).trans (teq hc4).1) (by decide) (by decide) ?_
      show Steps p.tables e below (T87.setTop (mkF m 14 #[.val (.ref p0), .val (.int p1), .unset, .unset] [])) _
      refine XS.aloadN X87.here hx rfl (hb hby d7_14) rfl rfl ?_
      exact kont
    obtain ⟨T90, X90, e90, st90⟩ := getF X87 hx hZ hown (host := "") (Or.inl (hw _ (List.mem_of_getElem? (i := 20) rfl))) Via.refl e87 q_alignments (g := (mkF m 15 #[.val (.ref p0), .val (.int p1), .unset, .unset] [(.ref p0)])) rfl rfl (hb hby d7_15)
    have pre91 : ∀ t, Steps p.tables e below (T90.setTop (mkF m 18 #[.val (.ref p0), .val (.int p1), .unset, .unset] [(.ref ba)])) t → Steps p.tables e below (s₁.setTop (entryFrame m #[(.ref p0), (.int p1)] 4)) t := fun t kont => pre89 t (st90 _ kont)
    have pre92 : ∀ t, Steps p.tables e below (T90.setTop (mkF m 27 #[.val (.ref p0), .val (.int p1), .val (.int (15 : Int32)), .unset] [(.ref p0), (.int (p1 * (-1640531527 : Int32)))])) t → Steps p.tables e below (s₁.setTop (entryFrame m #[(.ref p0), (.int p1)] 4)) t := by
      intro t kont
      refine pre91 t ?_
      show Steps p.tables e below (T90.setTop (mkF m 18 #[.val (.ref p0), .val (.int p1), .unset, .unset] [(.ref ba)])) _
      refine own_len X90 hx hZ e90 Va (z := (16 : Int32)) (by decide) (fr := (mkF m 18 #[.val (.ref p0), .val (.int p1), .unset, .unset] [(.ref ba)])) rfl rfl (hb hby d7_18) _ ?_
      show Steps p.tables e below (T90.setTop (mkF m 19 #[.val (.ref p0), .val (.int p1), .unset, .unset] [(.int (16 : Int32))])) _
      refine XS.iconst X90.here hx rfl (hb hby d7_19) ?_
      show Steps p.tables e below (T90.setTop (mkF m 20 #[.val (.ref p0), .val (.int p1), .unset, .unset] [(.int (1 : Int32)), (.int (16 : Int32))])) _
      refine XS.isub X90.here hx rfl (hb hby d7_20) rfl ?_
      show Steps p.tables e below (T90.setTop (mkF m 21 #[.val (.ref p0), .val (.int p1), .unset, .unset] [(.int (15 : Int32))])) _
      refine XS.istoreN X90.here hx rfl (hb hby d7_21) rfl (l' := #[.val (.ref p0), .val (.int p1), .val (.int (15 : Int32)), .unset]) rfl ?_
      show Steps p.tables e below (T90.setTop (mkF m 22 #[.val (.ref p0), .val (.int p1), .val (.int (15 : Int32)), .unset] [])) _
      refine XS.iloadN X90.here hx rfl (hb hby d7_22) rfl ?_
      show Steps p.tables e below (T90.setTop (mkF m 23 #[.val (.ref p0), .val (.int p1), .val (.int (15 : Int32)), .unset] [(.int p1)])) _
      refine X90.ldcInt hx hown (mvT hZ (hw _ (List.mem_of_getElem? (i := 51) rfl))) (g := (mkF m 23 #[.val (.ref p0), .val (.int p1), .val (.int (15 : Int32)), .unset] [(.int p1)])) rfl (hb hby d7_23) _ ?_
      show Steps p.tables e below (T90.setTop (mkF m 25 #[.val (.ref p0), .val (.int p1), .val (.int (15 : Int32)), .unset] [(.int (-1640531527 : Int32)), (.int p1)])) _
      refine XS.imul X90.here hx rfl (hb hby d7_25) rfl ?_
      show Steps p.tables e below (T90.setTop (mkF m 26 #[.val (.ref p0), .val (.int p1), .val (.int (15 : Int32)), .unset] [(.int (p1 * (-1640531527 : Int32)))])) _
      refine XS.aloadN X90.here hx rfl (hb hby d7_26) rfl rfl ?_
      exact kont
    obtain ⟨T93, X93, e93, st93⟩ := getF X90 hx hZ hown (host := "") (Or.inl (hw _ (List.mem_of_getElem? (i := 24) rfl))) Via.refl e90 q_shift (g := (mkF m 27 #[.val (.ref p0), .val (.int p1), .val (.int (15 : Int32)), .unset] [(.ref p0), (.int (p1 * (-1640531527 : Int32)))])) rfl rfl (hb hby d7_27)
    have pre94 : ∀ t, Steps p.tables e below (T93.setTop (mkF m 30 #[.val (.ref p0), .val (.int p1), .val (.int (15 : Int32)), .unset] [(.int (28 : Int32)), (.int (p1 * (-1640531527 : Int32)))])) t → Steps p.tables e below (s₁.setTop (entryFrame m #[(.ref p0), (.int p1)] 4)) t := fun t kont => pre92 t (st93 _ kont)
    have pre95 : ∀ t, Steps p.tables e below (T93.setTop (mkF m 33 #[.val (.ref p0), .val (.int p1), .val (.int (15 : Int32)), .val (.int (((p1 * (-1640531527 : Int32)).toUInt32 >>> ((28 : Int32) &&& 31).toUInt32).toInt32))] [(.ref p0)])) t → Steps p.tables e below (s₁.setTop (entryFrame m #[(.ref p0), (.int p1)] 4)) t := by
      intro t kont
      refine pre94 t ?_
      show Steps p.tables e below (T93.setTop (mkF m 30 #[.val (.ref p0), .val (.int p1), .val (.int (15 : Int32)), .unset] [(.int (28 : Int32)), (.int (p1 * (-1640531527 : Int32)))])) _
      refine XS.iushr X93.here hx rfl (hb hby d7_30) rfl ?_
      show Steps p.tables e below (T93.setTop (mkF m 31 #[.val (.ref p0), .val (.int p1), .val (.int (15 : Int32)), .unset] [(.int (((p1 * (-1640531527 : Int32)).toUInt32 >>> ((28 : Int32) &&& 31).toUInt32).toInt32))])) _
      refine XS.istoreN X93.here hx rfl (hb hby d7_31) rfl (l' := #[.val (.ref p0), .val (.int p1), .val (.int (15 : Int32)), .val (.int (((p1 * (-1640531527 : Int32)).toUInt32 >>> ((28 : Int32) &&& 31).toUInt32).toInt32))]) rfl ?_
      show Steps p.tables e below (T93.setTop (mkF m 32 #[.val (.ref p0), .val (.int p1), .val (.int (15 : Int32)), .val (.int (((p1 * (-1640531527 : Int32)).toUInt32 >>> ((28 : Int32) &&& 31).toUInt32).toInt32))] [])) _
      refine XS.aloadN X93.here hx rfl (hb hby d7_32) rfl rfl ?_
      exact kont
    obtain ⟨T96, X96, e96, st96⟩ := getF X93 hx hZ hown (host := "") (Or.inl (hw _ (List.mem_of_getElem? (i := 20) rfl))) Via.refl e93 q_alignments (g := (mkF m 33 #[.val (.ref p0), .val (.int p1), .val (.int (15 : Int32)), .val (.int (((p1 * (-1640531527 : Int32)).toUInt32 >>> ((28 : Int32) &&& 31).toUInt32).toInt32))] [(.ref p0)])) rfl rfl (hb hby d7_33)
    have pre97 : ∀ t, Steps p.tables e below (T96.setTop (mkF m 36 #[.val (.ref p0), .val (.int p1), .val (.int (15 : Int32)), .val (.int (((p1 * (-1640531527 : Int32)).toUInt32 >>> ((28 : Int32) &&& 31).toUInt32).toInt32))] [(.ref ba)])) t → Steps p.tables e below (s₁.setTop (entryFrame m #[(.ref p0), (.int p1)] 4)) t := fun t kont => pre95 t (st96 _ kont)
    have pre98 : ∀ t, Steps p.tables e below (T96.setTop (mkF m 39 #[.val (.ref p0), .val (.int p1), .val (.int (15 : Int32)), .val (.int (((p1 * (-1640531527 : Int32)).toUInt32 >>> ((28 : Int32) &&& 31).toUInt32).toInt32))] [(.int p1), (.int (ga ((((p1 * (-1640531527 : Int32)).toUInt32 >>> ((28 : Int32) &&& 31).toUInt32).toInt32).toNatClampNeg)))])) t → Steps p.tables e below (s₁.setTop (entryFrame m #[(.ref p0), (.int p1)] 4)) t := by
      intro t kont
      refine pre97 t ?_
      show Steps p.tables e below (T96.setTop (mkF m 36 #[.val (.ref p0), .val (.int p1), .val (.int (15 : Int32)), .val (.int (((p1 * (-1640531527 : Int32)).toUInt32 >>> ((28 : Int32) &&& 31).toUInt32).toInt32))] [(.ref ba)])) _
      refine XS.iloadN X96.here hx rfl (hb hby d7_36) rfl ?_
      show Steps p.tables e below (T96.setTop (mkF m 37 #[.val (.ref p0), .val (.int p1), .val (.int (15 : Int32)), .val (.int (((p1 * (-1640531527 : Int32)).toUInt32 >>> ((28 : Int32) &&& 31).toUInt32).toInt32))] [(.int (((p1 * (-1640531527 : Int32)).toUInt32 >>> ((28 : Int32) &&& 31).toUInt32).toInt32)), (.ref ba)])) _
      refine own_ldI X96 hx hZ e96 Va (k := (((p1 * (-1640531527 : Int32)).toUInt32 >>> ((28 : Int32) &&& 31).toUInt32).toInt32).toNatClampNeg) (own_home p1).1 rfl (own_home p1).2 (fr := (mkF m 37 #[.val (.ref p0), .val (.int p1), .val (.int (15 : Int32)), .val (.int (((p1 * (-1640531527 : Int32)).toUInt32 >>> ((28 : Int32) &&& 31).toUInt32).toInt32))] [(.int (((p1 * (-1640531527 : Int32)).toUInt32 >>> ((28 : Int32) &&& 31).toUInt32).toInt32)), (.ref ba)])) rfl rfl (hb hby d7_37) _ ?_
      show Steps p.tables e below (T96.setTop (mkF m 38 #[.val (.ref p0), .val (.int p1), .val (.int (15 : Int32)), .val (.int (((p1 * (-1640531527 : Int32)).toUInt32 >>> ((28 : Int32) &&& 31).toUInt32).toInt32))] [(.int (ga ((((p1 * (-1640531527 : Int32)).toUInt32 >>> ((28 : Int32) &&& 31).toUInt32).toInt32).toNatClampNeg)))])) _
      refine XS.iloadN X96.here hx rfl (hb hby d7_38) rfl ?_
      exact kont
    by_cases hc39 : (ga ((((p1 * (-1640531527 : Int32)).toUInt32 >>> ((28 : Int32) &&& 31).toUInt32).toInt32).toNatClampNeg)) = p1
    · have pre99 : ∀ t, Steps p.tables e below (T96.setTop (mkF m 63 #[.val (.ref p0), .val (.int p1), .val (.int (15 : Int32)), .val (.int (((p1 * (-1640531527 : Int32)).toUInt32 >>> ((28 : Int32) &&& 31).toUInt32).toInt32))] [(.int (((p1 * (-1640531527 : Int32)).toUInt32 >>> ((28 : Int32) &&& 31).toUInt32).toInt32))])) t → Steps p.tables e below (s₁.setTop (entryFrame m #[(.ref p0), (.int p1)] 4)) t := by
        intro t kont
        refine pre98 t ?_
        show Steps p.tables e below (T96.setTop (mkF m 39 #[.val (.ref p0), .val (.int p1), .val (.int (15 : Int32)), .val (.int (((p1 * (-1640531527 : Int32)).toUInt32 >>> ((28 : Int32) &&& 31).toUInt32).toInt32))] [(.int p1), (.int (ga ((((p1 * (-1640531527 : Int32)).toUInt32 >>> ((28 : Int32) &&& 31).toUInt32).toInt32).toNatClampNeg)))])) _
        refine XS.icmpYes X96.here hx rfl (pc0 := 39) (pc' := 62) rfl (hb hby d7_39) rfl (teq hc39).1 (by decide) (by decide) ?_
        show Steps p.tables e below (T96.setTop (mkF m 62 #[.val (.ref p0), .val (.int p1), .val (.int (15 : Int32)), .val (.int (((p1 * (-1640531527 : Int32)).toUInt32 >>> ((28 : Int32) &&& 31).toUInt32).toInt32))] [])) _
        refine XS.iloadN X96.here hx rfl (hb hby d7_62) rfl ?_
        exact kont
      obtain ⟨fs, hr, hrun, hended, hW, hsame⟩ := X96.leave (v := some (.int (((p1 * (-1640531527 : Int32)).toUInt32 >>> ((28 : Int32) &&& 31).toUInt32).toInt32))) (fun h => by rw [Bd.returns] at h; cases h)
      refine ⟨_, _, pre99 _ ?_, hrun, hended, _, _, rfl, ?_, ⟨_, rfl⟩, hW, hsame.mono (by decide) (by decide)⟩
      · exact retI X96 hx Bd.returns (hb hby d7_63) hr
      · show Q7 Z p0 p1 be ba bn bf dr ow lw sz ne ge ga gn gf h0 n0 _ T96.heap _
        rw [e96]
        refine ⟨?_, N0, rfl⟩
        unfold own_slot; rw [if_pos hc4]; unfold own_probe; rw [if_pos hc39]
    · have pre100 : ∀ t, Steps p.tables e below (T96.setTop (mkF m 43 #[.val (.ref p0), .val (.int p1), .val (.int (15 : Int32)), .val (.int (((p1 * (-1640531527 : Int32)).toUInt32 >>> ((28 : Int32) &&& 31).toUInt32).toInt32))] [(.ref p0)])) t → Steps p.tables e below (s₁.setTop (entryFrame m #[(.ref p0), (.int p1)] 4)) t := by
        intro t kont
        refine pre98 t ?_
        show Steps p.tables e below (T96.setTop (mkF m 39 #[.val (.ref p0), .val (.int p1), .val (.int (15 : Int32)), .val (.int (((p1 * (-1640531527 : Int32)).toUInt32 >>> ((28 : Int32) &&& 31).toUInt32).toInt32))] [(.int p1), (.int (ga ((((p1 * (-1640531527 : Int32)).toUInt32 >>> ((28 : Int32) &&& 31).toUInt32).toInt32).toNatClampNeg)))])) _
        refine XS.icmpNo X96.here hx rfl (hb hby d7_39) rfl (feq hc39).1 ?_
        show Steps p.tables e below (T96.setTop (mkF m 42 #[.val (.ref p0), .val (.int p1), .val (.int (15 : Int32)), .val (.int (((p1 * (-1640531527 : Int32)).toUInt32 >>> ((28 : Int32) &&& 31).toUInt32).toInt32))] [])) _
        refine XS.aloadN X96.here hx rfl (hb hby d7_42) rfl rfl ?_
        exact kont
      obtain ⟨T101, X101, e101, st101⟩ := getF X96 hx hZ hown (host := "") (Or.inl (hw _ (List.mem_of_getElem? (i := 20) rfl))) Via.refl e96 q_alignments (g := (mkF m 43 #[.val (.ref p0), .val (.int p1), .val (.int (15 : Int32)), .val (.int (((p1 * (-1640531527 : Int32)).toUInt32 >>> ((28 : Int32) &&& 31).toUInt32).toInt32))] [(.ref p0)])) rfl rfl (hb hby d7_43)
      have pre102 : ∀ t, Steps p.tables e below (T101.setTop (mkF m 46 #[.val (.ref p0), .val (.int p1), .val (.int (15 : Int32)), .val (.int (((p1 * (-1640531527 : Int32)).toUInt32 >>> ((28 : Int32) &&& 31).toUInt32).toInt32))] [(.ref ba)])) t → Steps p.tables e below (s₁.setTop (entryFrame m #[(.ref p0), (.int p1)] 4)) t := fun t kont => pre100 t (st101 _ kont)
      have pre103 : ∀ t, Steps p.tables e below (T101.setTop (mkF m 50 #[.val (.ref p0), .val (.int p1), .val (.int (15 : Int32)), .val (.int (((p1 * (-1640531527 : Int32)).toUInt32 >>> ((28 : Int32) &&& 31).toUInt32).toInt32))] [(.int (-2147483648 : Int32)), (.int (ga ((((p1 * (-1640531527 : Int32)).toUInt32 >>> ((28 : Int32) &&& 31).toUInt32).toInt32).toNatClampNeg)))])) t → Steps p.tables e below (s₁.setTop (entryFrame m #[(.ref p0), (.int p1)] 4)) t := by
        intro t kont
        refine pre102 t ?_
        show Steps p.tables e below (T101.setTop (mkF m 46 #[.val (.ref p0), .val (.int p1), .val (.int (15 : Int32)), .val (.int (((p1 * (-1640531527 : Int32)).toUInt32 >>> ((28 : Int32) &&& 31).toUInt32).toInt32))] [(.ref ba)])) _
        refine XS.iloadN X101.here hx rfl (hb hby d7_46) rfl ?_
        show Steps p.tables e below (T101.setTop (mkF m 47 #[.val (.ref p0), .val (.int p1), .val (.int (15 : Int32)), .val (.int (((p1 * (-1640531527 : Int32)).toUInt32 >>> ((28 : Int32) &&& 31).toUInt32).toInt32))] [(.int (((p1 * (-1640531527 : Int32)).toUInt32 >>> ((28 : Int32) &&& 31).toUInt32).toInt32)), (.ref ba)])) _
        refine own_ldI X101 hx hZ e101 Va (k := (((p1 * (-1640531527 : Int32)).toUInt32 >>> ((28 : Int32) &&& 31).toUInt32).toInt32).toNatClampNeg) (own_home p1).1 rfl (own_home p1).2 (fr := (mkF m 47 #[.val (.ref p0), .val (.int p1), .val (.int (15 : Int32)), .val (.int (((p1 * (-1640531527 : Int32)).toUInt32 >>> ((28 : Int32) &&& 31).toUInt32).toInt32))] [(.int (((p1 * (-1640531527 : Int32)).toUInt32 >>> ((28 : Int32) &&& 31).toUInt32).toInt32)), (.ref ba)])) rfl rfl (hb hby d7_47) _ ?_
        show Steps p.tables e below (T101.setTop (mkF m 48 #[.val (.ref p0), .val (.int p1), .val (.int (15 : Int32)), .val (.int (((p1 * (-1640531527 : Int32)).toUInt32 >>> ((28 : Int32) &&& 31).toUInt32).toInt32))] [(.int (ga ((((p1 * (-1640531527 : Int32)).toUInt32 >>> ((28 : Int32) &&& 31).toUInt32).toInt32).toNatClampNeg)))])) _
        refine X101.ldcInt hx hown (mvT hZ (hw _ (List.mem_of_getElem? (i := 15) rfl))) (g := (mkF m 48 #[.val (.ref p0), .val (.int p1), .val (.int (15 : Int32)), .val (.int (((p1 * (-1640531527 : Int32)).toUInt32 >>> ((28 : Int32) &&& 31).toUInt32).toInt32))] [(.int (ga ((((p1 * (-1640531527 : Int32)).toUInt32 >>> ((28 : Int32) &&& 31).toUInt32).toInt32).toNatClampNeg)))])) rfl (hb hby d7_48) _ ?_
        exact kont
      by_cases hc50 : (ga ((((p1 * (-1640531527 : Int32)).toUInt32 >>> ((28 : Int32) &&& 31).toUInt32).toInt32).toNatClampNeg)) = (-2147483648 : Int32)
      · have pre104 : ∀ t, Steps p.tables e below (T101.setTop (mkF m 63 #[.val (.ref p0), .val (.int p1), .val (.int (15 : Int32)), .val (.int (((p1 * (-1640531527 : Int32)).toUInt32 >>> ((28 : Int32) &&& 31).toUInt32).toInt32))] [(.int (((p1 * (-1640531527 : Int32)).toUInt32 >>> ((28 : Int32) &&& 31).toUInt32).toInt32))])) t → Steps p.tables e below (s₁.setTop (entryFrame m #[(.ref p0), (.int p1)] 4)) t := by
          intro t kont
          refine pre103 t ?_
          show Steps p.tables e below (T101.setTop (mkF m 50 #[.val (.ref p0), .val (.int p1), .val (.int (15 : Int32)), .val (.int (((p1 * (-1640531527 : Int32)).toUInt32 >>> ((28 : Int32) &&& 31).toUInt32).toInt32))] [(.int (-2147483648 : Int32)), (.int (ga ((((p1 * (-1640531527 : Int32)).toUInt32 >>> ((28 : Int32) &&& 31).toUInt32).toInt32).toNatClampNeg)))])) _
          refine XS.icmpYes X101.here hx rfl (pc0 := 50) (pc' := 62) rfl (hb hby d7_50) rfl (teq hc50).1 (by decide) (by decide) ?_
          show Steps p.tables e below (T101.setTop (mkF m 62 #[.val (.ref p0), .val (.int p1), .val (.int (15 : Int32)), .val (.int (((p1 * (-1640531527 : Int32)).toUInt32 >>> ((28 : Int32) &&& 31).toUInt32).toInt32))] [])) _
          refine XS.iloadN X101.here hx rfl (hb hby d7_62) rfl ?_
          exact kont
        obtain ⟨fs, hr, hrun, hended, hW, hsame⟩ := X101.leave (v := some (.int (((p1 * (-1640531527 : Int32)).toUInt32 >>> ((28 : Int32) &&& 31).toUInt32).toInt32))) (fun h => by rw [Bd.returns] at h; cases h)
        refine ⟨_, _, pre104 _ ?_, hrun, hended, _, _, rfl, ?_, ⟨_, rfl⟩, hW, hsame.mono (by decide) (by decide)⟩
        · exact retI X101 hx Bd.returns (hb hby d7_63) hr
        · show Q7 Z p0 p1 be ba bn bf dr ow lw sz ne ge ga gn gf h0 n0 _ T101.heap _
          rw [e101]
          refine ⟨?_, N0, rfl⟩
          unfold own_slot; rw [if_pos hc4]; unfold own_probe; rw [if_neg hc39, if_pos hc50]
      · have pre105 : ∀ t, Steps p.tables e below (T101.setTop (mkF m 33 #[.val (.ref p0), .val (.int p1), .val (.int (15 : Int32)), .val (.int (((((p1 * (-1640531527 : Int32)).toUInt32 >>> ((28 : Int32) &&& 31).toUInt32).toInt32) + (1 : Int32)) &&& (15 : Int32)))] [(.ref p0)])) t → Steps p.tables e below (s₁.setTop (entryFrame m #[(.ref p0), (.int p1)] 4)) t := by
          intro t kont
          refine pre103 t ?_
          show Steps p.tables e below (T101.setTop (mkF m 50 #[.val (.ref p0), .val (.int p1), .val (.int (15 : Int32)), .val (.int (((p1 * (-1640531527 : Int32)).toUInt32 >>> ((28 : Int32) &&& 31).toUInt32).toInt32))] [(.int (-2147483648 : Int32)), (.int (ga ((((p1 * (-1640531527 : Int32)).toUInt32 >>> ((28 : Int32) &&& 31).toUInt32).toInt32).toNatClampNeg)))])) _
          refine XS.icmpNo X101.here hx rfl (hb hby d7_50) rfl (feq hc50).1 ?_
          show Steps p.tables e below (T101.setTop (mkF m 53 #[.val (.ref p0), .val (.int p1), .val (.int (15 : Int32)), .val (.int (((p1 * (-1640531527 : Int32)).toUInt32 >>> ((28 : Int32) &&& 31).toUInt32).toInt32))] [])) _
          refine XS.iloadN X101.here hx rfl (hb hby d7_53) rfl ?_
          show Steps p.tables e below (T101.setTop (mkF m 54 #[.val (.ref p0), .val (.int p1), .val (.int (15 : Int32)), .val (.int (((p1 * (-1640531527 : Int32)).toUInt32 >>> ((28 : Int32) &&& 31).toUInt32).toInt32))] [(.int (((p1 * (-1640531527 : Int32)).toUInt32 >>> ((28 : Int32) &&& 31).toUInt32).toInt32))])) _
          refine XS.iconst X101.here hx rfl (hb hby d7_54) ?_
          show Steps p.tables e below (T101.setTop (mkF m 55 #[.val (.ref p0), .val (.int p1), .val (.int (15 : Int32)), .val (.int (((p1 * (-1640531527 : Int32)).toUInt32 >>> ((28 : Int32) &&& 31).toUInt32).toInt32))] [(.int (1 : Int32)), (.int (((p1 * (-1640531527 : Int32)).toUInt32 >>> ((28 : Int32) &&& 31).toUInt32).toInt32))])) _
          refine XS.iadd X101.here hx rfl (hb hby d7_55) rfl ?_
          show Steps p.tables e below (T101.setTop (mkF m 56 #[.val (.ref p0), .val (.int p1), .val (.int (15 : Int32)), .val (.int (((p1 * (-1640531527 : Int32)).toUInt32 >>> ((28 : Int32) &&& 31).toUInt32).toInt32))] [(.int ((((p1 * (-1640531527 : Int32)).toUInt32 >>> ((28 : Int32) &&& 31).toUInt32).toInt32) + (1 : Int32)))])) _
          refine XS.iloadN X101.here hx rfl (hb hby d7_56) rfl ?_
          show Steps p.tables e below (T101.setTop (mkF m 57 #[.val (.ref p0), .val (.int p1), .val (.int (15 : Int32)), .val (.int (((p1 * (-1640531527 : Int32)).toUInt32 >>> ((28 : Int32) &&& 31).toUInt32).toInt32))] [(.int (15 : Int32)), (.int ((((p1 * (-1640531527 : Int32)).toUInt32 >>> ((28 : Int32) &&& 31).toUInt32).toInt32) + (1 : Int32)))])) _
          refine XS.iand X101.here hx rfl (hb hby d7_57) rfl ?_
          show Steps p.tables e below (T101.setTop (mkF m 58 #[.val (.ref p0), .val (.int p1), .val (.int (15 : Int32)), .val (.int (((p1 * (-1640531527 : Int32)).toUInt32 >>> ((28 : Int32) &&& 31).toUInt32).toInt32))] [(.int (((((p1 * (-1640531527 : Int32)).toUInt32 >>> ((28 : Int32) &&& 31).toUInt32).toInt32) + (1 : Int32)) &&& (15 : Int32)))])) _
          refine XS.istoreN X101.here hx rfl (hb hby d7_58) rfl (l' := #[.val (.ref p0), .val (.int p1), .val (.int (15 : Int32)), .val (.int (((((p1 * (-1640531527 : Int32)).toUInt32 >>> ((28 : Int32) &&& 31).toUInt32).toInt32) + (1 : Int32)) &&& (15 : Int32)))]) rfl ?_
          show Steps p.tables e below (T101.setTop (mkF m 59 #[.val (.ref p0), .val (.int p1), .val (.int (15 : Int32)), .val (.int (((((p1 * (-1640531527 : Int32)).toUInt32 >>> ((28 : Int32) &&& 31).toUInt32).toInt32) + (1 : Int32)) &&& (15 : Int32)))] [])) _
          refine XS.goto X101.here hx rfl (pc0 := 59) (pc' := 32) rfl (hb hby d7_59) (by decide) (by decide) ?_
          show Steps p.tables e below (T101.setTop (mkF m 32 #[.val (.ref p0), .val (.int p1), .val (.int (15 : Int32)), .val (.int (((((p1 * (-1640531527 : Int32)).toUInt32 >>> ((28 : Int32) &&& 31).toUInt32).toInt32) + (1 : Int32)) &&& (15 : Int32)))] [])) _
          refine XS.aloadN X101.here hx rfl (hb hby d7_32) rfl rfl ?_
          exact kont
        obtain ⟨T106, X106, e106, st106⟩ := getF X101 hx hZ hown (host := "") (Or.inl (hw _ (List.mem_of_getElem? (i := 20) rfl))) Via.refl e101 q_alignments (g := (mkF m 33 #[.val (.ref p0), .val (.int p1), .val (.int (15 : Int32)), .val (.int (((((p1 * (-1640531527 : Int32)).toUInt32 >>> ((28 : Int32) &&& 31).toUInt32).toInt32) + (1 : Int32)) &&& (15 : Int32)))] [(.ref p0)])) rfl rfl (hb hby d7_33)
        have pre107 : ∀ t, Steps p.tables e below (T106.setTop (mkF m 36 #[.val (.ref p0), .val (.int p1), .val (.int (15 : Int32)), .val (.int (((((p1 * (-1640531527 : Int32)).toUInt32 >>> ((28 : Int32) &&& 31).toUInt32).toInt32) + (1 : Int32)) &&& (15 : Int32)))] [(.ref ba)])) t → Steps p.tables e below (s₁.setTop (entryFrame m #[(.ref p0), (.int p1)] 4)) t := fun t kont => pre105 t (st106 _ kont)
        have pre108 : ∀ t, Steps p.tables e below (T106.setTop (mkF m 39 #[.val (.ref p0), .val (.int p1), .val (.int (15 : Int32)), .val (.int (((((p1 * (-1640531527 : Int32)).toUInt32 >>> ((28 : Int32) &&& 31).toUInt32).toInt32) + (1 : Int32)) &&& (15 : Int32)))] [(.int p1), (.int (ga ((((((p1 * (-1640531527 : Int32)).toUInt32 >>> ((28 : Int32) &&& 31).toUInt32).toInt32) + (1 : Int32)) &&& (15 : Int32)).toNatClampNeg)))])) t → Steps p.tables e below (s₁.setTop (entryFrame m #[(.ref p0), (.int p1)] 4)) t := by
          intro t kont
          refine pre107 t ?_
          show Steps p.tables e below (T106.setTop (mkF m 36 #[.val (.ref p0), .val (.int p1), .val (.int (15 : Int32)), .val (.int (((((p1 * (-1640531527 : Int32)).toUInt32 >>> ((28 : Int32) &&& 31).toUInt32).toInt32) + (1 : Int32)) &&& (15 : Int32)))] [(.ref ba)])) _
          refine XS.iloadN X106.here hx rfl (hb hby d7_36) rfl ?_
          show Steps p.tables e below (T106.setTop (mkF m 37 #[.val (.ref p0), .val (.int p1), .val (.int (15 : Int32)), .val (.int (((((p1 * (-1640531527 : Int32)).toUInt32 >>> ((28 : Int32) &&& 31).toUInt32).toInt32) + (1 : Int32)) &&& (15 : Int32)))] [(.int (((((p1 * (-1640531527 : Int32)).toUInt32 >>> ((28 : Int32) &&& 31).toUInt32).toInt32) + (1 : Int32)) &&& (15 : Int32))), (.ref ba)])) _
          refine own_ldI X106 hx hZ e106 Va (k := (((((p1 * (-1640531527 : Int32)).toUInt32 >>> ((28 : Int32) &&& 31).toUInt32).toInt32) + (1 : Int32)) &&& (15 : Int32)).toNatClampNeg) (own_nxt _).1 rfl (own_nxt _).2 (fr := (mkF m 37 #[.val (.ref p0), .val (.int p1), .val (.int (15 : Int32)), .val (.int (((((p1 * (-1640531527 : Int32)).toUInt32 >>> ((28 : Int32) &&& 31).toUInt32).toInt32) + (1 : Int32)) &&& (15 : Int32)))] [(.int (((((p1 * (-1640531527 : Int32)).toUInt32 >>> ((28 : Int32) &&& 31).toUInt32).toInt32) + (1 : Int32)) &&& (15 : Int32))), (.ref ba)])) rfl rfl (hb hby d7_37) _ ?_
          show Steps p.tables e below (T106.setTop (mkF m 38 #[.val (.ref p0), .val (.int p1), .val (.int (15 : Int32)), .val (.int (((((p1 * (-1640531527 : Int32)).toUInt32 >>> ((28 : Int32) &&& 31).toUInt32).toInt32) + (1 : Int32)) &&& (15 : Int32)))] [(.int (ga ((((((p1 * (-1640531527 : Int32)).toUInt32 >>> ((28 : Int32) &&& 31).toUInt32).toInt32) + (1 : Int32)) &&& (15 : Int32)).toNatClampNeg)))])) _
          refine XS.iloadN X106.here hx rfl (hb hby d7_38) rfl ?_
          exact kont
        by_cases hc39' : (ga ((((((p1 * (-1640531527 : Int32)).toUInt32 >>> ((28 : Int32) &&& 31).toUInt32).toInt32) + (1 : Int32)) &&& (15 : Int32)).toNatClampNeg)) = p1
        · have pre109 : ∀ t, Steps p.tables e below (T106.setTop (mkF m 63 #[.val (.ref p0), .val (.int p1), .val (.int (15 : Int32)), .val (.int (((((p1 * (-1640531527 : Int32)).toUInt32 >>> ((28 : Int32) &&& 31).toUInt32).toInt32) + (1 : Int32)) &&& (15 : Int32)))] [(.int (((((p1 * (-1640531527 : Int32)).toUInt32 >>> ((28 : Int32) &&& 31).toUInt32).toInt32) + (1 : Int32)) &&& (15 : Int32)))])) t → Steps p.tables e below (s₁.setTop (entryFrame m #[(.ref p0), (.int p1)] 4)) t := by
            intro t kont
            refine pre108 t ?_
            show Steps p.tables e below (T106.setTop (mkF m 39 #[.val (.ref p0), .val (.int p1), .val (.int (15 : Int32)), .val (.int (((((p1 * (-1640531527 : Int32)).toUInt32 >>> ((28 : Int32) &&& 31).toUInt32).toInt32) + (1 : Int32)) &&& (15 : Int32)))] [(.int p1), (.int (ga ((((((p1 * (-1640531527 : Int32)).toUInt32 >>> ((28 : Int32) &&& 31).toUInt32).toInt32) + (1 : Int32)) &&& (15 : Int32)).toNatClampNeg)))])) _
            refine XS.icmpYes X106.here hx rfl (pc0 := 39) (pc' := 62) rfl (hb hby d7_39) rfl (teq hc39').1 (by decide) (by decide) ?_
            show Steps p.tables e below (T106.setTop (mkF m 62 #[.val (.ref p0), .val (.int p1), .val (.int (15 : Int32)), .val (.int (((((p1 * (-1640531527 : Int32)).toUInt32 >>> ((28 : Int32) &&& 31).toUInt32).toInt32) + (1 : Int32)) &&& (15 : Int32)))] [])) _
            refine XS.iloadN X106.here hx rfl (hb hby d7_62) rfl ?_
            exact kont
          obtain ⟨fs, hr, hrun, hended, hW, hsame⟩ := X106.leave (v := some (.int (((((p1 * (-1640531527 : Int32)).toUInt32 >>> ((28 : Int32) &&& 31).toUInt32).toInt32) + (1 : Int32)) &&& (15 : Int32)))) (fun h => by rw [Bd.returns] at h; cases h)
          refine ⟨_, _, pre109 _ ?_, hrun, hended, _, _, rfl, ?_, ⟨_, rfl⟩, hW, hsame.mono (by decide) (by decide)⟩
          · exact retI X106 hx Bd.returns (hb hby d7_63) hr
          · show Q7 Z p0 p1 be ba bn bf dr ow lw sz ne ge ga gn gf h0 n0 _ T106.heap _
            rw [e106]
            refine ⟨?_, N0, rfl⟩
            unfold own_slot; rw [if_pos hc4]; unfold own_probe; rw [if_neg hc39, if_neg hc50, if_pos hc39']
        · have pre110 : ∀ t, Steps p.tables e below (T106.setTop (mkF m 43 #[.val (.ref p0), .val (.int p1), .val (.int (15 : Int32)), .val (.int (((((p1 * (-1640531527 : Int32)).toUInt32 >>> ((28 : Int32) &&& 31).toUInt32).toInt32) + (1 : Int32)) &&& (15 : Int32)))] [(.ref p0)])) t → Steps p.tables e below (s₁.setTop (entryFrame m #[(.ref p0), (.int p1)] 4)) t := by
            intro t kont
            refine pre108 t ?_
            show Steps p.tables e below (T106.setTop (mkF m 39 #[.val (.ref p0), .val (.int p1), .val (.int (15 : Int32)), .val (.int (((((p1 * (-1640531527 : Int32)).toUInt32 >>> ((28 : Int32) &&& 31).toUInt32).toInt32) + (1 : Int32)) &&& (15 : Int32)))] [(.int p1), (.int (ga ((((((p1 * (-1640531527 : Int32)).toUInt32 >>> ((28 : Int32) &&& 31).toUInt32).toInt32) + (1 : Int32)) &&& (15 : Int32)).toNatClampNeg)))])) _
            refine XS.icmpNo X106.here hx rfl (hb hby d7_39) rfl (feq hc39').1 ?_
            show Steps p.tables e below (T106.setTop (mkF m 42 #[.val (.ref p0), .val (.int p1), .val (.int (15 : Int32)), .val (.int (((((p1 * (-1640531527 : Int32)).toUInt32 >>> ((28 : Int32) &&& 31).toUInt32).toInt32) + (1 : Int32)) &&& (15 : Int32)))] [])) _
            refine XS.aloadN X106.here hx rfl (hb hby d7_42) rfl rfl ?_
            exact kont
          obtain ⟨T111, X111, e111, st111⟩ := getF X106 hx hZ hown (host := "") (Or.inl (hw _ (List.mem_of_getElem? (i := 20) rfl))) Via.refl e106 q_alignments (g := (mkF m 43 #[.val (.ref p0), .val (.int p1), .val (.int (15 : Int32)), .val (.int (((((p1 * (-1640531527 : Int32)).toUInt32 >>> ((28 : Int32) &&& 31).toUInt32).toInt32) + (1 : Int32)) &&& (15 : Int32)))] [(.ref p0)])) rfl rfl (hb hby d7_43)
          have pre112 : ∀ t, Steps p.tables e below (T111.setTop (mkF m 46 #[.val (.ref p0), .val (.int p1), .val (.int (15 : Int32)), .val (.int (((((p1 * (-1640531527 : Int32)).toUInt32 >>> ((28 : Int32) &&& 31).toUInt32).toInt32) + (1 : Int32)) &&& (15 : Int32)))] [(.ref ba)])) t → Steps p.tables e below (s₁.setTop (entryFrame m #[(.ref p0), (.int p1)] 4)) t := fun t kont => pre110 t (st111 _ kont)
          have pre113 : ∀ t, Steps p.tables e below (T111.setTop (mkF m 50 #[.val (.ref p0), .val (.int p1), .val (.int (15 : Int32)), .val (.int (((((p1 * (-1640531527 : Int32)).toUInt32 >>> ((28 : Int32) &&& 31).toUInt32).toInt32) + (1 : Int32)) &&& (15 : Int32)))] [(.int (-2147483648 : Int32)), (.int (ga ((((((p1 * (-1640531527 : Int32)).toUInt32 >>> ((28 : Int32) &&& 31).toUInt32).toInt32) + (1 : Int32)) &&& (15 : Int32)).toNatClampNeg)))])) t → Steps p.tables e below (s₁.setTop (entryFrame m #[(.ref p0), (.int p1)] 4)) t := by
            intro t kont
            refine pre112 t ?_
            show Steps p.tables e below (T111.setTop (mkF m 46 #[.val (.ref p0), .val (.int p1), .val (.int (15 : Int32)), .val (.int (((((p1 * (-1640531527 : Int32)).toUInt32 >>> ((28 : Int32) &&& 31).toUInt32).toInt32) + (1 : Int32)) &&& (15 : Int32)))] [(.ref ba)])) _
            refine XS.iloadN X111.here hx rfl (hb hby d7_46) rfl ?_
            show Steps p.tables e below (T111.setTop (mkF m 47 #[.val (.ref p0), .val (.int p1), .val (.int (15 : Int32)), .val (.int (((((p1 * (-1640531527 : Int32)).toUInt32 >>> ((28 : Int32) &&& 31).toUInt32).toInt32) + (1 : Int32)) &&& (15 : Int32)))] [(.int (((((p1 * (-1640531527 : Int32)).toUInt32 >>> ((28 : Int32) &&& 31).toUInt32).toInt32) + (1 : Int32)) &&& (15 : Int32))), (.ref ba)])) _
            refine own_ldI X111 hx hZ e111 Va (k := (((((p1 * (-1640531527 : Int32)).toUInt32 >>> ((28 : Int32) &&& 31).toUInt32).toInt32) + (1 : Int32)) &&& (15 : Int32)).toNatClampNeg) (own_nxt _).1 rfl (own_nxt _).2 (fr := (mkF m 47 #[.val (.ref p0), .val (.int p1), .val (.int (15 : Int32)), .val (.int (((((p1 * (-1640531527 : Int32)).toUInt32 >>> ((28 : Int32) &&& 31).toUInt32).toInt32) + (1 : Int32)) &&& (15 : Int32)))] [(.int (((((p1 * (-1640531527 : Int32)).toUInt32 >>> ((28 : Int32) &&& 31).toUInt32).toInt32) + (1 : Int32)) &&& (15 : Int32))), (.ref ba)])) rfl rfl (hb hby d7_47) _ ?_
            show Steps p.tables e below (T111.setTop (mkF m 48 #[.val (.ref p0), .val (.int p1), .val (.int (15 : Int32)), .val (.int (((((p1 * (-1640531527 : Int32)).toUInt32 >>> ((28 : Int32) &&& 31).toUInt32).toInt32) + (1 : Int32)) &&& (15 : Int32)))] [(.int (ga ((((((p1 * (-1640531527 : Int32)).toUInt32 >>> ((28 : Int32) &&& 31).toUInt32).toInt32) + (1 : Int32)) &&& (15 : Int32)).toNatClampNeg)))])) _
            refine X111.ldcInt hx hown (mvT hZ (hw _ (List.mem_of_getElem? (i := 15) rfl))) (g := (mkF m 48 #[.val (.ref p0), .val (.int p1), .val (.int (15 : Int32)), .val (.int (((((p1 * (-1640531527 : Int32)).toUInt32 >>> ((28 : Int32) &&& 31).toUInt32).toInt32) + (1 : Int32)) &&& (15 : Int32)))] [(.int (ga ((((((p1 * (-1640531527 : Int32)).toUInt32 >>> ((28 : Int32) &&& 31).toUInt32).toInt32) + (1 : Int32)) &&& (15 : Int32)).toNatClampNeg)))])) rfl (hb hby d7_48) _ ?_
            exact kont
          by_cases hc50' : (ga ((((((p1 * (-1640531527 : Int32)).toUInt32 >>> ((28 : Int32) &&& 31).toUInt32).toInt32) + (1 : Int32)) &&& (15 : Int32)).toNatClampNeg)) = (-2147483648 : Int32)
          · have pre114 : ∀ t, Steps p.tables e below (T111.setTop (mkF m 63 #[.val (.ref p0), .val (.int p1), .val (.int (15 : Int32)), .val (.int (((((p1 * (-1640531527 : Int32)).toUInt32 >>> ((28 : Int32) &&& 31).toUInt32).toInt32) + (1 : Int32)) &&& (15 : Int32)))] [(.int (((((p1 * (-1640531527 : Int32)).toUInt32 >>> ((28 : Int32) &&& 31).toUInt32).toInt32) + (1 : Int32)) &&& (15 : Int32)))])) t → Steps p.tables e below (s₁.setTop (entryFrame m #[(.ref p0), (.int p1)] 4)) t := by
              intro t kont
              refine pre113 t ?_
              show Steps p.tables e below (T111.setTop (mkF m 50 #[.val (.ref p0), .val (.int p1), .val (.int (15 : Int32)), .val (.int (((((p1 * (-1640531527 : Int32)).toUInt32 >>> ((28 : Int32) &&& 31).toUInt32).toInt32) + (1 : Int32)) &&& (15 : Int32)))] [(.int (-2147483648 : Int32)), (.int (ga ((((((p1 * (-1640531527 : Int32)).toUInt32 >>> ((28 : Int32) &&& 31).toUInt32).toInt32) + (1 : Int32)) &&& (15 : Int32)).toNatClampNeg)))])) _
              refine XS.icmpYes X111.here hx rfl (pc0 := 50) (pc' := 62) rfl (hb hby d7_50) rfl (teq hc50').1 (by decide) (by decide) ?_
              show Steps p.tables e below (T111.setTop (mkF m 62 #[.val (.ref p0), .val (.int p1), .val (.int (15 : Int32)), .val (.int (((((p1 * (-1640531527 : Int32)).toUInt32 >>> ((28 : Int32) &&& 31).toUInt32).toInt32) + (1 : Int32)) &&& (15 : Int32)))] [])) _
              refine XS.iloadN X111.here hx rfl (hb hby d7_62) rfl ?_
              exact kont
            obtain ⟨fs, hr, hrun, hended, hW, hsame⟩ := X111.leave (v := some (.int (((((p1 * (-1640531527 : Int32)).toUInt32 >>> ((28 : Int32) &&& 31).toUInt32).toInt32) + (1 : Int32)) &&& (15 : Int32)))) (fun h => by rw [Bd.returns] at h; cases h)
            refine ⟨_, _, pre114 _ ?_, hrun, hended, _, _, rfl, ?_, ⟨_, rfl⟩, hW, hsame.mono (by decide) (by decide)⟩
            · exact retI X111 hx Bd.returns (hb hby d7_63) hr
            · show Q7 Z p0 p1 be ba bn bf dr ow lw sz ne ge ga gn gf h0 n0 _ T111.heap _
              rw [e111]
              refine ⟨?_, N0, rfl⟩
              unfold own_slot; rw [if_pos hc4]; unfold own_probe; rw [if_neg hc39, if_neg hc50, if_neg hc39', if_pos hc50']
          · have pre115 : ∀ t, Steps p.tables e below (T111.setTop (mkF m 33 #[.val (.ref p0), .val (.int p1), .val (.int (15 : Int32)), .val (.int (((((((p1 * (-1640531527 : Int32)).toUInt32 >>> ((28 : Int32) &&& 31).toUInt32).toInt32) + (1 : Int32)) &&& (15 : Int32)) + (1 : Int32)) &&& (15 : Int32)))] [(.ref p0)])) t → Steps p.tables e below (s₁.setTop (entryFrame m #[(.ref p0), (.int p1)] 4)) t := by
              intro t kont
              refine pre113 t ?_
              show Steps p.tables e below (T111.setTop (mkF m 50 #[.val (.ref p0), .val (.int p1), .val (.int (15 : Int32)), .val (.int (((((p1 * (-1640531527 : Int32)).toUInt32 >>> ((28 : Int32) &&& 31).toUInt32).toInt32) + (1 : Int32)) &&& (15 : Int32)))] [(.int (-2147483648 : Int32)), (.int (ga ((((((p1 * (-1640531527 : Int32)).toUInt32 >>> ((28 : Int32) &&& 31).toUInt32).toInt32) + (1 : Int32)) &&& (15 : Int32)).toNatClampNeg)))])) _
              refine XS.icmpNo X111.here hx rfl (hb hby d7_50) rfl (feq hc50').1 ?_
              show Steps p.tables e below (T111.setTop (mkF m 53 #[.val (.ref p0), .val (.int p1), .val (.int (15 : Int32)), .val (.int (((((p1 * (-1640531527 : Int32)).toUInt32 >>> ((28 : Int32) &&& 31).toUInt32).toInt32) + (1 : Int32)) &&& (15 : Int32)))] [])) _
              refine XS.iloadN X111.here hx rfl (hb hby d7_53) rfl ?_
              show Steps p.tables e below (T111.setTop (mkF m 54 #[.val (.ref p0), .val (.int p1), .val (.int (15 : Int32)), .val (.int (((((p1 * (-1640531527 : Int32)).toUInt32 >>> ((28 : Int32) &&& 31).toUInt32).toInt32) + (1 : Int32)) &&& (15 : Int32)))] [(.int (((((p1 * (-1640531527 : Int32)).toUInt32 >>> ((28 : Int32) &&& 31).toUInt32).toInt32) + (1 : Int32)) &&& (15 : Int32)))])) _
              refine XS.iconst X111.here hx rfl (hb hby d7_54) ?_
              show Steps p.tables e below (T111.setTop (mkF m 55 #[.val (.ref p0), .val (.int p1), .val (.int (15 : Int32)), .val (.int (((((p1 * (-1640531527 : Int32)).toUInt32 >>> ((28 : Int32) &&& 31).toUInt32).toInt32) + (1 : Int32)) &&& (15 : Int32)))] [(.int (1 : Int32)), (.int (((((p1 * (-1640531527 : Int32)).toUInt32 >>> ((28 : Int32) &&& 31).toUInt32).toInt32) + (1 : Int32)) &&& (15 : Int32)))])) _
              refine XS.iadd X111.here hx rfl (hb hby d7_55) rfl ?_
              show Steps p.tables e below (T111.setTop (mkF m 56 #[.val (.ref p0), .val (.int p1), .val (.int (15 : Int32)), .val (.int (((((p1 * (-1640531527 : Int32)).toUInt32 >>> ((28 : Int32) &&& 31).toUInt32).toInt32) + (1 : Int32)) &&& (15 : Int32)))] [(.int ((((((p1 * (-1640531527 : Int32)).toUInt32 >>> ((28 : Int32) &&& 31).toUInt32).toInt32) + (1 : Int32)) &&& (15 : Int32)) + (1 : Int32)))])) _
              refine XS.iloadN X111.here hx rfl (hb hby d7_56) rfl ?_
              show Steps p.tables e below (T111.setTop (mkF m 57 #[.val (.ref p0), .val (.int p1), .val (.int (15 : Int32)), .val (.int (((((p1 * (-1640531527 : Int32)).toUInt32 >>> ((28 : Int32) &&& 31).toUInt32).toInt32) + (1 : Int32)) &&& (15 : Int32)))] [(.int (15 : Int32)), (.int ((((((p1 * (-1640531527 : Int32)).toUInt32 >>> ((28 : Int32) &&& 31).toUInt32).toInt32) + (1 : Int32)) &&& (15 : Int32)) + (1 : Int32)))])) _
              refine XS.iand X111.here hx rfl (hb hby d7_57) rfl ?_
              show Steps p.tables e below (T111.setTop (mkF m 58 #[.val (.ref p0), .val (.int p1), .val (.int (15 : Int32)), .val (.int (((((p1 * (-1640531527 : Int32)).toUInt32 >>> ((28 : Int32) &&& 31).toUInt32).toInt32) + (1 : Int32)) &&& (15 : Int32)))] [(.int (((((((p1 * (-1640531527 : Int32)).toUInt32 >>> ((28 : Int32) &&& 31).toUInt32).toInt32) + (1 : Int32)) &&& (15 : Int32)) + (1 : Int32)) &&& (15 : Int32)))])) _
              refine XS.istoreN X111.here hx rfl (hb hby d7_58) rfl (l' := #[.val (.ref p0), .val (.int p1), .val (.int (15 : Int32)), .val (.int (((((((p1 * (-1640531527 : Int32)).toUInt32 >>> ((28 : Int32) &&& 31).toUInt32).toInt32) + (1 : Int32)) &&& (15 : Int32)) + (1 : Int32)) &&& (15 : Int32)))]) rfl ?_
              show Steps p.tables e below (T111.setTop (mkF m 59 #[.val (.ref p0), .val (.int p1), .val (.int (15 : Int32)), .val (.int (((((((p1 * (-1640531527 : Int32)).toUInt32 >>> ((28 : Int32) &&& 31).toUInt32).toInt32) + (1 : Int32)) &&& (15 : Int32)) + (1 : Int32)) &&& (15 : Int32)))] [])) _
              refine XS.goto X111.here hx rfl (pc0 := 59) (pc' := 32) rfl (hb hby d7_59) (by decide) (by decide) ?_
              show Steps p.tables e below (T111.setTop (mkF m 32 #[.val (.ref p0), .val (.int p1), .val (.int (15 : Int32)), .val (.int (((((((p1 * (-1640531527 : Int32)).toUInt32 >>> ((28 : Int32) &&& 31).toUInt32).toInt32) + (1 : Int32)) &&& (15 : Int32)) + (1 : Int32)) &&& (15 : Int32)))] [])) _
              refine XS.aloadN X111.here hx rfl (hb hby d7_32) rfl rfl ?_
              exact kont
            obtain ⟨T116, X116, e116, st116⟩ := getF X111 hx hZ hown (host := "") (Or.inl (hw _ (List.mem_of_getElem? (i := 20) rfl))) Via.refl e111 q_alignments (g := (mkF m 33 #[.val (.ref p0), .val (.int p1), .val (.int (15 : Int32)), .val (.int (((((((p1 * (-1640531527 : Int32)).toUInt32 >>> ((28 : Int32) &&& 31).toUInt32).toInt32) + (1 : Int32)) &&& (15 : Int32)) + (1 : Int32)) &&& (15 : Int32)))] [(.ref p0)])) rfl rfl (hb hby d7_33)
            have pre117 : ∀ t, Steps p.tables e below (T116.setTop (mkF m 36 #[.val (.ref p0), .val (.int p1), .val (.int (15 : Int32)), .val (.int (((((((p1 * (-1640531527 : Int32)).toUInt32 >>> ((28 : Int32) &&& 31).toUInt32).toInt32) + (1 : Int32)) &&& (15 : Int32)) + (1 : Int32)) &&& (15 : Int32)))] [(.ref ba)])) t → Steps p.tables e below (s₁.setTop (entryFrame m #[(.ref p0), (.int p1)] 4)) t := fun t kont => pre115 t (st116 _ kont)
            have pre118 : ∀ t, Steps p.tables e below (T116.setTop (mkF m 39 #[.val (.ref p0), .val (.int p1), .val (.int (15 : Int32)), .val (.int (((((((p1 * (-1640531527 : Int32)).toUInt32 >>> ((28 : Int32) &&& 31).toUInt32).toInt32) + (1 : Int32)) &&& (15 : Int32)) + (1 : Int32)) &&& (15 : Int32)))] [(.int p1), (.int (ga ((((((((p1 * (-1640531527 : Int32)).toUInt32 >>> ((28 : Int32) &&& 31).toUInt32).toInt32) + (1 : Int32)) &&& (15 : Int32)) + (1 : Int32)) &&& (15 : Int32)).toNatClampNeg)))])) t → Steps p.tables e below (s₁.setTop (entryFrame m #[(.ref p0), (.int p1)] 4)) t := by
              intro t kont
              refine pre117 t ?_
              show Steps p.tables e below (T116.setTop (mkF m 36 #[.val (.ref p0), .val (.int p1), .val (.int (15 : Int32)), .val (.int (((((((p1 * (-1640531527 : Int32)).toUInt32 >>> ((28 : Int32) &&& 31).toUInt32).toInt32) + (1 : Int32)) &&& (15 : Int32)) + (1 : Int32)) &&& (15 : Int32)))] [(.ref ba)])) _
              refine XS.iloadN X116.here hx rfl (hb hby d7_36) rfl ?_
              show Steps p.tables e below (T116.setTop (mkF m 37 #[.val (.ref p0), .val (.int p1), .val (.int (15 : Int32)), .val (.int (((((((p1 * (-1640531527 : Int32)).toUInt32 >>> ((28 : Int32) &&& 31).toUInt32).toInt32) + (1 : Int32)) &&& (15 : Int32)) + (1 : Int32)) &&& (15 : Int32)))] [(.int (((((((p1 * (-1640531527 : Int32)).toUInt32 >>> ((28 : Int32) &&& 31).toUInt32).toInt32) + (1 : Int32)) &&& (15 : Int32)) + (1 : Int32)) &&& (15 : Int32))), (.ref ba)])) _
              refine own_ldI X116 hx hZ e116 Va (k := (((((((p1 * (-1640531527 : Int32)).toUInt32 >>> ((28 : Int32) &&& 31).toUInt32).toInt32) + (1 : Int32)) &&& (15 : Int32)) + (1 : Int32)) &&& (15 : Int32)).toNatClampNeg) (own_nxt _).1 rfl (own_nxt _).2 (fr := (mkF m 37 #[.val (.ref p0), .val (.int p1), .val (.int (15 : Int32)), .val (.int (((((((p1 * (-1640531527 : Int32)).toUInt32 >>> ((28 : Int32) &&& 31).toUInt32).toInt32) + (1 : Int32)) &&& (15 : Int32)) + (1 : Int32)) &&& (15 : Int32)))] [(.int (((((((p1 * (-1640531527 : Int32)).toUInt32 >>> ((28 : Int32) &&& 31).toUInt32).toInt32) + (1 : Int32)) &&& (15 : Int32)) + (1 : Int32)) &&& (15 : Int32))), (.ref ba)])) rfl rfl (hb hby d7_37) _ ?_
              show Steps p.tables e below (T116.setTop (mkF m 38 #[.val (.ref p0), .val (.int p1), .val (.int (15 : Int32)), .val (.int (((((((p1 * (-1640531527 : Int32)).toUInt32 >>> ((28 : Int32) &&& 31).toUInt32).toInt32) + (1 : Int32)) &&& (15 : Int32)) + (1 : Int32)) &&& (15 : Int32)))] [(.int (ga ((((((((p1 * (-1640531527 : Int32)).toUInt32 >>> ((28 : Int32) &&& 31).toUInt32).toInt32) + (1 : Int32)) &&& (15 : Int32)) + (1 : Int32)) &&& (15 : Int32)).toNatClampNeg)))])) _
              refine XS.iloadN X116.here hx rfl (hb hby d7_38) rfl ?_
              exact kont
            by_cases hc39'' : (ga ((((((((p1 * (-1640531527 : Int32)).toUInt32 >>> ((28 : Int32) &&& 31).toUInt32).toInt32) + (1 : Int32)) &&& (15 : Int32)) + (1 : Int32)) &&& (15 : Int32)).toNatClampNeg)) = p1
            · have pre119 : ∀ t, Steps p.tables e below (T116.setTop (mkF m 63 #[.val (.ref p0), .val (.int p1), .val (.int (15 : Int32)), .val (.int (((((((p1 * (-1640531527 : Int32)).toUInt32 >>> ((28 : Int32) &&& 31).toUInt32).toInt32) + (1 : Int32)) &&& (15 : Int32)) + (1 : Int32)) &&& (15 : Int32)))] [(.int (((((((p1 * (-1640531527 : Int32)).toUInt32 >>> ((28 : Int32) &&& 31).toUInt32).toInt32) + (1 : Int32)) &&& (15 : Int32)) + (1 : Int32)) &&& (15 : Int32)))])) t → Steps p.tables e below (s₁.setTop (entryFrame m #[(.ref p0), (.int p1)] 4)) t := by
                intro t kont
                refine pre118 t ?_
                show Steps p.tables e below (T116.setTop (mkF m 39 #[.val (.ref p0), .val (.int p1), .val (.int (15 : Int32)), .val (.int (((((((p1 * (-1640531527 : Int32)).toUInt32 >>> ((28 : Int32) &&& 31).toUInt32).toInt32) + (1 : Int32)) &&& (15 : Int32)) + (1 : Int32)) &&& (15 : Int32)))] [(.int p1), (.int (ga ((((((((p1 * (-1640531527 : Int32)).toUInt32 >>> ((28 : Int32) &&& 31).toUInt32).toInt32) + (1 : Int32)) &&& (15 : Int32)) + (1 : Int32)) &&& (15 : Int32)).toNatClampNeg)))])) _
                refine XS.icmpYes X116.here hx rfl (pc0 := 39) (pc' := 62) rfl (hb hby d7_39) rfl (teq hc39'').1 (by decide) (by decide) ?_
                show Steps p.tables e below (T116.setTop (mkF m 62 #[.val (.ref p0), .val (.int p1), .val (.int (15 : Int32)), .val (.int (((((((p1 * (-1640531527 : Int32)).toUInt32 >>> ((28 : Int32) &&& 31).toUInt32).toInt32) + (1 : Int32)) &&& (15 : Int32)) + (1 : Int32)) &&& (15 : Int32)))] [])) _
                refine XS.iloadN X116.here hx rfl (hb hby d7_62) rfl ?_
                exact kont
              obtain ⟨fs, hr, hrun, hended, hW, hsame⟩ := X116.leave (v := some (.int (((((((p1 * (-1640531527 : Int32)).toUInt32 >>> ((28 : Int32) &&& 31).toUInt32).toInt32) + (1 : Int32)) &&& (15 : Int32)) + (1 : Int32)) &&& (15 : Int32)))) (fun h => by rw [Bd.returns] at h; cases h)
              refine ⟨_, _, pre119 _ ?_, hrun, hended, _, _, rfl, ?_, ⟨_, rfl⟩, hW, hsame.mono (by decide) (by decide)⟩
              · exact retI X116 hx Bd.returns (hb hby d7_63) hr
              · show Q7 Z p0 p1 be ba bn bf dr ow lw sz ne ge ga gn gf h0 n0 _ T116.heap _
                rw [e116]
                refine ⟨?_, N0, rfl⟩
                unfold own_slot; rw [if_pos hc4]; unfold own_probe; rw [if_neg hc39, if_neg hc50, if_neg hc39', if_neg hc50', if_pos hc39'']
            · have pre120 : ∀ t, Steps p.tables e below (T116.setTop (mkF m 43 #[.val (.ref p0), .val (.int p1), .val (.int (15 : Int32)), .val (.int (((((((p1 * (-1640531527 : Int32)).toUInt32 >>> ((28 : Int32) &&& 31).toUInt32).toInt32) + (1 : Int32)) &&& (15 : Int32)) + (1 : Int32)) &&& (15 : Int32)))] [(.ref p0)])) t → Steps p.tables e below (s₁.setTop (entryFrame m #[(.ref p0), (.int p1)] 4)) t := by
                intro t kont
                refine pre118 t ?_
                show Steps p.tables e below (T116.setTop (mkF m 39 #[.val (.ref p0), .val (.int p1), .val (.int (15 : Int32)), .val (.int (((((((p1 * (-1640531527 : Int32)).toUInt32 >>> ((28 : Int32) &&& 31).toUInt32).toInt32) + (1 : Int32)) &&& (15 : Int32)) + (1 : Int32)) &&& (15 : Int32)))] [(.int p1), (.int (ga ((((((((p1 * (-1640531527 : Int32)).toUInt32 >>> ((28 : Int32) &&& 31).toUInt32).toInt32) + (1 : Int32)) &&& (15 : Int32)) + (1 : Int32)) &&& (15 : Int32)).toNatClampNeg)))])) _
                refine XS.icmpNo X116.here hx rfl (hb hby d7_39) rfl (feq hc39'').1 ?_
                show Steps p.tables e below (T116.setTop (mkF m 42 #[.val (.ref p0), .val (.int p1), .val (.int (15 : Int32)), .val (.int (((((((p1 * (-1640531527 : Int32)).toUInt32 >>> ((28 : Int32) &&& 31).toUInt32).toInt32) + (1 : Int32)) &&& (15 : Int32)) + (1 : Int32)) &&& (15 : Int32)))] [])) _
                refine XS.aloadN X116.here hx rfl (hb hby d7_42) rfl rfl ?_
                exact kont
              obtain ⟨T121, X121, e121, st121⟩ := getF X116 hx hZ hown (host := "") (Or.inl (hw _ (List.mem_of_getElem? (i := 20) rfl))) Via.refl e116 q_alignments (g := (mkF m 43 #[.val (.ref p0), .val (.int p1), .val (.int (15 : Int32)), .val (.int (((((((p1 * (-1640531527 : Int32)).toUInt32 >>> ((28 : Int32) &&& 31).toUInt32).toInt32) + (1 : Int32)) &&& (15 : Int32)) + (1 : Int32)) &&& (15 : Int32)))] [(.ref p0)])) rfl rfl (hb hby d7_43)
              have pre122 : ∀ t, Steps p.tables e below (T121.setTop (mkF m 46 #[.val (.ref p0), .val (.int p1), .val (.int (15 : Int32)), .val (.int (((((((p1 * (-1640531527 : Int32)).toUInt32 >>> ((28 : Int32) &&& 31).toUInt32).toInt32) + (1 : Int32)) &&& (15 : Int32)) + (1 : Int32)) &&& (15 : Int32)))] [(.ref ba)])) t → Steps p.tables e below (s₁.setTop (entryFrame m #[(.ref p0), (.int p1)] 4)) t := fun t kont => pre120 t (st121 _ kont)
              have pre123 : ∀ t, Steps p.tables e below (T121.setTop (mkF m 50 #[.val (.ref p0), .val (.int p1), .val (.int (15 : Int32)), .val (.int (((((((p1 * (-1640531527 : Int32)).toUInt32 >>> ((28 : Int32) &&& 31).toUInt32).toInt32) + (1 : Int32)) &&& (15 : Int32)) + (1 : Int32)) &&& (15 : Int32)))] [(.int (-2147483648 : Int32)), (.int (ga ((((((((p1 * (-1640531527 : Int32)).toUInt32 >>> ((28 : Int32) &&& 31).toUInt32).toInt32) + (1 : Int32)) &&& (15 : Int32)) + (1 : Int32)) &&& (15 : Int32)).toNatClampNeg)))])) t → Steps p.tables e below (s₁.setTop (entryFrame m #[(.ref p0), (.int p1)] 4)) t := by
                intro t kont
                refine pre122 t ?_
                show Steps p.tables e below (T121.setTop (mkF m 46 #[.val (.ref p0), .val (.int p1), .val (.int (15 : Int32)), .val (.int (((((((p1 * (-1640531527 : Int32)).toUInt32 >>> ((28 : Int32) &&& 31).toUInt32).toInt32) + (1 : Int32)) &&& (15 : Int32)) + (1 : Int32)) &&& (15 : Int32)))] [(.ref ba)])) _
                refine XS.iloadN X121.here hx rfl (hb hby d7_46) rfl ?_
                show Steps p.tables e below (T121.setTop (mkF m 47 #[.val (.ref p0), .val (.int p1), .val (.int (15 : Int32)), .val (.int (((((((p1 * (-1640531527 : Int32)).toUInt32 >>> ((28 : Int32) &&& 31).toUInt32).toInt32) + (1 : Int32)) &&& (15 : Int32)) + (1 : Int32)) &&& (15 : Int32)))] [(.int (((((((p1 * (-1640531527 : Int32)).toUInt32 >>> ((28 : Int32) &&& 31).toUInt32).toInt32) + (1 : Int32)) &&& (15 : Int32)) + (1 : Int32)) &&& (15 : Int32))), (.ref ba)])) _
                refine own_ldI X121 hx hZ e121 Va (k := (((((((p1 * (-1640531527 : Int32)).toUInt32 >>> ((28 : Int32) &&& 31).toUInt32).toInt32) + (1 : Int32)) &&& (15 : Int32)) + (1 : Int32)) &&& (15 : Int32)).toNatClampNeg) (own_nxt _).1 rfl (own_nxt _).2 (fr := (mkF m 47 #[.val (.ref p0), .val (.int p1), .val (.int (15 : Int32)), .val (.int (((((((p1 * (-1640531527 : Int32)).toUInt32 >>> ((28 : Int32) &&& 31).toUInt32).toInt32) + (1 : Int32)) &&& (15 : Int32)) + (1 : Int32)) &&& (15 : Int32)))] [(.int (((((((p1 * (-1640531527 : Int32)).toUInt32 >>> ((28 : Int32) &&& 31).toUInt32).toInt32) + (1 : Int32)) &&& (15 : Int32)) + (1 : Int32)) &&& (15 : Int32))), (.ref ba)])) rfl rfl (hb hby d7_47) _ ?_
                show Steps p.tables e below (T121.setTop (mkF m 48 #[.val (.ref p0), .val (.int p1), .val (.int (15 : Int32)), .val (.int (((((((p1 * (-1640531527 : Int32)).toUInt32 >>> ((28 : Int32) &&& 31).toUInt32).toInt32) + (1 : Int32)) &&& (15 : Int32)) + (1 : Int32)) &&& (15 : Int32)))] [(.int (ga ((((((((p1 * (-1640531527 : Int32)).toUInt32 >>> ((28 : Int32) &&& 31).toUInt32).toInt32) + (1 : Int32)) &&& (15 : Int32)) + (1 : Int32)) &&& (15 : Int32)).toNatClampNeg)))])) _
                refine X121.ldcInt hx hown (mvT hZ (hw _ (List.mem_of_getElem? (i := 15) rfl))) (g := (mkF m 48 #[.val (.ref p0), .val (.int p1), .val (.int (15 : Int32)), .val (.int (((((((p1 * (-1640531527 : Int32)).toUInt32 >>> ((28 : Int32) &&& 31).toUInt32).toInt32) + (1 : Int32)) &&& (15 : Int32)) + (1 : Int32)) &&& (15 : Int32)))] [(.int (ga ((((((((p1 * (-1640531527 : Int32)).toUInt32 >>> ((28 : Int32) &&& 31).toUInt32).toInt32) + (1 : Int32)) &&& (15 : Int32)) + (1 : Int32)) &&& (15 : Int32)).toNatClampNeg)))])) rfl (hb hby d7_48) _ ?_
                exact kont
              by_cases hc50'' : (ga ((((((((p1 * (-1640531527 : Int32)).toUInt32 >>> ((28 : Int32) &&& 31).toUInt32).toInt32) + (1 : Int32)) &&& (15 : Int32)) + (1 : Int32)) &&& (15 : Int32)).toNatClampNeg)) = (-2147483648 : Int32)
              · have pre124 : ∀ t, Steps p.tables e below (T121.setTop (mkF m 63 #[.val (.ref p0), .val (.int p1), .val (.int (15 : Int32)), .val (.int (((((((p1 * (-1640531527 : Int32)).toUInt32 >>> ((28 : Int32) &&& 31).toUInt32).toInt32) + (1 : Int32)) &&& (15 : Int32)) + (1 : Int32)) &&& (15 : Int32)))] [(.int (((((((p1 * (-1640531527 : Int32)).toUInt32 >>> ((28 : Int32) &&& 31).toUInt32).toInt32) + (1 : Int32)) &&& (15 : Int32)) + (1 : Int32)) &&& (15 : Int32)))])) t → Steps p.tables e below (s₁.setTop (entryFrame m #[(.ref p0), (.int p1)] 4)) t := by
                  intro t kont
                  refine pre123 t ?_
                  show Steps p.tables e below (T121.setTop (mkF m 50 #[.val (.ref p0), .val (.int p1), .val (.int (15 : Int32)), .val (.int (((((((p1 * (-1640531527 : Int32)).toUInt32 >>> ((28 : Int32) &&& 31).toUInt32).toInt32) + (1 : Int32)) &&& (15 : Int32)) + (1 : Int32)) &&& (15 : Int32)))] [(.int (-2147483648 : Int32)), (.int (ga ((((((((p1 * (-1640531527 : Int32)).toUInt32 >>> ((28 : Int32) &&& 31).toUInt32).toInt32) + (1 : Int32)) &&& (15 : Int32)) + (1 : Int32)) &&& (15 : Int32)).toNatClampNeg)))])) _
                  refine XS.icmpYes X121.here hx rfl (pc0 := 50) (pc' := 62) rfl (hb hby d7_50) rfl (teq hc50'').1 (by decide) (by decide) ?_
                  show Steps p.tables e below (T121.setTop (mkF m 62 #[.val (.ref p0), .val (.int p1), .val (.int (15 : Int32)), .val (.int (((((((p1 * (-1640531527 : Int32)).toUInt32 >>> ((28 : Int32) &&& 31).toUInt32).toInt32) + (1 : Int32)) &&& (15 : Int32)) + (1 : Int32)) &&& (15 : Int32)))] [])) _
                  refine XS.iloadN X121.here hx rfl (hb hby d7_62) rfl ?_
                  exact kont
                obtain ⟨fs, hr, hrun, hended, hW, hsame⟩ := X121.leave (v := some (.int (((((((p1 * (-1640531527 : Int32)).toUInt32 >>> ((28 : Int32) &&& 31).toUInt32).toInt32) + (1 : Int32)) &&& (15 : Int32)) + (1 : Int32)) &&& (15 : Int32)))) (fun h => by rw [Bd.returns] at h; cases h)
                refine ⟨_, _, pre124 _ ?_, hrun, hended, _, _, rfl, ?_, ⟨_, rfl⟩, hW, hsame.mono (by decide) (by decide)⟩
                · exact retI X121 hx Bd.returns (hb hby d7_63) hr
                · show Q7 Z p0 p1 be ba bn bf dr ow lw sz ne ge ga gn gf h0 n0 _ T121.heap _
                  rw [e121]
                  refine ⟨?_, N0, rfl⟩
                  unfold own_slot; rw [if_pos hc4]; unfold own_probe; rw [if_neg hc39, if_neg hc50, if_neg hc39', if_neg hc50', if_neg hc39'', if_pos hc50'']
              · exfalso
                rcases hE hc4 with q | q | q
                · exact hc50 q
                · exact hc50' q
                · exact hc50'' q
  · have pre125 : ∀ t, Steps p.tables e below (T87.setTop (mkF m 9 #[.val (.ref p0), .val (.int p1), .unset, .unset] [(.ref p0), (.int p1)])) t → Steps p.tables e below (s₁.setTop (entryFrame m #[(.ref p0), (.int p1)] 4)) t := by
      intro t kont
      refine pre88 t ?_
      show Steps p.tables e below (T87.setTop (mkF m 4 #[.val (.ref p0), .val (.int p1), .unset, .unset] [(.int ow)])) _
      refine XS.ifNo X87.here hx rfl (hb hby d7_4) rfl ((if0 _ _).trans (feq hc4).1) ?_
      show Steps p.tables e below (T87.setTop (mkF m 7 #[.val (.ref p0), .val (.int p1), .unset, .unset] [])) _
      refine XS.iloadN X87.here hx rfl (hb hby d7_7) rfl ?_
      show Steps p.tables e below (T87.setTop (mkF m 8 #[.val (.ref p0), .val (.int p1), .unset, .unset] [(.int p1)])) _
      refine XS.aloadN X87.here hx rfl (hb hby d7_8) rfl rfl ?_
      exact kont
    obtain ⟨T126, X126, e126, st126⟩ := getF X87 hx hZ hown (host := "") (Or.inl (hw _ (List.mem_of_getElem? (i := 37) rfl))) Via.refl e87 q_lowest (g := (mkF m 9 #[.val (.ref p0), .val (.int p1), .unset, .unset] [(.ref p0), (.int p1)])) rfl rfl (hb hby d7_9)
    have pre127 : ∀ t, Steps p.tables e below (T126.setTop (mkF m 12 #[.val (.ref p0), .val (.int p1), .unset, .unset] [(.int lw), (.int p1)])) t → Steps p.tables e below (s₁.setTop (entryFrame m #[(.ref p0), (.int p1)] 4)) t := fun t kont => pre125 t (st126 _ kont)
    have pre128 : ∀ t, Steps p.tables e below (T126.setTop (mkF m 13 #[.val (.ref p0), .val (.int p1), .unset, .unset] [(.int (p1 - lw))])) t → Steps p.tables e below (s₁.setTop (entryFrame m #[(.ref p0), (.int p1)] 4)) t := by
      intro t kont
      refine pre127 t ?_
      show Steps p.tables e below (T126.setTop (mkF m 12 #[.val (.ref p0), .val (.int p1), .unset, .unset] [(.int lw), (.int p1)])) _
      refine XS.isub X126.here hx rfl (hb hby d7_12) rfl ?_
      exact kont
    obtain ⟨fs, hr, hrun, hended, hW, hsame⟩ := X126.leave (v := some (.int (p1 - lw))) (fun h => by rw [Bd.returns] at h; cases h)
    refine ⟨_, _, pre128 _ ?_, hrun, hended, _, _, rfl, ?_, ⟨_, rfl⟩, hW, hsame.mono (by decide) (by decide)⟩
    · exact retI X126 hx Bd.returns (hb hby d7_13) hr
    · show Q7 Z p0 p1 be ba bn bf dr ow lw sz ne ge ga gn gf h0 n0 _ T126.heap _
      rw [e126]
      refine ⟨?_, N0, rfl⟩
      unfold own_slot; rw [if_neg hc4]
def own_end (ow : Int32) (ge gn : Nat → Int32) (k : Nat) : Int32 := if ow = (0 : Int32) then gn k else ge k
theorem d8_0 : decode prog_18_method_4_code 0 = .ok (.aload_n 0, 1) := by decide +kernel
theorem d8_1 : decode prog_18_method_4_code 1 = .ok (.getfield 35, 3) := by decide +kernel
theorem d8_4 : decode prog_18_method_4_code 4 = .ok (.ifCond .eq 12, 3) := by decide +kernel
theorem d8_16 : decode prog_18_method_4_code 16 = .ok (.aload_n 0, 1) := by decide +kernel
theorem d8_17 : decode prog_18_method_4_code 17 = .ok (.getfield 22, 3) := by decide +kernel
theorem d8_20 : decode prog_18_method_4_code 20 = .ok (.iload_n 1, 1) := by decide +kernel
theorem d8_21 : decode prog_18_method_4_code 21 = .ok (.iaload, 1) := by decide +kernel
theorem d8_22 : decode prog_18_method_4_code 22 = .ok (.ireturn, 1) := by decide +kernel
theorem d8_7 : decode prog_18_method_4_code 7 = .ok (.aload_n 0, 1) := by decide +kernel
theorem d8_8 : decode prog_18_method_4_code 8 = .ok (.getfield 9, 3) := by decide +kernel
theorem d8_11 : decode prog_18_method_4_code 11 = .ok (.iload_n 1, 1) := by decide +kernel
theorem d8_12 : decode prog_18_method_4_code 12 = .ok (.iaload, 1) := by decide +kernel
theorem d8_13 : decode prog_18_method_4_code 13 = .ok (.goto 9, 3) := by decide +kernel
theorem ef_8 (m : MethodId) (x0 : Addr) (x1 : Int32) : entryFrame m #[(.ref x0), (.int x1)] 2 = mkF m 0 #[.val (.ref x0), .val (.int x1)] [] := by first | (simp [entryFrame, mkF, argsToLocals, Value.category]; done) | rfl
def Q8 (Z : State) (p0 : Addr) (p1 : Int32) (be : Addr) (ba : Addr) (bn : Addr) (bf : Addr) (dr : Int32) (ow : Int32) (lw : Int32) (sz : Int32) (ne : Nat) (ge : Nat → Int32) (ga : Nat → Int32) (gn : Nat → Int32) (gf : Nat → Int32) (k : Nat) (h0 : Heap) (n0 : Nat) (v : Option Value) (h : Heap) (L : List Loc) : Prop := v = some (.int (own_end ow ge gn k)) ∧ Fr n0 L ∧ h = h0
set_option maxRecDepth 65536 in
set_option maxHeartbeats 40000000 in
theorem rm8 (l : Launch) (Z : State) (a0 : Array Value) (hw : ∀ d ∈ tables_1, d.before a0 Z = true) (ws : List Jvm.Cond) (p0 : Addr) (p1 : Int32) (be : Addr) (ba : Addr) (bn : Addr) (bf : Addr) (dr : Int32) (ow : Int32) (lw : Int32) (sz : Int32) (ne : Nat) (ge : Nat → Int32) (ga : Nat → Int32) (gn : Nat → Int32) (gf : Nat → Int32) (k : Nat) (h0 : Heap) (n0 : Nat) (Z0 : n0 ≤ h0.size) (Hal : own_al Z h0 n0 p0 be ba bn bf dr ow lw sz ne ge ga gn gf) (hi0 : ¬ p1 < 0) (hik : p1.toNatClampNeg = k) (hi1 : ow = (0 : Int32) → k < 16) (hi2 : ¬ (ow = (0 : Int32)) → k < ne) :
    MetFree l (⟨"com/example/impronta/impronta/engine/Alignments", "end", "(I)I"⟩ : MethodName) (head1 (Jvm.Cond.code (⟨"com/example/impronta/impronta/engine/Alignments", "end", "(I)I"⟩ : MethodName) prog_18_method_4_code 2 (some .int) :: ws) ({ frames := 0, cells := 0, slots := 0, locals := 0 } : Room)) (fun a U => a = #[(.ref p0), (.int p1)] ∧ Z.Warmed39 U.vm ∧ U.heap = h0) (fun _ _ _ _ _ => True) (fun _ U o U' => ∃ v L, o = .returned v ∧ Q8 Z p0 p1 be ba bn bf dr ow lw sz ne ge ga gn gf k h0 n0 v U'.heap L ∧ FrameEnd U o U' L ({ frames := 0, cells := 0, slots := 0, locals := 0 } : Room).cells ({ frames := 0, cells := 0, slots := 0, locals := 0 } : Room).slots) := by
  refine MetFree.of_bodySF (plainFor_of_name pn_3) hisR ?_
  intro p e s m args below meth c s₁ Bd hml0 hP hK
  obtain ⟨rfl, hZ, hh⟩ := hP
  have hx := Bd.exec
  have hby := Bd.bytes
  have hml : c.maxLocals = 2 := hml0
  have hown : s.vm.findClass "com/example/impronta/impronta/engine/Alignments" = some m.cls := findClass_of_methodNamed Bd.named
  have hnm := (name_of_methodNamed Bd.named Bd.method).1
  have X0 : Stand p l e ({ frames := 0, cells := 0, slots := 0, locals := 0 } : Room) s m #[(.ref p0), (.int p1)] below meth c s₁ [] 0 0 := Stand.of_body Bd
  have e0 : s₁.heap = h0 := by rw [← hh, Bd.state]; rfl
  have N0 := Fr.nil n0
  have pre0 : ∀ t, Steps p.tables e below (s₁.setTop (mkF m 0 #[.val (.ref p0), .val (.int p1)] [])) t → Steps p.tables e below (s₁.setTop (entryFrame m #[(.ref p0), (.int p1)] 2)) t := fun t k => castTop (ef_8 m p0 p1) k
  obtain ⟨qE, q_direct, q_ownSlots, q_lowest, q_size, q_shift, q_endsByAlignment, q_alignments, q_ends, q_filled, Ve, Va, Vn, Vf, ⟨d0, d1, d2, d3, d4, d5, d6, d7, d8, d9⟩, ⟨g0, g1, g2, g3, g4⟩⟩ := id Hal
  have pre129 : ∀ t, Steps p.tables e below (s₁.setTop (mkF m 1 #[.val (.ref p0), .val (.int p1)] [(.ref p0)])) t → Steps p.tables e below (s₁.setTop (entryFrame m #[(.ref p0), (.int p1)] 2)) t := by
    intro t kont
    refine pre0 t ?_
    show Steps p.tables e below (s₁.setTop (mkF m 0 #[.val (.ref p0), .val (.int p1)] [])) _
    refine XS.aloadN X0.here hx rfl (hb hby d8_0) rfl rfl ?_
    exact kont
  obtain ⟨T130, X130, e130, st130⟩ := getF X0 hx hZ hown (host := "") (Or.inl (hw _ (List.mem_of_getElem? (i := 35) rfl))) Via.refl e0 q_ownSlots (g := (mkF m 1 #[.val (.ref p0), .val (.int p1)] [(.ref p0)])) rfl rfl (hb hby d8_1)
  have pre131 : ∀ t, Steps p.tables e below (T130.setTop (mkF m 4 #[.val (.ref p0), .val (.int p1)] [(.int ow)])) t → Steps p.tables e below (s₁.setTop (entryFrame m #[(.ref p0), (.int p1)] 2)) t := fun t kont => pre129 t (st130 _ kont)
  by_cases hc4 : ow = (0 : Int32)
  · have pre132 : ∀ t, Steps p.tables e below (T130.setTop (mkF m 17 #[.val (.ref p0), .val (.int p1)] [(.ref p0)])) t → Steps p.tables e below (s₁.setTop (entryFrame m #[(.ref p0), (.int p1)] 2)) t := by
      intro t kont
      refine pre131 t ?_
      show Steps p.tables e below (T130.setTop (mkF m 4 #[.val (.ref p0), .val (.int p1)] [(.int ow)])) _
      refine XS.ifYes X130.here hx rfl (pc0 := 4) (pc' := 16) rfl (hb hby d8_4) rfl ((if0 _ _).trans (teq hc4).1) (by decide) (by decide) ?_
      show Steps p.tables e below (T130.setTop (mkF m 16 #[.val (.ref p0), .val (.int p1)] [])) _
      refine XS.aloadN X130.here hx rfl (hb hby d8_16) rfl rfl ?_
      exact kont
    obtain ⟨T133, X133, e133, st133⟩ := getF X130 hx hZ hown (host := "") (Or.inl (hw _ (List.mem_of_getElem? (i := 22) rfl))) Via.refl e130 q_ends (g := (mkF m 17 #[.val (.ref p0), .val (.int p1)] [(.ref p0)])) rfl rfl (hb hby d8_17)
    have pre134 : ∀ t, Steps p.tables e below (T133.setTop (mkF m 20 #[.val (.ref p0), .val (.int p1)] [(.ref bn)])) t → Steps p.tables e below (s₁.setTop (entryFrame m #[(.ref p0), (.int p1)] 2)) t := fun t kont => pre132 t (st133 _ kont)
    have pre135 : ∀ t, Steps p.tables e below (T133.setTop (mkF m 22 #[.val (.ref p0), .val (.int p1)] [(.int (gn k))])) t → Steps p.tables e below (s₁.setTop (entryFrame m #[(.ref p0), (.int p1)] 2)) t := by
      intro t kont
      refine pre134 t ?_
      show Steps p.tables e below (T133.setTop (mkF m 20 #[.val (.ref p0), .val (.int p1)] [(.ref bn)])) _
      refine XS.iloadN X133.here hx rfl (hb hby d8_20) rfl ?_
      show Steps p.tables e below (T133.setTop (mkF m 21 #[.val (.ref p0), .val (.int p1)] [(.int p1), (.ref bn)])) _
      refine own_ldI X133 hx hZ e133 Vn (k := k) hi0 hik (hi1 hc4) (fr := (mkF m 21 #[.val (.ref p0), .val (.int p1)] [(.int p1), (.ref bn)])) rfl rfl (hb hby d8_21) _ ?_
      exact kont
    obtain ⟨fs, hr, hrun, hended, hW, hsame⟩ := X133.leave (v := some (.int (gn k))) (fun h => by rw [Bd.returns] at h; cases h)
    refine ⟨_, _, pre135 _ ?_, hrun, hended, _, _, rfl, ?_, ⟨_, rfl⟩, hW, hsame.mono (by decide) (by decide)⟩
    · exact retI X133 hx Bd.returns (hb hby d8_22) hr
    · show Q8 Z p0 p1 be ba bn bf dr ow lw sz ne ge ga gn gf k h0 n0 _ T133.heap _
      rw [e133]
      refine ⟨?_, N0, rfl⟩
      unfold own_end; rw [if_pos hc4]
  · have pre136 : ∀ t, Steps p.tables e below (T130.setTop (mkF m 8 #[.val (.ref p0), .val (.int p1)] [(.ref p0)])) t → Steps p.tables e below (s₁.setTop (entryFrame m #[(.ref p0), (.int p1)] 2)) t := by
      intro t kont
      refine pre131 t ?_
      show Steps p.tables e below (T130.setTop (mkF m 4 #[.val (.ref p0), .val (.int p1)] [(.int ow)])) _
      refine XS.ifNo X130.here hx rfl (hb hby d8_4) rfl ((if0 _ _).trans (feq hc4).1) ?_
      show Steps p.tables e below (T130.setTop (mkF m 7 #[.val (.ref p0), .val (.int p1)] [])) _
      refine XS.aloadN X130.here hx rfl (hb hby d8_7) rfl rfl ?_
      exact kont
    obtain ⟨T137, X137, e137, st137⟩ := getF X130 hx hZ hown (host := "") (Or.inl (hw _ (List.mem_of_getElem? (i := 10) rfl))) Via.refl e130 q_endsByAlignment (g := (mkF m 8 #[.val (.ref p0), .val (.int p1)] [(.ref p0)])) rfl rfl (hb hby d8_8)
    have pre138 : ∀ t, Steps p.tables e below (T137.setTop (mkF m 11 #[.val (.ref p0), .val (.int p1)] [(.ref be)])) t → Steps p.tables e below (s₁.setTop (entryFrame m #[(.ref p0), (.int p1)] 2)) t := fun t kont => pre136 t (st137 _ kont)
    have pre139 : ∀ t, Steps p.tables e below (T137.setTop (mkF m 22 #[.val (.ref p0), .val (.int p1)] [(.int (ge k))])) t → Steps p.tables e below (s₁.setTop (entryFrame m #[(.ref p0), (.int p1)] 2)) t := by
      intro t kont
      refine pre138 t ?_
      show Steps p.tables e below (T137.setTop (mkF m 11 #[.val (.ref p0), .val (.int p1)] [(.ref be)])) _
      refine XS.iloadN X137.here hx rfl (hb hby d8_11) rfl ?_
      show Steps p.tables e below (T137.setTop (mkF m 12 #[.val (.ref p0), .val (.int p1)] [(.int p1), (.ref be)])) _
      refine own_ldI X137 hx hZ e137 Ve (k := k) hi0 hik (hi2 hc4) (fr := (mkF m 12 #[.val (.ref p0), .val (.int p1)] [(.int p1), (.ref be)])) rfl rfl (hb hby d8_12) _ ?_
      show Steps p.tables e below (T137.setTop (mkF m 13 #[.val (.ref p0), .val (.int p1)] [(.int (ge k))])) _
      refine XS.goto X137.here hx rfl (pc0 := 13) (pc' := 22) rfl (hb hby d8_13) (by decide) (by decide) ?_
      exact kont
    obtain ⟨fs, hr, hrun, hended, hW, hsame⟩ := X137.leave (v := some (.int (ge k))) (fun h => by rw [Bd.returns] at h; cases h)
    refine ⟨_, _, pre139 _ ?_, hrun, hended, _, _, rfl, ?_, ⟨_, rfl⟩, hW, hsame.mono (by decide) (by decide)⟩
    · exact retI X137 hx Bd.returns (hb hby d8_22) hr
    · show Q8 Z p0 p1 be ba bn bf dr ow lw sz ne ge ga gn gf k h0 n0 _ T137.heap _
      rw [e137]
      refine ⟨?_, N0, rfl⟩
      unfold own_end; rw [if_neg hc4]
def own_set (g : Nat → Int32) (k : Nat) (x : Int32) (i : Nat) : Int32 := if i = k then x else g i
theorem own_ne8 {z : Int32} {n : Nat} (h : z.toNatClampNeg = n) (hn : n < 8) (q : z = (8 : Int32)) : False := by
  subst q; rw [show (8 : Int32).toNatClampNeg = 8 by decide] at h; omega
theorem own_twice {z : Int32} {n : Nat} (h0 : ¬ z < 0) (h : z.toNatClampNeg = n) (hn : n < 8) : ¬ (16 : Int32) < (2 : Int32) * z ∧ ¬ (16 : Int32) < (2 : Int32) * (z + (1 : Int32)) := by
  have a := c_imul 2 z
  have b := c_iadd z 1
  have c := c_imul 2 (z + 1)
  have r1 := rng32 (2 * z)
  have r2 := rng32 (z + 1)
  have r3 := rng32 (2 * (z + 1))
  have o : (1 : Int32).toInt = 1 := rfl
  have o2 : (2 : Int32).toInt = 2 := rfl
  have o0 : (0 : Int32).toInt = 0 := rfl
  have o16 : (16 : Int32).toInt = 16 := rfl
  rw [o2] at a c
  rw [o] at b
  simp only [Int32.lt_iff_toInt_lt, Int32.toNatClampNeg] at *
  omega
theorem d10_0 : decode prog_18_method_5_code 0 = .ok (.aload_n 0, 1) := by decide +kernel
theorem d10_1 : decode prog_18_method_5_code 1 = .ok (.iload_n 1, 1) := by decide +kernel
theorem d10_2 : decode prog_18_method_5_code 2 = .ok (.invokevirtual 44, 3) := by decide +kernel
theorem pd_2 : parseMethodDescriptor "(I)I" = some ⟨[.int], some .int⟩ := by decide +kernel
theorem d10_5 : decode prog_18_method_5_code 5 = .ok (.ifCond .ne 49, 3) := by decide +kernel
theorem d10_8 : decode prog_18_method_5_code 8 = .ok (.aload_n 0, 1) := by decide +kernel
theorem d10_9 : decode prog_18_method_5_code 9 = .ok (.getfield 48, 3) := by decide +kernel
theorem d10_12 : decode prog_18_method_5_code 12 = .ok (.aload_n 0, 1) := by decide +kernel
theorem d10_13 : decode prog_18_method_5_code 13 = .ok (.getfield 29, 3) := by decide +kernel
theorem d10_16 : decode prog_18_method_5_code 16 = .ok (.arraylength, 1) := by decide +kernel
theorem d10_17 : decode prog_18_method_5_code 17 = .ok (.if_icmp .ne 20, 3) := by decide +kernel
theorem d10_37 : decode prog_18_method_5_code 37 = .ok (.aload_n 0, 1) := by decide +kernel
theorem d10_38 : decode prog_18_method_5_code 38 = .ok (.getfield 29, 3) := by decide +kernel
theorem d10_41 : decode prog_18_method_5_code 41 = .ok (.aload_n 0, 1) := by decide +kernel
theorem d10_42 : decode prog_18_method_5_code 42 = .ok (.dup, 1) := by decide +kernel
theorem d10_43 : decode prog_18_method_5_code 43 = .ok (.getfield 48, 3) := by decide +kernel
theorem d10_46 : decode prog_18_method_5_code 46 = .ok (.dup_x1, 1) := by decide +kernel
theorem d10_47 : decode prog_18_method_5_code 47 = .ok (.iconst 1, 1) := by decide +kernel
theorem d10_48 : decode prog_18_method_5_code 48 = .ok (.iadd, 1) := by decide +kernel
theorem d10_49 : decode prog_18_method_5_code 49 = .ok (.putfield 48, 3) := by decide +kernel
theorem d10_52 : decode prog_18_method_5_code 52 = .ok (.iload_n 1, 1) := by decide +kernel
theorem d10_53 : decode prog_18_method_5_code 53 = .ok (.iastore, 1) := by decide +kernel
theorem d10_54 : decode prog_18_method_5_code 54 = .ok (.aload_n 0, 1) := by decide +kernel
theorem d10_55 : decode prog_18_method_5_code 55 = .ok (.getfield 35, 3) := by decide +kernel
theorem d10_58 : decode prog_18_method_5_code 58 = .ok (.ifCond .eq 13, 3) := by decide +kernel
theorem d10_71 : decode prog_18_method_5_code 71 = .ok (.aload_n 0, 1) := by decide +kernel
theorem d10_72 : decode prog_18_method_5_code 72 = .ok (.getfield 22, 3) := by decide +kernel
theorem d10_75 : decode prog_18_method_5_code 75 = .ok (.iload_n 1, 1) := by decide +kernel
theorem d10_76 : decode prog_18_method_5_code 76 = .ok (.iload_n 3, 1) := by decide +kernel
theorem d10_77 : decode prog_18_method_5_code 77 = .ok (.iastore, 1) := by decide +kernel
theorem d10_78 : decode prog_18_method_5_code 78 = .ok (.aload_n 0, 1) := by decide +kernel
theorem d10_79 : decode prog_18_method_5_code 79 = .ok (.getfield 19, 3) := by decide +kernel
theorem d10_82 : decode prog_18_method_5_code 82 = .ok (.iload_n 1, 1) := by decide +kernel
theorem d10_83 : decode prog_18_method_5_code 83 = .ok (.iload_n 2, 1) := by decide +kernel
theorem d10_84 : decode prog_18_method_5_code 84 = .ok (.iastore, 1) := by decide +kernel
theorem d10_85 : decode prog_18_method_5_code 85 = .ok (.iconst 2, 1) := by decide +kernel
theorem d10_86 : decode prog_18_method_5_code 86 = .ok (.aload_n 0, 1) := by decide +kernel
theorem d10_87 : decode prog_18_method_5_code 87 = .ok (.getfield 48, 3) := by decide +kernel
theorem d10_90 : decode prog_18_method_5_code 90 = .ok (.imul, 1) := by decide +kernel
theorem d10_91 : decode prog_18_method_5_code 91 = .ok (.aload_n 0, 1) := by decide +kernel
theorem d10_92 : decode prog_18_method_5_code 92 = .ok (.getfield 19, 3) := by decide +kernel
theorem d10_95 : decode prog_18_method_5_code 95 = .ok (.arraylength, 1) := by decide +kernel
theorem d10_96 : decode prog_18_method_5_code 96 = .ok (.if_icmp .le 7, 3) := by decide +kernel
theorem d10_103 : decode prog_18_method_5_code 103 = .ok (.return_, 1) := by decide +kernel
theorem d10_61 : decode prog_18_method_5_code 61 = .ok (.aload_n 0, 1) := by decide +kernel
theorem d10_62 : decode prog_18_method_5_code 62 = .ok (.getfield 9, 3) := by decide +kernel
theorem d10_65 : decode prog_18_method_5_code 65 = .ok (.iload_n 1, 1) := by decide +kernel
theorem d10_66 : decode prog_18_method_5_code 66 = .ok (.iload_n 3, 1) := by decide +kernel
theorem d10_67 : decode prog_18_method_5_code 67 = .ok (.iastore, 1) := by decide +kernel
theorem d10_68 : decode prog_18_method_5_code 68 = .ok (.goto 35, 3) := by decide +kernel
theorem ef_10 (m : MethodId) (x0 : Addr) (x1 : Int32) (x2 : Int32) (x3 : Int32) : entryFrame m #[(.ref x0), (.int x1), (.int x2), (.int x3)] 4 = mkF m 0 #[.val (.ref x0), .val (.int x1), .val (.int x2), .val (.int x3)] [] := by first | (simp [entryFrame, mkF, argsToLocals, Value.category]; done) | rfl
def Q10 (Z : State) (p0 : Addr) (p1 : Int32) (p2 : Int32) (p3 : Int32) (be : Addr) (ba : Addr) (bn : Addr) (bf : Addr) (dr : Int32) (ow : Int32) (lw : Int32) (sz : Int32) (ne : Nat) (ge : Nat → Int32) (ga : Nat → Int32) (gn : Nat → Int32) (gf : Nat → Int32) (k : Nat) (zn : Nat) (h0 : Heap) (n0 : Nat) (v : Option Value) (h : Heap) (L : List Loc) : Prop := v = none ∧ Fr n0 L ∧ n0 ≤ h.size ∧ own_al Z h n0 p0 be ba bn bf dr ow lw (if (own_end ow ge gn k) = (0 : Int32) then (sz + (1 : Int32)) else sz) ne (if ow = (0 : Int32) then ge else (own_set ge k p3)) (if ow = (0 : Int32) then (own_set ga k p2) else ga) (if ow = (0 : Int32) then (own_set gn k p3) else gn) (if (own_end ow ge gn k) = (0 : Int32) then (own_set gf zn p1) else gf)
set_option maxRecDepth 65536 in
set_option maxHeartbeats 40000000 in
theorem rm10 (l : Launch) (Z : State) (a0 : Array Value) (hw : ∀ d ∈ tables_1, d.before a0 Z = true) (ws : List Jvm.Cond) (p0 : Addr) (p1 : Int32) (p2 : Int32) (p3 : Int32) (be : Addr) (ba : Addr) (bn : Addr) (bf : Addr) (dr : Int32) (ow : Int32) (lw : Int32) (sz : Int32) (ne : Nat) (ge : Nat → Int32) (ga : Nat → Int32) (gn : Nat → Int32) (gf : Nat → Int32) (k : Nat) (zn : Nat) (h0 : Heap) (n0 : Nat) (Z0 : n0 ≤ h0.size) (Hal : own_al Z h0 n0 p0 be ba bn bf dr ow lw sz ne ge ga gn gf) (hi0 : ¬ p1 < 0) (hik : p1.toNatClampNeg = k) (hi1 : ow = (0 : Int32) → k < 16) (hi2 : ¬ (ow = (0 : Int32)) → k < ne) (hz0 : ¬ sz < 0) (hzn : sz.toNatClampNeg = zn) (hz8 : zn < 8) :
    MetFree l (⟨"com/example/impronta/impronta/engine/Alignments", "put", "(III)V"⟩ : MethodName) (head1 (Jvm.Cond.code (⟨"com/example/impronta/impronta/engine/Alignments", "put", "(III)V"⟩ : MethodName) prog_18_method_5_code 4 none :: ws) ({ frames := 1, cells := 0, slots := 0, locals := 13 } : Room)) (fun a U => a = #[(.ref p0), (.int p1), (.int p2), (.int p3)] ∧ Z.Warmed39 U.vm ∧ U.heap = h0) (fun _ _ _ _ _ => True) (fun _ U o U' => ∃ v L, o = .returned v ∧ Q10 Z p0 p1 p2 p3 be ba bn bf dr ow lw sz ne ge ga gn gf k zn h0 n0 v U'.heap L ∧ FrameEnd U o U' L ({ frames := 1, cells := 0, slots := 0, locals := 13 } : Room).cells ({ frames := 1, cells := 0, slots := 0, locals := 13 } : Room).slots) := by
  refine MetFree.of_bodySF (plainFor_of_name pn_3) hisR ?_
  intro p e s m args below meth c s₁ Bd hml0 hP hK
  obtain ⟨rfl, hZ, hh⟩ := hP
  have hx := Bd.exec
  have hby := Bd.bytes
  have hml : c.maxLocals = 4 := hml0
  have hown : s.vm.findClass "com/example/impronta/impronta/engine/Alignments" = some m.cls := findClass_of_methodNamed Bd.named
  have hnm := (name_of_methodNamed Bd.named Bd.method).1
  have X0 : Stand p l e ({ frames := 1, cells := 0, slots := 0, locals := 13 } : Room) s m #[(.ref p0), (.int p1), (.int p2), (.int p3)] below meth c s₁ [] 0 0 := Stand.of_body Bd
  have e0 : s₁.heap = h0 := by rw [← hh, Bd.state]; rfl
  have N0 := Fr.nil n0
  have pre0 : ∀ t, Steps p.tables e below (s₁.setTop (mkF m 0 #[.val (.ref p0), .val (.int p1), .val (.int p2), .val (.int p3)] [])) t → Steps p.tables e below (s₁.setTop (entryFrame m #[(.ref p0), (.int p1), (.int p2), (.int p3)] 4)) t := fun t k => castTop (ef_10 m p0 p1 p2 p3) k
  obtain ⟨qE, q_direct, q_ownSlots, q_lowest, q_size, q_shift, q_endsByAlignment, q_alignments, q_ends, q_filled, Ve, Va, Vn, Vf, ⟨d0, d1, d2, d3, d4, d5, d6, d7, d8, d9⟩, ⟨g0, g1, g2, g3, g4⟩⟩ := id Hal
  have pre140 : ∀ t, Steps p.tables e below (s₁.setTop (mkF m 2 #[.val (.ref p0), .val (.int p1), .val (.int p2), .val (.int p3)] [(.int p1), (.ref p0)])) t → Steps p.tables e below (s₁.setTop (entryFrame m #[(.ref p0), (.int p1), (.int p2), (.int p3)] 4)) t := by
    intro t kont
    refine pre0 t ?_
    show Steps p.tables e below (s₁.setTop (mkF m 0 #[.val (.ref p0), .val (.int p1), .val (.int p2), .val (.int p3)] [])) _
    refine XS.aloadN X0.here hx rfl (hb hby d10_0) rfl rfl ?_
    show Steps p.tables e below (s₁.setTop (mkF m 1 #[.val (.ref p0), .val (.int p1), .val (.int p2), .val (.int p3)] [(.ref p0)])) _
    refine XS.iloadN X0.here hx rfl (hb hby d10_1) rfl ?_
    exact kont
  obtain ⟨cq141, kq141, q141a, q141b, q141c⟩ := isOf hZ e0 qE
  obtain ⟨_, _, ⟨T141, L141, k141, n141⟩, -, X141, ⟨Lc141, hQ141, l141, y141, z141⟩, st141⟩ := X0.virtualBack hx (y := (⟨"com/example/impronta/impronta/engine/Alignments", "end", "(I)I"⟩ : MethodName)) (z := (⟨"com/example/impronta/impronta/engine/Alignments", "end", "(I)I"⟩ : MethodName)) hown (mvT hZ (hw _ (List.mem_of_getElem? (i := 69) rfl))) (mvT hZ (hw _ (List.mem_of_getElem? (i := 54) rfl))) (notFace_of_selects (args := #[]) (mvT hZ (hw _ (List.mem_of_getElem? (i := 56) rfl)))) (mvT hZ (hw _ (List.mem_of_getElem? (i := 56) rfl))) (mvT hZ (hw _ (List.mem_of_getElem? (i := 55) rfl))) (by decide) (backOf (W := 0) (rm8 l Z a0 hw [] p0 p1 be ba bn bf dr ow lw sz ne ge ga gn gf k  h0 n0 Z0 Hal hi0 hik hi1 hi2) hZ (hw _ (List.mem_of_getElem? (i := 57) rfl)) (hw _ (List.mem_of_getElem? (i := 2) rfl)) (by decide) (by decide)) q141a q141c (g := (mkF m 2 #[.val (.ref p0), .val (.int p1), .val (.int p2), .val (.int p3)] [(.int p1), (.ref p0)])) rfl (by rw [hml]; rfl) (Steps.refl _) (argsL := [(.int p1)]) (rest := []) (lenOf pd_2 rfl) rfl (by show 2 * 0 + _ ≤ _; exact Nat.le_of_eq rfl) (hb hby d10_2) (fun _ _ => ⟨rfl, e0, (by decide : 0 + 0 ≤ _), (by decide : 0 + 0 ≤ _)⟩)
  dsimp only [Pt.U, Pt.locs, Pt.cells, Pt.slots] at X141 l141 y141 z141 st141 hQ141
  subst l141 y141 z141
  obtain ⟨rfl, N141q, e141⟩ := hQ141
  have N141 := Fr.app N0 N141q
  have pre142 : ∀ t, Steps p.tables e below (T141.setTop (mkF m 5 #[.val (.ref p0), .val (.int p1), .val (.int p2), .val (.int p3)] [(.int (own_end ow ge gn k))])) t → Steps p.tables e below (s₁.setTop (entryFrame m #[(.ref p0), (.int p1), (.int p2), (.int p3)] 4)) t := fun t kont => pre140 t (st141.trans kont)
  by_cases hc5 : (own_end ow ge gn k) = (0 : Int32)
  · have pre143 : ∀ t, Steps p.tables e below (T141.setTop (mkF m 9 #[.val (.ref p0), .val (.int p1), .val (.int p2), .val (.int p3)] [(.ref p0)])) t → Steps p.tables e below (s₁.setTop (entryFrame m #[(.ref p0), (.int p1), (.int p2), (.int p3)] 4)) t := by
      intro t kont
      refine pre142 t ?_
      show Steps p.tables e below (T141.setTop (mkF m 5 #[.val (.ref p0), .val (.int p1), .val (.int p2), .val (.int p3)] [(.int (own_end ow ge gn k))])) _
      refine XS.ifNo X141.here hx rfl (hb hby d10_5) rfl ((if0 _ _).trans (teq hc5).2) ?_
      show Steps p.tables e below (T141.setTop (mkF m 8 #[.val (.ref p0), .val (.int p1), .val (.int p2), .val (.int p3)] [])) _
      refine XS.aloadN X141.here hx rfl (hb hby d10_8) rfl rfl ?_
      exact kont
    obtain ⟨T144, X144, e144, st144⟩ := getF X141 hx hZ hown (host := "") (Or.inl (hw _ (List.mem_of_getElem? (i := 44) rfl))) Via.refl e141 q_size (g := (mkF m 9 #[.val (.ref p0), .val (.int p1), .val (.int p2), .val (.int p3)] [(.ref p0)])) rfl rfl (hb hby d10_9)
    have pre145 : ∀ t, Steps p.tables e below (T144.setTop (mkF m 12 #[.val (.ref p0), .val (.int p1), .val (.int p2), .val (.int p3)] [(.int sz)])) t → Steps p.tables e below (s₁.setTop (entryFrame m #[(.ref p0), (.int p1), (.int p2), (.int p3)] 4)) t := fun t kont => pre143 t (st144 _ kont)
    have pre146 : ∀ t, Steps p.tables e below (T144.setTop (mkF m 13 #[.val (.ref p0), .val (.int p1), .val (.int p2), .val (.int p3)] [(.ref p0), (.int sz)])) t → Steps p.tables e below (s₁.setTop (entryFrame m #[(.ref p0), (.int p1), (.int p2), (.int p3)] 4)) t := by
      intro t kont
      refine pre145 t ?_
      show Steps p.tables e below (T144.setTop (mkF m 12 #[.val (.ref p0), .val (.int p1), .val (.int p2), .val (.int p3)] [(.int sz)])) _
      refine XS.aloadN X144.here hx rfl (hb hby d10_12) rfl rfl ?_
      exact kont
    obtain ⟨T147, X147, e147, st147⟩ := getF X144 hx hZ hown (host := "") (Or.inl (hw _ (List.mem_of_getElem? (i := 26) rfl))) Via.refl e144 q_filled (g := (mkF m 13 #[.val (.ref p0), .val (.int p1), .val (.int p2), .val (.int p3)] [(.ref p0), (.int sz)])) rfl rfl (hb hby d10_13)
    have pre148 : ∀ t, Steps p.tables e below (T147.setTop (mkF m 16 #[.val (.ref p0), .val (.int p1), .val (.int p2), .val (.int p3)] [(.ref bf), (.int sz)])) t → Steps p.tables e below (s₁.setTop (entryFrame m #[(.ref p0), (.int p1), (.int p2), (.int p3)] 4)) t := fun t kont => pre146 t (st147 _ kont)
    have pre149 : ∀ t, Steps p.tables e below (T147.setTop (mkF m 17 #[.val (.ref p0), .val (.int p1), .val (.int p2), .val (.int p3)] [(.int (8 : Int32)), (.int sz)])) t → Steps p.tables e below (s₁.setTop (entryFrame m #[(.ref p0), (.int p1), (.int p2), (.int p3)] 4)) t := by
      intro t kont
      refine pre148 t ?_
      show Steps p.tables e below (T147.setTop (mkF m 16 #[.val (.ref p0), .val (.int p1), .val (.int p2), .val (.int p3)] [(.ref bf), (.int sz)])) _
      refine own_len X147 hx hZ e147 Vf (z := (8 : Int32)) (by decide) (fr := (mkF m 16 #[.val (.ref p0), .val (.int p1), .val (.int p2), .val (.int p3)] [(.ref bf), (.int sz)])) rfl rfl (hb hby d10_16) _ ?_
      exact kont
    by_cases hc17 : sz = (8 : Int32)
    · exfalso
      exact own_ne8 hzn hz8 hc17
    · have pre150 : ∀ t, Steps p.tables e below (T147.setTop (mkF m 38 #[.val (.ref p0), .val (.int p1), .val (.int p2), .val (.int p3)] [(.ref p0)])) t → Steps p.tables e below (s₁.setTop (entryFrame m #[(.ref p0), (.int p1), (.int p2), (.int p3)] 4)) t := by
        intro t kont
        refine pre149 t ?_
        show Steps p.tables e below (T147.setTop (mkF m 17 #[.val (.ref p0), .val (.int p1), .val (.int p2), .val (.int p3)] [(.int (8 : Int32)), (.int sz)])) _
        refine XS.icmpYes X147.here hx rfl (pc0 := 17) (pc' := 37) rfl (hb hby d10_17) rfl (feq hc17).2 (by decide) (by decide) ?_
        show Steps p.tables e below (T147.setTop (mkF m 37 #[.val (.ref p0), .val (.int p1), .val (.int p2), .val (.int p3)] [])) _
        refine XS.aloadN X147.here hx rfl (hb hby d10_37) rfl rfl ?_
        exact kont
      obtain ⟨T151, X151, e151, st151⟩ := getF X147 hx hZ hown (host := "") (Or.inl (hw _ (List.mem_of_getElem? (i := 26) rfl))) Via.refl e147 q_filled (g := (mkF m 38 #[.val (.ref p0), .val (.int p1), .val (.int p2), .val (.int p3)] [(.ref p0)])) rfl rfl (hb hby d10_38)
      have pre152 : ∀ t, Steps p.tables e below (T151.setTop (mkF m 41 #[.val (.ref p0), .val (.int p1), .val (.int p2), .val (.int p3)] [(.ref bf)])) t → Steps p.tables e below (s₁.setTop (entryFrame m #[(.ref p0), (.int p1), (.int p2), (.int p3)] 4)) t := fun t kont => pre150 t (st151 _ kont)
      have pre153 : ∀ t, Steps p.tables e below (T151.setTop (mkF m 43 #[.val (.ref p0), .val (.int p1), .val (.int p2), .val (.int p3)] [(.ref p0), (.ref p0), (.ref bf)])) t → Steps p.tables e below (s₁.setTop (entryFrame m #[(.ref p0), (.int p1), (.int p2), (.int p3)] 4)) t := by
        intro t kont
        refine pre152 t ?_
        show Steps p.tables e below (T151.setTop (mkF m 41 #[.val (.ref p0), .val (.int p1), .val (.int p2), .val (.int p3)] [(.ref bf)])) _
        refine XS.aloadN X151.here hx rfl (hb hby d10_41) rfl rfl ?_
        show Steps p.tables e below (T151.setTop (mkF m 42 #[.val (.ref p0), .val (.int p1), .val (.int p2), .val (.int p3)] [(.ref p0), (.ref bf)])) _
        refine XS.dup X151.here hx rfl (hb hby d10_42) rfl rfl ?_
        exact kont
      obtain ⟨T154, X154, e154, st154⟩ := getF X151 hx hZ hown (host := "") (Or.inl (hw _ (List.mem_of_getElem? (i := 44) rfl))) Via.refl e151 q_size (g := (mkF m 43 #[.val (.ref p0), .val (.int p1), .val (.int p2), .val (.int p3)] [(.ref p0), (.ref p0), (.ref bf)])) rfl rfl (hb hby d10_43)
      have pre155 : ∀ t, Steps p.tables e below (T154.setTop (mkF m 46 #[.val (.ref p0), .val (.int p1), .val (.int p2), .val (.int p3)] [(.int sz), (.ref p0), (.ref bf)])) t → Steps p.tables e below (s₁.setTop (entryFrame m #[(.ref p0), (.int p1), (.int p2), (.int p3)] 4)) t := fun t kont => pre153 t (st154 _ kont)
      have pre156 : ∀ t, Steps p.tables e below (T154.setTop (mkF m 49 #[.val (.ref p0), .val (.int p1), .val (.int p2), .val (.int p3)] [(.int (sz + (1 : Int32))), (.ref p0), (.int sz), (.ref bf)])) t → Steps p.tables e below (s₁.setTop (entryFrame m #[(.ref p0), (.int p1), (.int p2), (.int p3)] 4)) t := by
        intro t kont
        refine pre155 t ?_
        show Steps p.tables e below (T154.setTop (mkF m 46 #[.val (.ref p0), .val (.int p1), .val (.int p2), .val (.int p3)] [(.int sz), (.ref p0), (.ref bf)])) _
        refine XS.dupX1 X154.here hx rfl (hb hby d10_46) rfl rfl rfl ?_
        show Steps p.tables e below (T154.setTop (mkF m 47 #[.val (.ref p0), .val (.int p1), .val (.int p2), .val (.int p3)] [(.int sz), (.ref p0), (.int sz), (.ref bf)])) _
        refine XS.iconst X154.here hx rfl (hb hby d10_47) ?_
        show Steps p.tables e below (T154.setTop (mkF m 48 #[.val (.ref p0), .val (.int p1), .val (.int p2), .val (.int p3)] [(.int (1 : Int32)), (.int sz), (.ref p0), (.int sz), (.ref bf)])) _
        refine XS.iadd X154.here hx rfl (hb hby d10_48) rfl ?_
        exact kont
      obtain ⟨T157, h157, X157, e157, W157, st157⟩ := putF X154 hx hZ hown (host := "") (Or.inl (hw _ (List.mem_of_getElem? (i := 44) rfl))) Via.refl e154 q_size qE (Or.inl (hw _ (List.mem_of_getElem? (i := 45) rfl))) (hw _ (List.mem_of_getElem? (i := 1) rfl)) (ty := .int) (by decide) rfl rfl (g := (mkF m 49 #[.val (.ref p0), .val (.int p1), .val (.int p2), .val (.int p3)] [(.int (sz + (1 : Int32))), (.ref p0), (.int sz), (.ref bf)])) rfl rfl (hb hby d10_49)
      have f157_0 := Exa.wr W157 qE
      have f157_1 := Fld.other W157 q_direct (Or.inr (slot_ne (Or.inr (hw _ (List.mem_of_getElem? (i := 29) rfl))) (Or.inl (hw _ (List.mem_of_getElem? (i := 45) rfl))) (by decide) (t := .int) (t' := .int) (by decide) (by decide)))
      have f157_2 := Fld.other W157 q_ownSlots (Or.inr (slot_ne (Or.inl (hw _ (List.mem_of_getElem? (i := 36) rfl))) (Or.inl (hw _ (List.mem_of_getElem? (i := 45) rfl))) (by decide) (t := .boolean) (t' := .int) (by decide) (by decide)))
      have f157_3 := Fld.other W157 q_lowest (Or.inr (slot_ne (Or.inl (hw _ (List.mem_of_getElem? (i := 38) rfl))) (Or.inl (hw _ (List.mem_of_getElem? (i := 45) rfl))) (by decide) (t := .int) (t' := .int) (by decide) (by decide)))
      have f157_4 := Fld.same W157 q_size
      have f157_5 := Fld.other W157 q_shift (Or.inr (slot_ne (Or.inl (hw _ (List.mem_of_getElem? (i := 25) rfl))) (Or.inl (hw _ (List.mem_of_getElem? (i := 45) rfl))) (by decide) (t := .int) (t' := .int) (by decide) (by decide)))
      have f157_6 := Fld.other W157 q_endsByAlignment (Or.inr (slot_ne (Or.inl (hw _ (List.mem_of_getElem? (i := 11) rfl))) (Or.inl (hw _ (List.mem_of_getElem? (i := 45) rfl))) (by decide) (t := (.array .int)) (t' := .int) (by decide) (by decide)))
      have f157_7 := Fld.other W157 q_alignments (Or.inr (slot_ne (Or.inl (hw _ (List.mem_of_getElem? (i := 21) rfl))) (Or.inl (hw _ (List.mem_of_getElem? (i := 45) rfl))) (by decide) (t := (.array .int)) (t' := .int) (by decide) (by decide)))
      have f157_8 := Fld.other W157 q_ends (Or.inr (slot_ne (Or.inl (hw _ (List.mem_of_getElem? (i := 23) rfl))) (Or.inl (hw _ (List.mem_of_getElem? (i := 45) rfl))) (by decide) (t := (.array .int)) (t' := .int) (by decide) (by decide)))
      have f157_9 := Fld.other W157 q_filled (Or.inr (slot_ne (Or.inl (hw _ (List.mem_of_getElem? (i := 27) rfl))) (Or.inl (hw _ (List.mem_of_getElem? (i := 45) rfl))) (by decide) (t := (.array .int)) (t' := .int) (by decide) (by decide)))
      have f157_10 := Ve.other W157 (Ne.symm d0)
      have f157_11 := Va.other W157 (Ne.symm d1)
      have f157_12 := Vn.other W157 (Ne.symm d2)
      have f157_13 := Vf.other W157 (Ne.symm d3)
      have Z157 : n0 ≤ h157.size := Nat.le_trans Z0 (Keep.of_wr W157).1
      have N157 := Fr.snoc X157 N141 g0
      have pre158 : ∀ t, Steps p.tables e below (T157.setTop (mkF m 52 #[.val (.ref p0), .val (.int p1), .val (.int p2), .val (.int p3)] [(.int sz), (.ref bf)])) t → Steps p.tables e below (s₁.setTop (entryFrame m #[(.ref p0), (.int p1), (.int p2), (.int p3)] 4)) t := fun t kont => pre156 t (st157 _ kont)
      have pre159 : ∀ t, Steps p.tables e below (T157.setTop (mkF m 53 #[.val (.ref p0), .val (.int p1), .val (.int p2), .val (.int p3)] [(.int p1), (.int sz), (.ref bf)])) t → Steps p.tables e below (s₁.setTop (entryFrame m #[(.ref p0), (.int p1), (.int p2), (.int p3)] 4)) t := by
        intro t kont
        refine pre158 t ?_
        show Steps p.tables e below (T157.setTop (mkF m 52 #[.val (.ref p0), .val (.int p1), .val (.int p2), .val (.int p3)] [(.int sz), (.ref bf)])) _
        refine XS.iloadN X157.here hx rfl (hb hby d10_52) rfl ?_
        exact kont
      obtain ⟨T160, h160, X160, e160, W160, V160, st160⟩ := own_stI X157 hx hZ e157 f157_13 (k := zn) hz0 hzn hz8 (fr := (mkF m 53 #[.val (.ref p0), .val (.int p1), .val (.int p2), .val (.int p3)] [(.int p1), (.int sz), (.ref bf)])) rfl rfl (hb hby d10_53)
      have f160_0 := Exa.wr W160 f157_0
      have f160_1 := Fld.other W160 f157_1 (Or.inl d3)
      have f160_2 := Fld.other W160 f157_2 (Or.inl d3)
      have f160_3 := Fld.other W160 f157_3 (Or.inl d3)
      have f160_4 := Fld.other W160 f157_4 (Or.inl d3)
      have f160_5 := Fld.other W160 f157_5 (Or.inl d3)
      have f160_6 := Fld.other W160 f157_6 (Or.inl d3)
      have f160_7 := Fld.other W160 f157_7 (Or.inl d3)
      have f160_8 := Fld.other W160 f157_8 (Or.inl d3)
      have f160_9 := Fld.other W160 f157_9 (Or.inl d3)
      have f160_10 := f157_10.other W160 d6
      have f160_11 := f157_11.other W160 d8
      have f160_12 := f157_12.other W160 d9
      obtain ⟨u53, hu53⟩ : ∃ z : Nat → Int32, z = fun i => if i = zn then p1 else gf i := ⟨_, rfl⟩
      replace V160 : own_arr Z h160 bf .int 8 (fun i => .int (u53 i)) := by rw [hu53]; exact V160
      have Z160 : n0 ≤ h160.size := Nat.le_trans Z157 (Keep.of_wr W160).1
      have N160 := Fr.snoc X160 N157 g4
      have pre161 : ∀ t, Steps p.tables e below (T160.setTop (mkF m 54 #[.val (.ref p0), .val (.int p1), .val (.int p2), .val (.int p3)] [])) t → Steps p.tables e below (s₁.setTop (entryFrame m #[(.ref p0), (.int p1), (.int p2), (.int p3)] 4)) t := fun t kont => pre159 t (st160 _ kont)
      have pre162 : ∀ t, Steps p.tables e below (T160.setTop (mkF m 55 #[.val (.ref p0), .val (.int p1), .val (.int p2), .val (.int p3)] [(.ref p0)])) t → Steps p.tables e below (s₁.setTop (entryFrame m #[(.ref p0), (.int p1), (.int p2), (.int p3)] 4)) t := by
        intro t kont
        refine pre161 t ?_
        show Steps p.tables e below (T160.setTop (mkF m 54 #[.val (.ref p0), .val (.int p1), .val (.int p2), .val (.int p3)] [])) _
        refine XS.aloadN X160.here hx rfl (hb hby d10_54) rfl rfl ?_
        exact kont
      obtain ⟨T163, X163, e163, st163⟩ := getF X160 hx hZ hown (host := "") (Or.inl (hw _ (List.mem_of_getElem? (i := 35) rfl))) Via.refl e160 f160_2 (g := (mkF m 55 #[.val (.ref p0), .val (.int p1), .val (.int p2), .val (.int p3)] [(.ref p0)])) rfl rfl (hb hby d10_55)
      have pre164 : ∀ t, Steps p.tables e below (T163.setTop (mkF m 58 #[.val (.ref p0), .val (.int p1), .val (.int p2), .val (.int p3)] [(.int ow)])) t → Steps p.tables e below (s₁.setTop (entryFrame m #[(.ref p0), (.int p1), (.int p2), (.int p3)] 4)) t := fun t kont => pre162 t (st163 _ kont)
      by_cases hc58 : ow = (0 : Int32)
      · have pre165 : ∀ t, Steps p.tables e below (T163.setTop (mkF m 72 #[.val (.ref p0), .val (.int p1), .val (.int p2), .val (.int p3)] [(.ref p0)])) t → Steps p.tables e below (s₁.setTop (entryFrame m #[(.ref p0), (.int p1), (.int p2), (.int p3)] 4)) t := by
          intro t kont
          refine pre164 t ?_
          show Steps p.tables e below (T163.setTop (mkF m 58 #[.val (.ref p0), .val (.int p1), .val (.int p2), .val (.int p3)] [(.int ow)])) _
          refine XS.ifYes X163.here hx rfl (pc0 := 58) (pc' := 71) rfl (hb hby d10_58) rfl ((if0 _ _).trans (teq hc58).1) (by decide) (by decide) ?_
          show Steps p.tables e below (T163.setTop (mkF m 71 #[.val (.ref p0), .val (.int p1), .val (.int p2), .val (.int p3)] [])) _
          refine XS.aloadN X163.here hx rfl (hb hby d10_71) rfl rfl ?_
          exact kont
        obtain ⟨T166, X166, e166, st166⟩ := getF X163 hx hZ hown (host := "") (Or.inl (hw _ (List.mem_of_getElem? (i := 22) rfl))) Via.refl e163 f160_8 (g := (mkF m 72 #[.val (.ref p0), .val (.int p1), .val (.int p2), .val (.int p3)] [(.ref p0)])) rfl rfl (hb hby d10_72)
        have pre167 : ∀ t, Steps p.tables e below (T166.setTop (mkF m 75 #[.val (.ref p0), .val (.int p1), .val (.int p2), .val (.int p3)] [(.ref bn)])) t → Steps p.tables e below (s₁.setTop (entryFrame m #[(.ref p0), (.int p1), (.int p2), (.int p3)] 4)) t := fun t kont => pre165 t (st166 _ kont)
        have pre168 : ∀ t, Steps p.tables e below (T166.setTop (mkF m 77 #[.val (.ref p0), .val (.int p1), .val (.int p2), .val (.int p3)] [(.int p3), (.int p1), (.ref bn)])) t → Steps p.tables e below (s₁.setTop (entryFrame m #[(.ref p0), (.int p1), (.int p2), (.int p3)] 4)) t := by
          intro t kont
          refine pre167 t ?_
          show Steps p.tables e below (T166.setTop (mkF m 75 #[.val (.ref p0), .val (.int p1), .val (.int p2), .val (.int p3)] [(.ref bn)])) _
          refine XS.iloadN X166.here hx rfl (hb hby d10_75) rfl ?_
          show Steps p.tables e below (T166.setTop (mkF m 76 #[.val (.ref p0), .val (.int p1), .val (.int p2), .val (.int p3)] [(.int p1), (.ref bn)])) _
          refine XS.iloadN X166.here hx rfl (hb hby d10_76) rfl ?_
          exact kont
        obtain ⟨T169, h169, X169, e169, W169, V169, st169⟩ := own_stI X166 hx hZ e166 f160_12 (k := k) hi0 hik (hi1 hc58) (fr := (mkF m 77 #[.val (.ref p0), .val (.int p1), .val (.int p2), .val (.int p3)] [(.int p3), (.int p1), (.ref bn)])) rfl rfl (hb hby d10_77)
        have f169_0 := Exa.wr W169 f160_0
        have f169_1 := Fld.other W169 f160_1 (Or.inl d2)
        have f169_2 := Fld.other W169 f160_2 (Or.inl d2)
        have f169_3 := Fld.other W169 f160_3 (Or.inl d2)
        have f169_4 := Fld.other W169 f160_4 (Or.inl d2)
        have f169_5 := Fld.other W169 f160_5 (Or.inl d2)
        have f169_6 := Fld.other W169 f160_6 (Or.inl d2)
        have f169_7 := Fld.other W169 f160_7 (Or.inl d2)
        have f169_8 := Fld.other W169 f160_8 (Or.inl d2)
        have f169_9 := Fld.other W169 f160_9 (Or.inl d2)
        have f169_10 := f160_10.other W169 d5
        have f169_11 := f160_11.other W169 d7
        have f169_12 := V160.other W169 (Ne.symm d9)
        obtain ⟨u77, hu77⟩ : ∃ z : Nat → Int32, z = fun i => if i = k then p3 else gn i := ⟨_, rfl⟩
        replace V169 : own_arr Z h169 bn .int 16 (fun i => .int (u77 i)) := by rw [hu77]; exact V169
        have Z169 : n0 ≤ h169.size := Nat.le_trans Z160 (Keep.of_wr W169).1
        have N169 := Fr.snoc X169 N160 g3
        have pre170 : ∀ t, Steps p.tables e below (T169.setTop (mkF m 78 #[.val (.ref p0), .val (.int p1), .val (.int p2), .val (.int p3)] [])) t → Steps p.tables e below (s₁.setTop (entryFrame m #[(.ref p0), (.int p1), (.int p2), (.int p3)] 4)) t := fun t kont => pre168 t (st169 _ kont)
        have pre171 : ∀ t, Steps p.tables e below (T169.setTop (mkF m 79 #[.val (.ref p0), .val (.int p1), .val (.int p2), .val (.int p3)] [(.ref p0)])) t → Steps p.tables e below (s₁.setTop (entryFrame m #[(.ref p0), (.int p1), (.int p2), (.int p3)] 4)) t := by
          intro t kont
          refine pre170 t ?_
          show Steps p.tables e below (T169.setTop (mkF m 78 #[.val (.ref p0), .val (.int p1), .val (.int p2), .val (.int p3)] [])) _
          refine XS.aloadN X169.here hx rfl (hb hby d10_78) rfl rfl ?_
          exact kont
        obtain ⟨T172, X172, e172, st172⟩ := getF X169 hx hZ hown (host := "") (Or.inl (hw _ (List.mem_of_getElem? (i := 20) rfl))) Via.refl e169 f169_7 (g := (mkF m 79 #[.val (.ref p0), .val (.int p1), .val (.int p2), .val (.int p3)] [(.ref p0)])) rfl rfl (hb hby d10_79)
        have pre173 : ∀ t, Steps p.tables e below (T172.setTop (mkF m 82 #[.val (.ref p0), .val (.int p1), .val (.int p2), .val (.int p3)] [(.ref ba)])) t → Steps p.tables e below (s₁.setTop (entryFrame m #[(.ref p0), (.int p1), (.int p2), (.int p3)] 4)) t := fun t kont => pre171 t (st172 _ kont)
        have pre174 : ∀ t, Steps p.tables e below (T172.setTop (mkF m 84 #[.val (.ref p0), .val (.int p1), .val (.int p2), .val (.int p3)] [(.int p2), (.int p1), (.ref ba)])) t → Steps p.tables e below (s₁.setTop (entryFrame m #[(.ref p0), (.int p1), (.int p2), (.int p3)] 4)) t := by
          intro t kont
          refine pre173 t ?_
          show Steps p.tables e below (T172.setTop (mkF m 82 #[.val (.ref p0), .val (.int p1), .val (.int p2), .val (.int p3)] [(.ref ba)])) _
          refine XS.iloadN X172.here hx rfl (hb hby d10_82) rfl ?_
          show Steps p.tables e below (T172.setTop (mkF m 83 #[.val (.ref p0), .val (.int p1), .val (.int p2), .val (.int p3)] [(.int p1), (.ref ba)])) _
          refine XS.iloadN X172.here hx rfl (hb hby d10_83) rfl ?_
          exact kont
        obtain ⟨T175, h175, X175, e175, W175, V175, st175⟩ := own_stI X172 hx hZ e172 f169_11 (k := k) hi0 hik (hi1 hc58) (fr := (mkF m 84 #[.val (.ref p0), .val (.int p1), .val (.int p2), .val (.int p3)] [(.int p2), (.int p1), (.ref ba)])) rfl rfl (hb hby d10_84)
        have f175_0 := Exa.wr W175 f169_0
        have f175_1 := Fld.other W175 f169_1 (Or.inl d1)
        have f175_2 := Fld.other W175 f169_2 (Or.inl d1)
        have f175_3 := Fld.other W175 f169_3 (Or.inl d1)
        have f175_4 := Fld.other W175 f169_4 (Or.inl d1)
        have f175_5 := Fld.other W175 f169_5 (Or.inl d1)
        have f175_6 := Fld.other W175 f169_6 (Or.inl d1)
        have f175_7 := Fld.other W175 f169_7 (Or.inl d1)
        have f175_8 := Fld.other W175 f169_8 (Or.inl d1)
        have f175_9 := Fld.other W175 f169_9 (Or.inl d1)
        have f175_10 := f169_10.other W175 d4
        have f175_11 := f169_12.other W175 (Ne.symm d8)
        have f175_12 := V169.other W175 (Ne.symm d7)
        obtain ⟨u84, hu84⟩ : ∃ z : Nat → Int32, z = fun i => if i = k then p2 else ga i := ⟨_, rfl⟩
        replace V175 : own_arr Z h175 ba .int 16 (fun i => .int (u84 i)) := by rw [hu84]; exact V175
        have Z175 : n0 ≤ h175.size := Nat.le_trans Z169 (Keep.of_wr W175).1
        have N175 := Fr.snoc X175 N169 g2
        have pre176 : ∀ t, Steps p.tables e below (T175.setTop (mkF m 85 #[.val (.ref p0), .val (.int p1), .val (.int p2), .val (.int p3)] [])) t → Steps p.tables e below (s₁.setTop (entryFrame m #[(.ref p0), (.int p1), (.int p2), (.int p3)] 4)) t := fun t kont => pre174 t (st175 _ kont)
        have pre177 : ∀ t, Steps p.tables e below (T175.setTop (mkF m 87 #[.val (.ref p0), .val (.int p1), .val (.int p2), .val (.int p3)] [(.ref p0), (.int (2 : Int32))])) t → Steps p.tables e below (s₁.setTop (entryFrame m #[(.ref p0), (.int p1), (.int p2), (.int p3)] 4)) t := by
          intro t kont
          refine pre176 t ?_
          show Steps p.tables e below (T175.setTop (mkF m 85 #[.val (.ref p0), .val (.int p1), .val (.int p2), .val (.int p3)] [])) _
          refine XS.iconst X175.here hx rfl (hb hby d10_85) ?_
          show Steps p.tables e below (T175.setTop (mkF m 86 #[.val (.ref p0), .val (.int p1), .val (.int p2), .val (.int p3)] [(.int (2 : Int32))])) _
          refine XS.aloadN X175.here hx rfl (hb hby d10_86) rfl rfl ?_
          exact kont
        obtain ⟨T178, X178, e178, st178⟩ := getF X175 hx hZ hown (host := "") (Or.inl (hw _ (List.mem_of_getElem? (i := 44) rfl))) Via.refl e175 f175_4 (g := (mkF m 87 #[.val (.ref p0), .val (.int p1), .val (.int p2), .val (.int p3)] [(.ref p0), (.int (2 : Int32))])) rfl rfl (hb hby d10_87)
        have pre179 : ∀ t, Steps p.tables e below (T178.setTop (mkF m 90 #[.val (.ref p0), .val (.int p1), .val (.int p2), .val (.int p3)] [(.int (sz + (1 : Int32))), (.int (2 : Int32))])) t → Steps p.tables e below (s₁.setTop (entryFrame m #[(.ref p0), (.int p1), (.int p2), (.int p3)] 4)) t := fun t kont => pre177 t (st178 _ kont)
        have pre180 : ∀ t, Steps p.tables e below (T178.setTop (mkF m 92 #[.val (.ref p0), .val (.int p1), .val (.int p2), .val (.int p3)] [(.ref p0), (.int ((2 : Int32) * (sz + (1 : Int32))))])) t → Steps p.tables e below (s₁.setTop (entryFrame m #[(.ref p0), (.int p1), (.int p2), (.int p3)] 4)) t := by
          intro t kont
          refine pre179 t ?_
          show Steps p.tables e below (T178.setTop (mkF m 90 #[.val (.ref p0), .val (.int p1), .val (.int p2), .val (.int p3)] [(.int (sz + (1 : Int32))), (.int (2 : Int32))])) _
          refine XS.imul X178.here hx rfl (hb hby d10_90) rfl ?_
          show Steps p.tables e below (T178.setTop (mkF m 91 #[.val (.ref p0), .val (.int p1), .val (.int p2), .val (.int p3)] [(.int ((2 : Int32) * (sz + (1 : Int32))))])) _
          refine XS.aloadN X178.here hx rfl (hb hby d10_91) rfl rfl ?_
          exact kont
        obtain ⟨T181, X181, e181, st181⟩ := getF X178 hx hZ hown (host := "") (Or.inl (hw _ (List.mem_of_getElem? (i := 20) rfl))) Via.refl e178 f175_7 (g := (mkF m 92 #[.val (.ref p0), .val (.int p1), .val (.int p2), .val (.int p3)] [(.ref p0), (.int ((2 : Int32) * (sz + (1 : Int32))))])) rfl rfl (hb hby d10_92)
        have pre182 : ∀ t, Steps p.tables e below (T181.setTop (mkF m 95 #[.val (.ref p0), .val (.int p1), .val (.int p2), .val (.int p3)] [(.ref ba), (.int ((2 : Int32) * (sz + (1 : Int32))))])) t → Steps p.tables e below (s₁.setTop (entryFrame m #[(.ref p0), (.int p1), (.int p2), (.int p3)] 4)) t := fun t kont => pre180 t (st181 _ kont)
        have pre183 : ∀ t, Steps p.tables e below (T181.setTop (mkF m 96 #[.val (.ref p0), .val (.int p1), .val (.int p2), .val (.int p3)] [(.int (16 : Int32)), (.int ((2 : Int32) * (sz + (1 : Int32))))])) t → Steps p.tables e below (s₁.setTop (entryFrame m #[(.ref p0), (.int p1), (.int p2), (.int p3)] 4)) t := by
          intro t kont
          refine pre182 t ?_
          show Steps p.tables e below (T181.setTop (mkF m 95 #[.val (.ref p0), .val (.int p1), .val (.int p2), .val (.int p3)] [(.ref ba), (.int ((2 : Int32) * (sz + (1 : Int32))))])) _
          refine own_len X181 hx hZ e181 V175 (z := (16 : Int32)) (by decide) (fr := (mkF m 95 #[.val (.ref p0), .val (.int p1), .val (.int p2), .val (.int p3)] [(.ref ba), (.int ((2 : Int32) * (sz + (1 : Int32))))])) rfl rfl (hb hby d10_95) _ ?_
          exact kont
        by_cases hc96 : (16 : Int32) < ((2 : Int32) * (sz + (1 : Int32)))
        · exfalso
          first | exact (own_twice hz0 hzn hz8).1 hc96 | exact (own_twice hz0 hzn hz8).2 hc96
        · have pre184 : ∀ t, Steps p.tables e below (T181.setTop (mkF m 103 #[.val (.ref p0), .val (.int p1), .val (.int p2), .val (.int p3)] [])) t → Steps p.tables e below (s₁.setTop (entryFrame m #[(.ref p0), (.int p1), (.int p2), (.int p3)] 4)) t := by
            intro t kont
            refine pre183 t ?_
            show Steps p.tables e below (T181.setTop (mkF m 96 #[.val (.ref p0), .val (.int p1), .val (.int p2), .val (.int p3)] [(.int (16 : Int32)), (.int ((2 : Int32) * (sz + (1 : Int32))))])) _
            refine XS.icmpYes X181.here hx rfl (pc0 := 96) (pc' := 103) rfl (hb hby d10_96) rfl (flt hc96).2.2.2 (by decide) (by decide) ?_
            exact kont
          obtain ⟨fs, hr, hrun, hended, hW, hsame⟩ := X181.leave (v := none) (fun _ => rfl)
          refine ⟨_, _, pre184 _ ?_, hrun, hended, _, _, rfl, ?_, ⟨_, rfl⟩, hW, hsame.mono (by decide) (by decide)⟩
          · exact X181.returnOut hx Bd.returns (hb hby d10_103) hr
          · show Q10 Z p0 p1 p2 p3 be ba bn bf dr ow lw sz ne ge ga gn gf k zn h0 n0 _ T181.heap _
            rw [e181]
            refine ⟨rfl, N175, Z175, ?_⟩
            simp only [if_pos hc5, if_pos hc58]
            exact ⟨f175_0, f175_1, f175_2, f175_3, f175_4, f175_5, f175_6, f175_7, f175_8, f175_9, f175_10, (V175.to rfl (fun j _ => by rw [hu84]; rfl)), (f175_12.to rfl (fun j _ => by rw [hu77]; rfl)), (f175_11.to rfl (fun j _ => by rw [hu53]; rfl)), ⟨d0, d1, d2, d3, d4, d5, d6, d7, d8, d9⟩, ⟨g0, g1, g2, g3, g4⟩⟩
      · have pre185 : ∀ t, Steps p.tables e below (T163.setTop (mkF m 62 #[.val (.ref p0), .val (.int p1), .val (.int p2), .val (.int p3)] [(.ref p0)])) t → Steps p.tables e below (s₁.setTop (entryFrame m #[(.ref p0), (.int p1), (.int p2), (.int p3)] 4)) t := by
          intro t kont
          refine pre164 t ?_
          show Steps p.tables e below (T163.setTop (mkF m 58 #[.val (.ref p0), .val (.int p1), .val (.int p2), .val (.int p3)] [(.int ow)])) _
          refine XS.ifNo X163.here hx rfl (hb hby d10_58) rfl ((if0 _ _).trans (feq hc58).1) ?_
          show Steps p.tables e below (T163.setTop (mkF m 61 #[.val (.ref p0), .val (.int p1), .val (.int p2), .val (.int p3)] [])) _
          refine XS.aloadN X163.here hx rfl (hb hby d10_61) rfl rfl ?_
          exact kont
        obtain ⟨T186, X186, e186, st186⟩ := getF X163 hx hZ hown (host := "") (Or.inl (hw _ (List.mem_of_getElem? (i := 10) rfl))) Via.refl e163 f160_6 (g := (mkF m 62 #[.val (.ref p0), .val (.int p1), .val (.int p2), .val (.int p3)] [(.ref p0)])) rfl rfl (hb hby d10_62)
        have pre187 : ∀ t, Steps p.tables e below (T186.setTop (mkF m 65 #[.val (.ref p0), .val (.int p1), .val (.int p2), .val (.int p3)] [(.ref be)])) t → Steps p.tables e below (s₁.setTop (entryFrame m #[(.ref p0), (.int p1), (.int p2), (.int p3)] 4)) t := fun t kont => pre185 t (st186 _ kont)
        have pre188 : ∀ t, Steps p.tables e below (T186.setTop (mkF m 67 #[.val (.ref p0), .val (.int p1), .val (.int p2), .val (.int p3)] [(.int p3), (.int p1), (.ref be)])) t → Steps p.tables e below (s₁.setTop (entryFrame m #[(.ref p0), (.int p1), (.int p2), (.int p3)] 4)) t := by
          intro t kont
          refine pre187 t ?_
          show Steps p.tables e below (T186.setTop (mkF m 65 #[.val (.ref p0), .val (.int p1), .val (.int p2), .val (.int p3)] [(.ref be)])) _
          refine XS.iloadN X186.here hx rfl (hb hby d10_65) rfl ?_
          show Steps p.tables e below (T186.setTop (mkF m 66 #[.val (.ref p0), .val (.int p1), .val (.int p2), .val (.int p3)] [(.int p1), (.ref be)])) _
          refine XS.iloadN X186.here hx rfl (hb hby d10_66) rfl ?_
          exact kont
        obtain ⟨T189, h189, X189, e189, W189, V189, st189⟩ := own_stI X186 hx hZ e186 f160_10 (k := k) hi0 hik (hi2 hc58) (fr := (mkF m 67 #[.val (.ref p0), .val (.int p1), .val (.int p2), .val (.int p3)] [(.int p3), (.int p1), (.ref be)])) rfl rfl (hb hby d10_67)
        have f189_0 := Exa.wr W189 f160_0
        have f189_1 := Fld.other W189 f160_1 (Or.inl d0)
        have f189_2 := Fld.other W189 f160_2 (Or.inl d0)
        have f189_3 := Fld.other W189 f160_3 (Or.inl d0)
        have f189_4 := Fld.other W189 f160_4 (Or.inl d0)
        have f189_5 := Fld.other W189 f160_5 (Or.inl d0)
        have f189_6 := Fld.other W189 f160_6 (Or.inl d0)
        have f189_7 := Fld.other W189 f160_7 (Or.inl d0)
        have f189_8 := Fld.other W189 f160_8 (Or.inl d0)
        have f189_9 := Fld.other W189 f160_9 (Or.inl d0)
        have f189_10 := f160_11.other W189 (Ne.symm d4)
        have f189_11 := f160_12.other W189 (Ne.symm d5)
        have f189_12 := V160.other W189 (Ne.symm d6)
        obtain ⟨u67, hu67⟩ : ∃ z : Nat → Int32, z = fun i => if i = k then p3 else ge i := ⟨_, rfl⟩
        replace V189 : own_arr Z h189 be .int ne (fun i => .int (u67 i)) := by rw [hu67]; exact V189
        have Z189 : n0 ≤ h189.size := Nat.le_trans Z160 (Keep.of_wr W189).1
        have N189 := Fr.snoc X189 N160 g1
        have pre190 : ∀ t, Steps p.tables e below (T189.setTop (mkF m 68 #[.val (.ref p0), .val (.int p1), .val (.int p2), .val (.int p3)] [])) t → Steps p.tables e below (s₁.setTop (entryFrame m #[(.ref p0), (.int p1), (.int p2), (.int p3)] 4)) t := fun t kont => pre188 t (st189 _ kont)
        have pre191 : ∀ t, Steps p.tables e below (T189.setTop (mkF m 103 #[.val (.ref p0), .val (.int p1), .val (.int p2), .val (.int p3)] [])) t → Steps p.tables e below (s₁.setTop (entryFrame m #[(.ref p0), (.int p1), (.int p2), (.int p3)] 4)) t := by
          intro t kont
          refine pre190 t ?_
          show Steps p.tables e below (T189.setTop (mkF m 68 #[.val (.ref p0), .val (.int p1), .val (.int p2), .val (.int p3)] [])) _
          refine XS.goto X189.here hx rfl (pc0 := 68) (pc' := 103) rfl (hb hby d10_68) (by decide) (by decide) ?_
          exact kont
        obtain ⟨fs, hr, hrun, hended, hW, hsame⟩ := X189.leave (v := none) (fun _ => rfl)
        refine ⟨_, _, pre191 _ ?_, hrun, hended, _, _, rfl, ?_, ⟨_, rfl⟩, hW, hsame.mono (by decide) (by decide)⟩
        · exact X189.returnOut hx Bd.returns (hb hby d10_103) hr
        · show Q10 Z p0 p1 p2 p3 be ba bn bf dr ow lw sz ne ge ga gn gf k zn h0 n0 _ T189.heap _
          rw [e189]
          refine ⟨rfl, N189, Z189, ?_⟩
          simp only [if_pos hc5, if_neg hc58]
          exact ⟨f189_0, f189_1, f189_2, f189_3, f189_4, f189_5, f189_6, f189_7, f189_8, f189_9, (V189.to rfl (fun j _ => by rw [hu67]; rfl)), f189_10, f189_11, (f189_12.to rfl (fun j _ => by rw [hu53]; rfl)), ⟨d0, d1, d2, d3, d4, d5, d6, d7, d8, d9⟩, ⟨g0, g1, g2, g3, g4⟩⟩
  · have pre192 : ∀ t, Steps p.tables e below (T141.setTop (mkF m 55 #[.val (.ref p0), .val (.int p1), .val (.int p2), .val (.int p3)] [(.ref p0)])) t → Steps p.tables e below (s₁.setTop (entryFrame m #[(.ref p0), (.int p1), (.int p2), (.int p3)] 4)) t := by
      intro t kont
      refine pre142 t ?_
      show Steps p.tables e below (T141.setTop (mkF m 5 #[.val (.ref p0), .val (.int p1), .val (.int p2), .val (.int p3)] [(.int (own_end ow ge gn k))])) _
      refine XS.ifYes X141.here hx rfl (pc0 := 5) (pc' := 54) rfl (hb hby d10_5) rfl ((if0 _ _).trans (feq hc5).2) (by decide) (by decide) ?_
      show Steps p.tables e below (T141.setTop (mkF m 54 #[.val (.ref p0), .val (.int p1), .val (.int p2), .val (.int p3)] [])) _
      refine XS.aloadN X141.here hx rfl (hb hby d10_54) rfl rfl ?_
      exact kont
    obtain ⟨T193, X193, e193, st193⟩ := getF X141 hx hZ hown (host := "") (Or.inl (hw _ (List.mem_of_getElem? (i := 35) rfl))) Via.refl e141 q_ownSlots (g := (mkF m 55 #[.val (.ref p0), .val (.int p1), .val (.int p2), .val (.int p3)] [(.ref p0)])) rfl rfl (hb hby d10_55)
    have pre194 : ∀ t, Steps p.tables e below (T193.setTop (mkF m 58 #[.val (.ref p0), .val (.int p1), .val (.int p2), .val (.int p3)] [(.int ow)])) t → Steps p.tables e below (s₁.setTop (entryFrame m #[(.ref p0), (.int p1), (.int p2), (.int p3)] 4)) t := fun t kont => pre192 t (st193 _ kont)
    by_cases hc58 : ow = (0 : Int32)
    · have pre195 : ∀ t, Steps p.tables e below (T193.setTop (mkF m 72 #[.val (.ref p0), .val (.int p1), .val (.int p2), .val (.int p3)] [(.ref p0)])) t → Steps p.tables e below (s₁.setTop (entryFrame m #[(.ref p0), (.int p1), (.int p2), (.int p3)] 4)) t := by
        intro t kont
        refine pre194 t ?_
        show Steps p.tables e below (T193.setTop (mkF m 58 #[.val (.ref p0), .val (.int p1), .val (.int p2), .val (.int p3)] [(.int ow)])) _
        refine XS.ifYes X193.here hx rfl (pc0 := 58) (pc' := 71) rfl (hb hby d10_58) rfl ((if0 _ _).trans (teq hc58).1) (by decide) (by decide) ?_
        show Steps p.tables e below (T193.setTop (mkF m 71 #[.val (.ref p0), .val (.int p1), .val (.int p2), .val (.int p3)] [])) _
        refine XS.aloadN X193.here hx rfl (hb hby d10_71) rfl rfl ?_
        exact kont
      obtain ⟨T196, X196, e196, st196⟩ := getF X193 hx hZ hown (host := "") (Or.inl (hw _ (List.mem_of_getElem? (i := 22) rfl))) Via.refl e193 q_ends (g := (mkF m 72 #[.val (.ref p0), .val (.int p1), .val (.int p2), .val (.int p3)] [(.ref p0)])) rfl rfl (hb hby d10_72)
      have pre197 : ∀ t, Steps p.tables e below (T196.setTop (mkF m 75 #[.val (.ref p0), .val (.int p1), .val (.int p2), .val (.int p3)] [(.ref bn)])) t → Steps p.tables e below (s₁.setTop (entryFrame m #[(.ref p0), (.int p1), (.int p2), (.int p3)] 4)) t := fun t kont => pre195 t (st196 _ kont)
      have pre198 : ∀ t, Steps p.tables e below (T196.setTop (mkF m 77 #[.val (.ref p0), .val (.int p1), .val (.int p2), .val (.int p3)] [(.int p3), (.int p1), (.ref bn)])) t → Steps p.tables e below (s₁.setTop (entryFrame m #[(.ref p0), (.int p1), (.int p2), (.int p3)] 4)) t := by
        intro t kont
        refine pre197 t ?_
        show Steps p.tables e below (T196.setTop (mkF m 75 #[.val (.ref p0), .val (.int p1), .val (.int p2), .val (.int p3)] [(.ref bn)])) _
        refine XS.iloadN X196.here hx rfl (hb hby d10_75) rfl ?_
        show Steps p.tables e below (T196.setTop (mkF m 76 #[.val (.ref p0), .val (.int p1), .val (.int p2), .val (.int p3)] [(.int p1), (.ref bn)])) _
        refine XS.iloadN X196.here hx rfl (hb hby d10_76) rfl ?_
        exact kont
      obtain ⟨T199, h199, X199, e199, W199, V199, st199⟩ := own_stI X196 hx hZ e196 Vn (k := k) hi0 hik (hi1 hc58) (fr := (mkF m 77 #[.val (.ref p0), .val (.int p1), .val (.int p2), .val (.int p3)] [(.int p3), (.int p1), (.ref bn)])) rfl rfl (hb hby d10_77)
      have f199_0 := Exa.wr W199 qE
      have f199_1 := Fld.other W199 q_direct (Or.inl d2)
      have f199_2 := Fld.other W199 q_ownSlots (Or.inl d2)
      have f199_3 := Fld.other W199 q_lowest (Or.inl d2)
      have f199_4 := Fld.other W199 q_size (Or.inl d2)
      have f199_5 := Fld.other W199 q_shift (Or.inl d2)
      have f199_6 := Fld.other W199 q_endsByAlignment (Or.inl d2)
      have f199_7 := Fld.other W199 q_alignments (Or.inl d2)
      have f199_8 := Fld.other W199 q_ends (Or.inl d2)
      have f199_9 := Fld.other W199 q_filled (Or.inl d2)
      have f199_10 := Ve.other W199 d5
      have f199_11 := Va.other W199 d7
      have f199_12 := Vf.other W199 (Ne.symm d9)
      obtain ⟨u77, hu77⟩ : ∃ z : Nat → Int32, z = fun i => if i = k then p3 else gn i := ⟨_, rfl⟩
      replace V199 : own_arr Z h199 bn .int 16 (fun i => .int (u77 i)) := by rw [hu77]; exact V199
      have Z199 : n0 ≤ h199.size := Nat.le_trans Z0 (Keep.of_wr W199).1
      have N199 := Fr.snoc X199 N141 g3
      have pre200 : ∀ t, Steps p.tables e below (T199.setTop (mkF m 78 #[.val (.ref p0), .val (.int p1), .val (.int p2), .val (.int p3)] [])) t → Steps p.tables e below (s₁.setTop (entryFrame m #[(.ref p0), (.int p1), (.int p2), (.int p3)] 4)) t := fun t kont => pre198 t (st199 _ kont)
      have pre201 : ∀ t, Steps p.tables e below (T199.setTop (mkF m 79 #[.val (.ref p0), .val (.int p1), .val (.int p2), .val (.int p3)] [(.ref p0)])) t → Steps p.tables e below (s₁.setTop (entryFrame m #[(.ref p0), (.int p1), (.int p2), (.int p3)] 4)) t := by
        intro t kont
        refine pre200 t ?_
        show Steps p.tables e below (T199.setTop (mkF m 78 #[.val (.ref p0), .val (.int p1), .val (.int p2), .val (.int p3)] [])) _
        refine XS.aloadN X199.here hx rfl (hb hby d10_78) rfl rfl ?_
        exact kont
      obtain ⟨T202, X202, e202, st202⟩ := getF X199 hx hZ hown (host := "") (Or.inl (hw _ (List.mem_of_getElem? (i := 20) rfl))) Via.refl e199 f199_7 (g := (mkF m 79 #[.val (.ref p0), .val (.int p1), .val (.int p2), .val (.int p3)] [(.ref p0)])) rfl rfl (hb hby d10_79)
      have pre203 : ∀ t, Steps p.tables e below (T202.setTop (mkF m 82 #[.val (.ref p0), .val (.int p1), .val (.int p2), .val (.int p3)] [(.ref ba)])) t → Steps p.tables e below (s₁.setTop (entryFrame m #[(.ref p0), (.int p1), (.int p2), (.int p3)] 4)) t := fun t kont => pre201 t (st202 _ kont)
      have pre204 : ∀ t, Steps p.tables e below (T202.setTop (mkF m 84 #[.val (.ref p0), .val (.int p1), .val (.int p2), .val (.int p3)] [(.int p2), (.int p1), (.ref ba)])) t → Steps p.tables e below (s₁.setTop (entryFrame m #[(.ref p0), (.int p1), (.int p2), (.int p3)] 4)) t := by
        intro t kont
        refine pre203 t ?_
        show Steps p.tables e below (T202.setTop (mkF m 82 #[.val (.ref p0), .val (.int p1), .val (.int p2), .val (.int p3)] [(.ref ba)])) _
        refine XS.iloadN X202.here hx rfl (hb hby d10_82) rfl ?_
        show Steps p.tables e below (T202.setTop (mkF m 83 #[.val (.ref p0), .val (.int p1), .val (.int p2), .val (.int p3)] [(.int p1), (.ref ba)])) _
        refine XS.iloadN X202.here hx rfl (hb hby d10_83) rfl ?_
        exact kont
      obtain ⟨T205, h205, X205, e205, W205, V205, st205⟩ := own_stI X202 hx hZ e202 f199_11 (k := k) hi0 hik (hi1 hc58) (fr := (mkF m 84 #[.val (.ref p0), .val (.int p1), .val (.int p2), .val (.int p3)] [(.int p2), (.int p1), (.ref ba)])) rfl rfl (hb hby d10_84)
      have f205_0 := Exa.wr W205 f199_0
      have f205_1 := Fld.other W205 f199_1 (Or.inl d1)
      have f205_2 := Fld.other W205 f199_2 (Or.inl d1)
      have f205_3 := Fld.other W205 f199_3 (Or.inl d1)
      have f205_4 := Fld.other W205 f199_4 (Or.inl d1)
      have f205_5 := Fld.other W205 f199_5 (Or.inl d1)
      have f205_6 := Fld.other W205 f199_6 (Or.inl d1)
      have f205_7 := Fld.other W205 f199_7 (Or.inl d1)
      have f205_8 := Fld.other W205 f199_8 (Or.inl d1)
      have f205_9 := Fld.other W205 f199_9 (Or.inl d1)
      have f205_10 := f199_10.other W205 d4
      have f205_11 := f199_12.other W205 (Ne.symm d8)
      have f205_12 := V199.other W205 (Ne.symm d7)
      obtain ⟨u84, hu84⟩ : ∃ z : Nat → Int32, z = fun i => if i = k then p2 else ga i := ⟨_, rfl⟩
      replace V205 : own_arr Z h205 ba .int 16 (fun i => .int (u84 i)) := by rw [hu84]; exact V205
      have Z205 : n0 ≤ h205.size := Nat.le_trans Z199 (Keep.of_wr W205).1
      have N205 := Fr.snoc X205 N199 g2
      have pre206 : ∀ t, Steps p.tables e below (T205.setTop (mkF m 85 #[.val (.ref p0), .val (.int p1), .val (.int p2), .val (.int p3)] [])) t → Steps p.tables e below (s₁.setTop (entryFrame m #[(.ref p0), (.int p1), (.int p2), (.int p3)] 4)) t := fun t kont => pre204 t (st205 _ kont)
      have pre207 : ∀ t, Steps p.tables e below (T205.setTop (mkF m 87 #[.val (.ref p0), .val (.int p1), .val (.int p2), .val (.int p3)] [(.ref p0), (.int (2 : Int32))])) t → Steps p.tables e below (s₁.setTop (entryFrame m #[(.ref p0), (.int p1), (.int p2), (.int p3)] 4)) t := by
        intro t kont
        refine pre206 t ?_
        show Steps p.tables e below (T205.setTop (mkF m 85 #[.val (.ref p0), .val (.int p1), .val (.int p2), .val (.int p3)] [])) _
        refine XS.iconst X205.here hx rfl (hb hby d10_85) ?_
        show Steps p.tables e below (T205.setTop (mkF m 86 #[.val (.ref p0), .val (.int p1), .val (.int p2), .val (.int p3)] [(.int (2 : Int32))])) _
        refine XS.aloadN X205.here hx rfl (hb hby d10_86) rfl rfl ?_
        exact kont
      obtain ⟨T208, X208, e208, st208⟩ := getF X205 hx hZ hown (host := "") (Or.inl (hw _ (List.mem_of_getElem? (i := 44) rfl))) Via.refl e205 f205_4 (g := (mkF m 87 #[.val (.ref p0), .val (.int p1), .val (.int p2), .val (.int p3)] [(.ref p0), (.int (2 : Int32))])) rfl rfl (hb hby d10_87)
      have pre209 : ∀ t, Steps p.tables e below (T208.setTop (mkF m 90 #[.val (.ref p0), .val (.int p1), .val (.int p2), .val (.int p3)] [(.int sz), (.int (2 : Int32))])) t → Steps p.tables e below (s₁.setTop (entryFrame m #[(.ref p0), (.int p1), (.int p2), (.int p3)] 4)) t := fun t kont => pre207 t (st208 _ kont)
      have pre210 : ∀ t, Steps p.tables e below (T208.setTop (mkF m 92 #[.val (.ref p0), .val (.int p1), .val (.int p2), .val (.int p3)] [(.ref p0), (.int ((2 : Int32) * sz))])) t → Steps p.tables e below (s₁.setTop (entryFrame m #[(.ref p0), (.int p1), (.int p2), (.int p3)] 4)) t := by
        intro t kont
        refine pre209 t ?_
        show Steps p.tables e below (T208.setTop (mkF m 90 #[.val (.ref p0), .val (.int p1), .val (.int p2), .val (.int p3)] [(.int sz), (.int (2 : Int32))])) _
        refine XS.imul X208.here hx rfl (hb hby d10_90) rfl ?_
        show Steps p.tables e below (T208.setTop (mkF m 91 #[.val (.ref p0), .val (.int p1), .val (.int p2), .val (.int p3)] [(.int ((2 : Int32) * sz))])) _
        refine XS.aloadN X208.here hx rfl (hb hby d10_91) rfl rfl ?_
        exact kont
      obtain ⟨T211, X211, e211, st211⟩ := getF X208 hx hZ hown (host := "") (Or.inl (hw _ (List.mem_of_getElem? (i := 20) rfl))) Via.refl e208 f205_7 (g := (mkF m 92 #[.val (.ref p0), .val (.int p1), .val (.int p2), .val (.int p3)] [(.ref p0), (.int ((2 : Int32) * sz))])) rfl rfl (hb hby d10_92)
      have pre212 : ∀ t, Steps p.tables e below (T211.setTop (mkF m 95 #[.val (.ref p0), .val (.int p1), .val (.int p2), .val (.int p3)] [(.ref ba), (.int ((2 : Int32) * sz))])) t → Steps p.tables e below (s₁.setTop (entryFrame m #[(.ref p0), (.int p1), (.int p2), (.int p3)] 4)) t := fun t kont => pre210 t (st211 _ kont)
      have pre213 : ∀ t, Steps p.tables e below (T211.setTop (mkF m 96 #[.val (.ref p0), .val (.int p1), .val (.int p2), .val (.int p3)] [(.int (16 : Int32)), (.int ((2 : Int32) * sz))])) t → Steps p.tables e below (s₁.setTop (entryFrame m #[(.ref p0), (.int p1), (.int p2), (.int p3)] 4)) t := by
        intro t kont
        refine pre212 t ?_
        show Steps p.tables e below (T211.setTop (mkF m 95 #[.val (.ref p0), .val (.int p1), .val (.int p2), .val (.int p3)] [(.ref ba), (.int ((2 : Int32) * sz))])) _
        refine own_len X211 hx hZ e211 V205 (z := (16 : Int32)) (by decide) (fr := (mkF m 95 #[.val (.ref p0), .val (.int p1), .val (.int p2), .val (.int p3)] [(.ref ba), (.int ((2 : Int32) * sz))])) rfl rfl (hb hby d10_95) _ ?_
        exact kont
      by_cases hc96 : (16 : Int32) < ((2 : Int32) * sz)
      · exfalso
        first | exact (own_twice hz0 hzn hz8).1 hc96 | exact (own_twice hz0 hzn hz8).2 hc96
      · have pre214 : ∀ t, Steps p.tables e below (T211.setTop (mkF m 103 #[.val (.ref p0), .val (.int p1), .val (.int p2), .val (.int p3)] [])) t → Steps p.tables e below (s₁.setTop (entryFrame m #[(.ref p0), (.int p1), (.int p2), (.int p3)] 4)) t := by
          intro t kont
          refine pre213 t ?_
          show Steps p.tables e below (T211.setTop (mkF m 96 #[.val (.ref p0), .val (.int p1), .val (.int p2), .val (.int p3)] [(.int (16 : Int32)), (.int ((2 : Int32) * sz))])) _
          refine XS.icmpYes X211.here hx rfl (pc0 := 96) (pc' := 103) rfl (hb hby d10_96) rfl (flt hc96).2.2.2 (by decide) (by decide) ?_
          exact kont
        obtain ⟨fs, hr, hrun, hended, hW, hsame⟩ := X211.leave (v := none) (fun _ => rfl)
        refine ⟨_, _, pre214 _ ?_, hrun, hended, _, _, rfl, ?_, ⟨_, rfl⟩, hW, hsame.mono (by decide) (by decide)⟩
        · exact X211.returnOut hx Bd.returns (hb hby d10_103) hr
        · show Q10 Z p0 p1 p2 p3 be ba bn bf dr ow lw sz ne ge ga gn gf k zn h0 n0 _ T211.heap _
          rw [e211]
          refine ⟨rfl, N205, Z205, ?_⟩
          simp only [if_neg hc5, if_pos hc58]
          exact ⟨f205_0, f205_1, f205_2, f205_3, f205_4, f205_5, f205_6, f205_7, f205_8, f205_9, f205_10, (V205.to rfl (fun j _ => by rw [hu84]; rfl)), (f205_12.to rfl (fun j _ => by rw [hu77]; rfl)), f205_11, ⟨d0, d1, d2, d3, d4, d5, d6, d7, d8, d9⟩, ⟨g0, g1, g2, g3, g4⟩⟩
    · have pre215 : ∀ t, Steps p.tables e below (T193.setTop (mkF m 62 #[.val (.ref p0), .val (.int p1), .val (.int p2), .val (.int p3)] [(.ref p0)])) t → Steps p.tables e below (s₁.setTop (entryFrame m #[(.ref p0), (.int p1), (.int p2), (.int p3)] 4)) t := by
        intro t kont
        refine pre194 t ?_
        show Steps p.tables e below (T193.setTop (mkF m 58 #[.val (.ref p0), .val (.int p1), .val (.int p2), .val (.int p3)] [(.int ow)])) _
        refine XS.ifNo X193.here hx rfl (hb hby d10_58) rfl ((if0 _ _).trans (feq hc58).1) ?_
        show Steps p.tables e below (T193.setTop (mkF m 61 #[.val (.ref p0), .val (.int p1), .val (.int p2), .val (.int p3)] [])) _
        refine XS.aloadN X193.here hx rfl (hb hby d10_61) rfl rfl ?_
        exact kont
      obtain ⟨T216, X216, e216, st216⟩ := getF X193 hx hZ hown (host := "") (Or.inl (hw _ (List.mem_of_getElem? (i := 10) rfl))) Via.refl e193 q_endsByAlignment (g := (mkF m 62 #[.val (.ref p0), .val (.int p1), .val (.int p2), .val (.int p3)] [(.ref p0)])) rfl rfl (hb hby d10_62)
      have pre217 : ∀ t, Steps p.tables e below (T216.setTop (mkF m 65 #[.val (.ref p0), .val (.int p1), .val (.int p2), .val (.int p3)] [(.ref be)])) t → Steps p.tables e below (s₁.setTop (entryFrame m #[(.ref p0), (.int p1), (.int p2), (.int p3)] 4)) t := fun t kont => pre215 t (st216 _ kont)
      have pre218 : ∀ t, Steps p.tables e below (T216.setTop (mkF m 67 #[.val (.ref p0), .val (.int p1), .val (.int p2), .val (.int p3)] [(.int p3), (.int p1), (.ref be)])) t → Steps p.tables e below (s₁.setTop (entryFrame m #[(.ref p0), (.int p1), (.int p2), (.int p3)] 4)) t := by
        intro t kont
        refine pre217 t ?_
        show Steps p.tables e below (T216.setTop (mkF m 65 #[.val (.ref p0), .val (.int p1), .val (.int p2), .val (.int p3)] [(.ref be)])) _
        refine XS.iloadN X216.here hx rfl (hb hby d10_65) rfl ?_
        show Steps p.tables e below (T216.setTop (mkF m 66 #[.val (.ref p0), .val (.int p1), .val (.int p2), .val (.int p3)] [(.int p1), (.ref be)])) _
        refine XS.iloadN X216.here hx rfl (hb hby d10_66) rfl ?_
        exact kont
      obtain ⟨T219, h219, X219, e219, W219, V219, st219⟩ := own_stI X216 hx hZ e216 Ve (k := k) hi0 hik (hi2 hc58) (fr := (mkF m 67 #[.val (.ref p0), .val (.int p1), .val (.int p2), .val (.int p3)] [(.int p3), (.int p1), (.ref be)])) rfl rfl (hb hby d10_67)
      have f219_0 := Exa.wr W219 qE
      have f219_1 := Fld.other W219 q_direct (Or.inl d0)
      have f219_2 := Fld.other W219 q_ownSlots (Or.inl d0)
      have f219_3 := Fld.other W219 q_lowest (Or.inl d0)
      have f219_4 := Fld.other W219 q_size (Or.inl d0)
      have f219_5 := Fld.other W219 q_shift (Or.inl d0)
      have f219_6 := Fld.other W219 q_endsByAlignment (Or.inl d0)
      have f219_7 := Fld.other W219 q_alignments (Or.inl d0)
      have f219_8 := Fld.other W219 q_ends (Or.inl d0)
      have f219_9 := Fld.other W219 q_filled (Or.inl d0)
      have f219_10 := Va.other W219 (Ne.symm d4)
      have f219_11 := Vn.other W219 (Ne.symm d5)
      have f219_12 := Vf.other W219 (Ne.symm d6)
      obtain ⟨u67, hu67⟩ : ∃ z : Nat → Int32, z = fun i => if i = k then p3 else ge i := ⟨_, rfl⟩
      replace V219 : own_arr Z h219 be .int ne (fun i => .int (u67 i)) := by rw [hu67]; exact V219
      have Z219 : n0 ≤ h219.size := Nat.le_trans Z0 (Keep.of_wr W219).1
      have N219 := Fr.snoc X219 N141 g1
      have pre220 : ∀ t, Steps p.tables e below (T219.setTop (mkF m 68 #[.val (.ref p0), .val (.int p1), .val (.int p2), .val (.int p3)] [])) t → Steps p.tables e below (s₁.setTop (entryFrame m #[(.ref p0), (.int p1), (.int p2), (.int p3)] 4)) t := fun t kont => pre218 t (st219 _ kont)
      have pre221 : ∀ t, Steps p.tables e below (T219.setTop (mkF m 103 #[.val (.ref p0), .val (.int p1), .val (.int p2), .val (.int p3)] [])) t → Steps p.tables e below (s₁.setTop (entryFrame m #[(.ref p0), (.int p1), (.int p2), (.int p3)] 4)) t := by
        intro t kont
        refine pre220 t ?_
        show Steps p.tables e below (T219.setTop (mkF m 68 #[.val (.ref p0), .val (.int p1), .val (.int p2), .val (.int p3)] [])) _
        refine XS.goto X219.here hx rfl (pc0 := 68) (pc' := 103) rfl (hb hby d10_68) (by decide) (by decide) ?_
        exact kont
      obtain ⟨fs, hr, hrun, hended, hW, hsame⟩ := X219.leave (v := none) (fun _ => rfl)
      refine ⟨_, _, pre221 _ ?_, hrun, hended, _, _, rfl, ?_, ⟨_, rfl⟩, hW, hsame.mono (by decide) (by decide)⟩
      · exact X219.returnOut hx Bd.returns (hb hby d10_103) hr
      · show Q10 Z p0 p1 p2 p3 be ba bn bf dr ow lw sz ne ge ga gn gf k zn h0 n0 _ T219.heap _
        rw [e219]
        refine ⟨rfl, N219, Z219, ?_⟩
        simp only [if_neg hc5, if_neg hc58]
        exact ⟨f219_0, f219_1, f219_2, f219_3, f219_4, f219_5, f219_6, f219_7, f219_8, f219_9, (V219.to rfl (fun j _ => by rw [hu67]; rfl)), f219_10, f219_11, f219_12, ⟨d0, d1, d2, d3, d4, d5, d6, d7, d8, d9⟩, ⟨g0, g1, g2, g3, g4⟩⟩
theorem own_wid {x : Int64} {c : Nat} (h1 : 1 ≤ x.toInt) (h2 : x.toInt ≤ c) (hc : c ≤ 1000) : ¬ x.toInt32 < 0 ∧ x.toInt32.toNatClampNeg ≤ c ∧ x.toInt32.toNatClampNeg = x.toInt.toNat := by
  have a := c_l2i x
  have r := rng32 x.toInt32
  have o : (0 : Int32).toInt = 0 := rfl
  rw [Int32.lt_iff_toInt_lt, Int32.toNatClampNeg]
  omega
theorem own_nlen {n : Nat} (h : n ≤ 1000) : (n.toInt32.toInt64).toInt = n := by
  rw [c_i2l]; exact Int32.toInt_ofNat_of_lt (by omega)
theorem own_grow {n : Nat} {x : Int64} (h : n ≤ 1000) (q : ¬ (n.toInt32.toInt64) < x) : x.toInt ≤ n := by
  rw [Int64.lt_iff_toInt_lt, own_nlen h] at q; omega
theorem d5_0 : decode prog_18_method_2_code 0 = .ok (.iload_n 1, 1) := by decide +kernel
theorem d5_1 : decode prog_18_method_2_code 1 = .ok (.i2l, 1) := by decide +kernel
theorem d5_2 : decode prog_18_method_2_code 2 = .ok (.iload_n 2, 1) := by decide +kernel
theorem d5_3 : decode prog_18_method_2_code 3 = .ok (.i2l, 1) := by decide +kernel
theorem d5_4 : decode prog_18_method_2_code 4 = .ok (.ladd, 1) := by decide +kernel
theorem d5_5 : decode prog_18_method_2_code 5 = .ok (.lconst 1, 1) := by decide +kernel
theorem d5_6 : decode prog_18_method_2_code 6 = .ok (.ladd, 1) := by decide +kernel
theorem d5_7 : decode prog_18_method_2_code 7 = .ok (.lstore_n 3, 1) := by decide +kernel
theorem d5_8 : decode prog_18_method_2_code 8 = .ok (.aload_n 0, 1) := by decide +kernel
theorem d5_9 : decode prog_18_method_2_code 9 = .ok (.lload_n 3, 1) := by decide +kernel
theorem d5_10 : decode prog_18_method_2_code 10 = .ok (.aload_n 0, 1) := by decide +kernel
theorem d5_11 : decode prog_18_method_2_code 11 = .ok (.getfield 32, 3) := by decide +kernel
theorem d5_14 : decode prog_18_method_2_code 14 = .ok (.i2l, 1) := by decide +kernel
theorem d5_15 : decode prog_18_method_2_code 15 = .ok (.lcmp, 1) := by decide +kernel
theorem d5_16 : decode prog_18_method_2_code 16 = .ok (.ifCond .gt 7, 3) := by decide +kernel
theorem d5_23 : decode prog_18_method_2_code 23 = .ok (.iconst 0, 1) := by decide +kernel
theorem d5_24 : decode prog_18_method_2_code 24 = .ok (.putfield 35, 3) := by decide +kernel
theorem d5_27 : decode prog_18_method_2_code 27 = .ok (.aload_n 0, 1) := by decide +kernel
theorem d5_28 : decode prog_18_method_2_code 28 = .ok (.iload_n 1, 1) := by decide +kernel
theorem d5_29 : decode prog_18_method_2_code 29 = .ok (.ineg, 1) := by decide +kernel
theorem d5_30 : decode prog_18_method_2_code 30 = .ok (.putfield 39, 3) := by decide +kernel
theorem d5_33 : decode prog_18_method_2_code 33 = .ok (.aload_n 0, 1) := by decide +kernel
theorem d5_34 : decode prog_18_method_2_code 34 = .ok (.getfield 35, 3) := by decide +kernel
theorem d5_37 : decode prog_18_method_2_code 37 = .ok (.ifCond .eq 22, 3) := by decide +kernel
theorem d5_59 : decode prog_18_method_2_code 59 = .ok (.return_, 1) := by decide +kernel
theorem d5_19 : decode prog_18_method_2_code 19 = .ok (.iconst 1, 1) := by decide +kernel
theorem d5_20 : decode prog_18_method_2_code 20 = .ok (.goto 4, 3) := by decide +kernel
theorem d5_40 : decode prog_18_method_2_code 40 = .ok (.aload_n 0, 1) := by decide +kernel
theorem d5_41 : decode prog_18_method_2_code 41 = .ok (.getfield 9, 3) := by decide +kernel
theorem d5_44 : decode prog_18_method_2_code 44 = .ok (.arraylength, 1) := by decide +kernel
theorem d5_45 : decode prog_18_method_2_code 45 = .ok (.i2l, 1) := by decide +kernel
theorem d5_46 : decode prog_18_method_2_code 46 = .ok (.lload_n 3, 1) := by decide +kernel
theorem d5_47 : decode prog_18_method_2_code 47 = .ok (.lcmp, 1) := by decide +kernel
theorem d5_48 : decode prog_18_method_2_code 48 = .ok (.ifCond .ge 11, 3) := by decide +kernel
theorem d5_51 : decode prog_18_method_2_code 51 = .ok (.aload_n 0, 1) := by decide +kernel
theorem d5_52 : decode prog_18_method_2_code 52 = .ok (.lload_n 3, 1) := by decide +kernel
theorem d5_53 : decode prog_18_method_2_code 53 = .ok (.l2i, 1) := by decide +kernel
theorem d5_54 : decode prog_18_method_2_code 54 = .ok (.newarray .int, 2) := by decide +kernel
theorem d5_56 : decode prog_18_method_2_code 56 = .ok (.putfield 9, 3) := by decide +kernel
theorem ef_5 (m : MethodId) (x0 : Addr) (x1 : Int32) (x2 : Int32) : entryFrame m #[(.ref x0), (.int x1), (.int x2)] 5 = mkF m 0 #[.val (.ref x0), .val (.int x1), .val (.int x2), .unset, .unset] [] := by first | (simp [entryFrame, mkF, argsToLocals, Value.category]; done) | rfl
def Q5 (Z : State) (p0 : Addr) (p1 : Int32) (p2 : Int32) (be : Addr) (ba : Addr) (bn : Addr) (bf : Addr) (dr : Int32) (ow : Int32) (lw : Int32) (sz : Int32) (ne : Nat) (ga : Nat → Int32) (gn : Nat → Int32) (gf : Nat → Int32) (h0 : Heap) (n0 : Nat) (v : Option Value) (h : Heap) (L : List Loc) : Prop := v = none ∧ Fr n0 L ∧ n0 ≤ h.size ∧ ∃ (be' : Addr) (ne' : Nat), ne' ≤ 1000 ∧ (¬ (dr.toInt64 < ((p1.toInt64 + p2.toInt64) + (1 : Int64))) → (((p1.toInt64 + p2.toInt64) + (1 : Int64))).toInt ≤ ne') ∧ own_al Z h n0 p0 be' ba bn bf dr (if dr.toInt64 < ((p1.toInt64 + p2.toInt64) + (1 : Int64)) then (0 : Int32) else (1 : Int32)) (-p1) sz ne' (fun _ => (0 : Int32)) ga gn gf
set_option maxRecDepth 65536 in
set_option maxHeartbeats 40000000 in
theorem rm5 (l : Launch) (Z : State) (a0 : Array Value) (hw : ∀ d ∈ tables_1, d.before a0 Z = true) (ws : List Jvm.Cond) (p0 : Addr) (p1 : Int32) (p2 : Int32) (be : Addr) (ba : Addr) (bn : Addr) (bf : Addr) (dr : Int32) (ow : Int32) (lw : Int32) (sz : Int32) (ne : Nat) (ga : Nat → Int32) (gn : Nat → Int32) (gf : Nat → Int32) (h0 : Heap) (n0 : Nat) (Z0 : n0 ≤ h0.size) (Hal : own_al Z h0 n0 p0 be ba bn bf dr ow lw sz ne (fun _ => (0 : Int32)) ga gn gf) (hne : ne ≤ 1000) (hx1 : 1 ≤ (((p1.toInt64 + p2.toInt64) + (1 : Int64))).toInt) (hcap : ¬ (dr.toInt64 < ((p1.toInt64 + p2.toInt64) + (1 : Int64))) → (((p1.toInt64 + p2.toInt64) + (1 : Int64))).toInt ≤ (31 : Nat)) :
    MetFree l (⟨"com/example/impronta/impronta/engine/Alignments", "start", "(II)V"⟩ : MethodName) (head1 (Jvm.Cond.code (⟨"com/example/impronta/impronta/engine/Alignments", "start", "(II)V"⟩ : MethodName) prog_18_method_2_code 5 none :: ws) ({ frames := 0, cells := 1, slots := 31, locals := 0 } : Room)) (fun a U => a = #[(.ref p0), (.int p1), (.int p2)] ∧ Z.Warmed39 U.vm ∧ U.heap = h0) (fun _ _ _ _ _ => True) (fun _ U o U' => ∃ v L, o = .returned v ∧ Q5 Z p0 p1 p2 be ba bn bf dr ow lw sz ne ga gn gf h0 n0 v U'.heap L ∧ FrameEnd U o U' L ({ frames := 0, cells := 1, slots := 31, locals := 0 } : Room).cells ({ frames := 0, cells := 1, slots := 31, locals := 0 } : Room).slots) := by
  refine MetFree.of_bodySF (plainFor_of_name pn_3) hisR ?_
  intro p e s m args below meth c s₁ Bd hml0 hP hK
  obtain ⟨rfl, hZ, hh⟩ := hP
  have hx := Bd.exec
  have hby := Bd.bytes
  have hml : c.maxLocals = 5 := hml0
  have hown : s.vm.findClass "com/example/impronta/impronta/engine/Alignments" = some m.cls := findClass_of_methodNamed Bd.named
  have hnm := (name_of_methodNamed Bd.named Bd.method).1
  have X0 : Stand p l e ({ frames := 0, cells := 1, slots := 31, locals := 0 } : Room) s m #[(.ref p0), (.int p1), (.int p2)] below meth c s₁ [] 0 0 := Stand.of_body Bd
  have e0 : s₁.heap = h0 := by rw [← hh, Bd.state]; rfl
  have N0 := Fr.nil n0
  have pre0 : ∀ t, Steps p.tables e below (s₁.setTop (mkF m 0 #[.val (.ref p0), .val (.int p1), .val (.int p2), .unset, .unset] [])) t → Steps p.tables e below (s₁.setTop (entryFrame m #[(.ref p0), (.int p1), (.int p2)] 5)) t := fun t k => castTop (ef_5 m p0 p1 p2) k
  obtain ⟨qE, q_direct, q_ownSlots, q_lowest, q_size, q_shift, q_endsByAlignment, q_alignments, q_ends, q_filled, Ve, Va, Vn, Vf, ⟨d0, d1, d2, d3, d4, d5, d6, d7, d8, d9⟩, ⟨g0, g1, g2, g3, g4⟩⟩ := id Hal
  have pre222 : ∀ t, Steps p.tables e below (s₁.setTop (mkF m 11 #[.val (.ref p0), .val (.int p1), .val (.int p2), .val (.long (((p1.toInt64) + (p2.toInt64)) + (1 : Int64))), .second] [(.ref p0), (.long (((p1.toInt64) + (p2.toInt64)) + (1 : Int64))), (.ref p0)])) t → Steps p.tables e below (s₁.setTop (entryFrame m #[(.ref p0), (.int p1), (.int p2)] 5)) t := by
    intro t kont
    refine pre0 t ?_
    show Steps p.tables e below (s₁.setTop (mkF m 0 #[.val (.ref p0), .val (.int p1), .val (.int p2), .unset, .unset] [])) _
    refine XS.iloadN X0.here hx rfl (hb hby d5_0) rfl ?_
    show Steps p.tables e below (s₁.setTop (mkF m 1 #[.val (.ref p0), .val (.int p1), .val (.int p2), .unset, .unset] [(.int p1)])) _
    refine XS.i2l X0.here hx rfl (hb hby d5_1) rfl ?_
    show Steps p.tables e below (s₁.setTop (mkF m 2 #[.val (.ref p0), .val (.int p1), .val (.int p2), .unset, .unset] [(.long (p1.toInt64))])) _
    refine XS.iloadN X0.here hx rfl (hb hby d5_2) rfl ?_
    show Steps p.tables e below (s₁.setTop (mkF m 3 #[.val (.ref p0), .val (.int p1), .val (.int p2), .unset, .unset] [(.int p2), (.long (p1.toInt64))])) _
    refine XS.i2l X0.here hx rfl (hb hby d5_3) rfl ?_
    show Steps p.tables e below (s₁.setTop (mkF m 4 #[.val (.ref p0), .val (.int p1), .val (.int p2), .unset, .unset] [(.long (p2.toInt64)), (.long (p1.toInt64))])) _
    refine XS.ladd X0.here hx rfl (hb hby d5_4) rfl ?_
    show Steps p.tables e below (s₁.setTop (mkF m 5 #[.val (.ref p0), .val (.int p1), .val (.int p2), .unset, .unset] [(.long ((p1.toInt64) + (p2.toInt64)))])) _
    refine XS.lconst X0.here hx rfl (hb hby d5_5) ?_
    show Steps p.tables e below (s₁.setTop (mkF m 6 #[.val (.ref p0), .val (.int p1), .val (.int p2), .unset, .unset] [(.long (1 : Int64)), (.long ((p1.toInt64) + (p2.toInt64)))])) _
    refine XS.ladd X0.here hx rfl (hb hby d5_6) rfl ?_
    show Steps p.tables e below (s₁.setTop (mkF m 7 #[.val (.ref p0), .val (.int p1), .val (.int p2), .unset, .unset] [(.long (((p1.toInt64) + (p2.toInt64)) + (1 : Int64)))])) _
    refine XS.lstoreN X0.here hx rfl (hb hby d5_7) rfl (l' := #[.val (.ref p0), .val (.int p1), .val (.int p2), .val (.long (((p1.toInt64) + (p2.toInt64)) + (1 : Int64))), .second]) rfl ?_
    show Steps p.tables e below (s₁.setTop (mkF m 8 #[.val (.ref p0), .val (.int p1), .val (.int p2), .val (.long (((p1.toInt64) + (p2.toInt64)) + (1 : Int64))), .second] [])) _
    refine XS.aloadN X0.here hx rfl (hb hby d5_8) rfl rfl ?_
    show Steps p.tables e below (s₁.setTop (mkF m 9 #[.val (.ref p0), .val (.int p1), .val (.int p2), .val (.long (((p1.toInt64) + (p2.toInt64)) + (1 : Int64))), .second] [(.ref p0)])) _
    refine XS.lloadN X0.here hx rfl (hb hby d5_9) rfl ?_
    show Steps p.tables e below (s₁.setTop (mkF m 10 #[.val (.ref p0), .val (.int p1), .val (.int p2), .val (.long (((p1.toInt64) + (p2.toInt64)) + (1 : Int64))), .second] [(.long (((p1.toInt64) + (p2.toInt64)) + (1 : Int64))), (.ref p0)])) _
    refine XS.aloadN X0.here hx rfl (hb hby d5_10) rfl rfl ?_
    exact kont
  obtain ⟨T223, X223, e223, st223⟩ := getF X0 hx hZ hown (host := "") (Or.inl (hw _ (List.mem_of_getElem? (i := 28) rfl))) Via.refl e0 q_direct (g := (mkF m 11 #[.val (.ref p0), .val (.int p1), .val (.int p2), .val (.long (((p1.toInt64) + (p2.toInt64)) + (1 : Int64))), .second] [(.ref p0), (.long (((p1.toInt64) + (p2.toInt64)) + (1 : Int64))), (.ref p0)])) rfl rfl (hb hby d5_11)
  have pre224 : ∀ t, Steps p.tables e below (T223.setTop (mkF m 14 #[.val (.ref p0), .val (.int p1), .val (.int p2), .val (.long (((p1.toInt64) + (p2.toInt64)) + (1 : Int64))), .second] [(.int dr), (.long (((p1.toInt64) + (p2.toInt64)) + (1 : Int64))), (.ref p0)])) t → Steps p.tables e below (s₁.setTop (entryFrame m #[(.ref p0), (.int p1), (.int p2)] 5)) t := fun t kont => pre222 t (st223 _ kont)
  have pre225 : ∀ t, Steps p.tables e below (T223.setTop (mkF m 16 #[.val (.ref p0), .val (.int p1), .val (.int p2), .val (.long (((p1.toInt64) + (p2.toInt64)) + (1 : Int64))), .second] [(.int (lcmpW (((p1.toInt64) + (p2.toInt64)) + (1 : Int64)) (dr.toInt64))), (.ref p0)])) t → Steps p.tables e below (s₁.setTop (entryFrame m #[(.ref p0), (.int p1), (.int p2)] 5)) t := by
    intro t kont
    refine pre224 t ?_
    show Steps p.tables e below (T223.setTop (mkF m 14 #[.val (.ref p0), .val (.int p1), .val (.int p2), .val (.long (((p1.toInt64) + (p2.toInt64)) + (1 : Int64))), .second] [(.int dr), (.long (((p1.toInt64) + (p2.toInt64)) + (1 : Int64))), (.ref p0)])) _
    refine XS.i2l X223.here hx rfl (hb hby d5_14) rfl ?_
    show Steps p.tables e below (T223.setTop (mkF m 15 #[.val (.ref p0), .val (.int p1), .val (.int p2), .val (.long (((p1.toInt64) + (p2.toInt64)) + (1 : Int64))), .second] [(.long (dr.toInt64)), (.long (((p1.toInt64) + (p2.toInt64)) + (1 : Int64))), (.ref p0)])) _
    refine XS.lcmp X223.here hx rfl (hb hby d5_15) rfl ?_
    exact kont
  by_cases hc16 : (dr.toInt64) < (((p1.toInt64) + (p2.toInt64)) + (1 : Int64))
  · have pre226 : ∀ t, Steps p.tables e below (T223.setTop (mkF m 24 #[.val (.ref p0), .val (.int p1), .val (.int p2), .val (.long (((p1.toInt64) + (p2.toInt64)) + (1 : Int64))), .second] [(.int (0 : Int32)), (.ref p0)])) t → Steps p.tables e below (s₁.setTop (entryFrame m #[(.ref p0), (.int p1), (.int p2)] 5)) t := by
      intro t kont
      refine pre225 t ?_
      show Steps p.tables e below (T223.setTop (mkF m 16 #[.val (.ref p0), .val (.int p1), .val (.int p2), .val (.long (((p1.toInt64) + (p2.toInt64)) + (1 : Int64))), .second] [(.int (lcmpW (((p1.toInt64) + (p2.toInt64)) + (1 : Int64)) (dr.toInt64))), (.ref p0)])) _
      refine XS.ifYes X223.here hx rfl (pc0 := 16) (pc' := 23) rfl (hb hby d5_16) rfl ((if0 _ _).trans (tlt ((lw_gt _ _).mpr hc16)).2.2.1) (by decide) (by decide) ?_
      show Steps p.tables e below (T223.setTop (mkF m 23 #[.val (.ref p0), .val (.int p1), .val (.int p2), .val (.long (((p1.toInt64) + (p2.toInt64)) + (1 : Int64))), .second] [(.ref p0)])) _
      refine XS.iconst X223.here hx rfl (hb hby d5_23) ?_
      exact kont
    obtain ⟨T227, h227, X227, e227, W227, st227⟩ := putFN X223 hx hZ hown (hw _ (List.mem_of_getElem? (i := 35) rfl)) Via.refl e223 q_ownSlots qE (Or.inl (hw _ (List.mem_of_getElem? (i := 36) rfl))) (hw _ (List.mem_of_getElem? (i := 1) rfl)) (ty := .boolean) (v' := (.int (0 : Int32))) (by decide) rfl (fits_nar_bool (0 : Int32)) (g := (mkF m 24 #[.val (.ref p0), .val (.int p1), .val (.int p2), .val (.long (((p1.toInt64) + (p2.toInt64)) + (1 : Int64))), .second] [(.int (0 : Int32)), (.ref p0)])) rfl rfl (hb hby d5_24)
    have f227_0 := Exa.wr W227 qE
    have f227_1 := Fld.other W227 q_direct (Or.inr (slot_ne (Or.inr (hw _ (List.mem_of_getElem? (i := 29) rfl))) (Or.inl (hw _ (List.mem_of_getElem? (i := 36) rfl))) (by decide) (t := .int) (t' := .boolean) (by decide) (by decide)))
    have f227_2 := Fld.same W227 q_ownSlots
    have f227_3 := Fld.other W227 q_lowest (Or.inr (slot_ne (Or.inl (hw _ (List.mem_of_getElem? (i := 38) rfl))) (Or.inl (hw _ (List.mem_of_getElem? (i := 36) rfl))) (by decide) (t := .int) (t' := .boolean) (by decide) (by decide)))
    have f227_4 := Fld.other W227 q_size (Or.inr (slot_ne (Or.inl (hw _ (List.mem_of_getElem? (i := 45) rfl))) (Or.inl (hw _ (List.mem_of_getElem? (i := 36) rfl))) (by decide) (t := .int) (t' := .boolean) (by decide) (by decide)))
    have f227_5 := Fld.other W227 q_shift (Or.inr (slot_ne (Or.inl (hw _ (List.mem_of_getElem? (i := 25) rfl))) (Or.inl (hw _ (List.mem_of_getElem? (i := 36) rfl))) (by decide) (t := .int) (t' := .boolean) (by decide) (by decide)))
    have f227_6 := Fld.other W227 q_endsByAlignment (Or.inr (slot_ne (Or.inl (hw _ (List.mem_of_getElem? (i := 11) rfl))) (Or.inl (hw _ (List.mem_of_getElem? (i := 36) rfl))) (by decide) (t := (.array .int)) (t' := .boolean) (by decide) (by decide)))
    have f227_7 := Fld.other W227 q_alignments (Or.inr (slot_ne (Or.inl (hw _ (List.mem_of_getElem? (i := 21) rfl))) (Or.inl (hw _ (List.mem_of_getElem? (i := 36) rfl))) (by decide) (t := (.array .int)) (t' := .boolean) (by decide) (by decide)))
    have f227_8 := Fld.other W227 q_ends (Or.inr (slot_ne (Or.inl (hw _ (List.mem_of_getElem? (i := 23) rfl))) (Or.inl (hw _ (List.mem_of_getElem? (i := 36) rfl))) (by decide) (t := (.array .int)) (t' := .boolean) (by decide) (by decide)))
    have f227_9 := Fld.other W227 q_filled (Or.inr (slot_ne (Or.inl (hw _ (List.mem_of_getElem? (i := 27) rfl))) (Or.inl (hw _ (List.mem_of_getElem? (i := 36) rfl))) (by decide) (t := (.array .int)) (t' := .boolean) (by decide) (by decide)))
    have f227_10 := Ve.other W227 (Ne.symm d0)
    have f227_11 := Va.other W227 (Ne.symm d1)
    have f227_12 := Vn.other W227 (Ne.symm d2)
    have f227_13 := Vf.other W227 (Ne.symm d3)
    have Z227 : n0 ≤ h227.size := Nat.le_trans Z0 (Keep.of_wr W227).1
    have N227 := Fr.snoc X227 N0 g0
    have pre228 : ∀ t, Steps p.tables e below (T227.setTop (mkF m 27 #[.val (.ref p0), .val (.int p1), .val (.int p2), .val (.long (((p1.toInt64) + (p2.toInt64)) + (1 : Int64))), .second] [])) t → Steps p.tables e below (s₁.setTop (entryFrame m #[(.ref p0), (.int p1), (.int p2)] 5)) t := fun t kont => pre226 t (st227 _ kont)
    have pre229 : ∀ t, Steps p.tables e below (T227.setTop (mkF m 30 #[.val (.ref p0), .val (.int p1), .val (.int p2), .val (.long (((p1.toInt64) + (p2.toInt64)) + (1 : Int64))), .second] [(.int (-p1)), (.ref p0)])) t → Steps p.tables e below (s₁.setTop (entryFrame m #[(.ref p0), (.int p1), (.int p2)] 5)) t := by
      intro t kont
      refine pre228 t ?_
      show Steps p.tables e below (T227.setTop (mkF m 27 #[.val (.ref p0), .val (.int p1), .val (.int p2), .val (.long (((p1.toInt64) + (p2.toInt64)) + (1 : Int64))), .second] [])) _
      refine XS.aloadN X227.here hx rfl (hb hby d5_27) rfl rfl ?_
      show Steps p.tables e below (T227.setTop (mkF m 28 #[.val (.ref p0), .val (.int p1), .val (.int p2), .val (.long (((p1.toInt64) + (p2.toInt64)) + (1 : Int64))), .second] [(.ref p0)])) _
      refine XS.iloadN X227.here hx rfl (hb hby d5_28) rfl ?_
      show Steps p.tables e below (T227.setTop (mkF m 29 #[.val (.ref p0), .val (.int p1), .val (.int p2), .val (.long (((p1.toInt64) + (p2.toInt64)) + (1 : Int64))), .second] [(.int p1), (.ref p0)])) _
      refine XS.ineg X227.here hx rfl (hb hby d5_29) rfl ?_
      exact kont
    obtain ⟨T230, h230, X230, e230, W230, st230⟩ := putF X227 hx hZ hown (host := "") (Or.inl (hw _ (List.mem_of_getElem? (i := 37) rfl))) Via.refl e227 f227_3 f227_0 (Or.inl (hw _ (List.mem_of_getElem? (i := 38) rfl))) (hw _ (List.mem_of_getElem? (i := 1) rfl)) (ty := .int) (by decide) rfl rfl (g := (mkF m 30 #[.val (.ref p0), .val (.int p1), .val (.int p2), .val (.long (((p1.toInt64) + (p2.toInt64)) + (1 : Int64))), .second] [(.int (-p1)), (.ref p0)])) rfl rfl (hb hby d5_30)
    have f230_0 := Exa.wr W230 f227_0
    have f230_1 := Fld.other W230 f227_1 (Or.inr (slot_ne (Or.inr (hw _ (List.mem_of_getElem? (i := 29) rfl))) (Or.inl (hw _ (List.mem_of_getElem? (i := 38) rfl))) (by decide) (t := .int) (t' := .int) (by decide) (by decide)))
    have f230_2 := Fld.other W230 f227_2 (Or.inr (slot_ne (Or.inl (hw _ (List.mem_of_getElem? (i := 36) rfl))) (Or.inl (hw _ (List.mem_of_getElem? (i := 38) rfl))) (by decide) (t := .boolean) (t' := .int) (by decide) (by decide)))
    have f230_3 := Fld.same W230 f227_3
    have f230_4 := Fld.other W230 f227_4 (Or.inr (slot_ne (Or.inl (hw _ (List.mem_of_getElem? (i := 45) rfl))) (Or.inl (hw _ (List.mem_of_getElem? (i := 38) rfl))) (by decide) (t := .int) (t' := .int) (by decide) (by decide)))
    have f230_5 := Fld.other W230 f227_5 (Or.inr (slot_ne (Or.inl (hw _ (List.mem_of_getElem? (i := 25) rfl))) (Or.inl (hw _ (List.mem_of_getElem? (i := 38) rfl))) (by decide) (t := .int) (t' := .int) (by decide) (by decide)))
    have f230_6 := Fld.other W230 f227_6 (Or.inr (slot_ne (Or.inl (hw _ (List.mem_of_getElem? (i := 11) rfl))) (Or.inl (hw _ (List.mem_of_getElem? (i := 38) rfl))) (by decide) (t := (.array .int)) (t' := .int) (by decide) (by decide)))
    have f230_7 := Fld.other W230 f227_7 (Or.inr (slot_ne (Or.inl (hw _ (List.mem_of_getElem? (i := 21) rfl))) (Or.inl (hw _ (List.mem_of_getElem? (i := 38) rfl))) (by decide) (t := (.array .int)) (t' := .int) (by decide) (by decide)))
    have f230_8 := Fld.other W230 f227_8 (Or.inr (slot_ne (Or.inl (hw _ (List.mem_of_getElem? (i := 23) rfl))) (Or.inl (hw _ (List.mem_of_getElem? (i := 38) rfl))) (by decide) (t := (.array .int)) (t' := .int) (by decide) (by decide)))
    have f230_9 := Fld.other W230 f227_9 (Or.inr (slot_ne (Or.inl (hw _ (List.mem_of_getElem? (i := 27) rfl))) (Or.inl (hw _ (List.mem_of_getElem? (i := 38) rfl))) (by decide) (t := (.array .int)) (t' := .int) (by decide) (by decide)))
    have f230_10 := f227_10.other W230 (Ne.symm d0)
    have f230_11 := f227_11.other W230 (Ne.symm d1)
    have f230_12 := f227_12.other W230 (Ne.symm d2)
    have f230_13 := f227_13.other W230 (Ne.symm d3)
    have Z230 : n0 ≤ h230.size := Nat.le_trans Z227 (Keep.of_wr W230).1
    have N230 := Fr.snoc X230 N227 g0
    have pre231 : ∀ t, Steps p.tables e below (T230.setTop (mkF m 33 #[.val (.ref p0), .val (.int p1), .val (.int p2), .val (.long (((p1.toInt64) + (p2.toInt64)) + (1 : Int64))), .second] [])) t → Steps p.tables e below (s₁.setTop (entryFrame m #[(.ref p0), (.int p1), (.int p2)] 5)) t := fun t kont => pre229 t (st230 _ kont)
    have pre232 : ∀ t, Steps p.tables e below (T230.setTop (mkF m 34 #[.val (.ref p0), .val (.int p1), .val (.int p2), .val (.long (((p1.toInt64) + (p2.toInt64)) + (1 : Int64))), .second] [(.ref p0)])) t → Steps p.tables e below (s₁.setTop (entryFrame m #[(.ref p0), (.int p1), (.int p2)] 5)) t := by
      intro t kont
      refine pre231 t ?_
      show Steps p.tables e below (T230.setTop (mkF m 33 #[.val (.ref p0), .val (.int p1), .val (.int p2), .val (.long (((p1.toInt64) + (p2.toInt64)) + (1 : Int64))), .second] [])) _
      refine XS.aloadN X230.here hx rfl (hb hby d5_33) rfl rfl ?_
      exact kont
    obtain ⟨T233, X233, e233, st233⟩ := getF X230 hx hZ hown (host := "") (Or.inl (hw _ (List.mem_of_getElem? (i := 35) rfl))) Via.refl e230 f230_2 (g := (mkF m 34 #[.val (.ref p0), .val (.int p1), .val (.int p2), .val (.long (((p1.toInt64) + (p2.toInt64)) + (1 : Int64))), .second] [(.ref p0)])) rfl rfl (hb hby d5_34)
    have pre234 : ∀ t, Steps p.tables e below (T233.setTop (mkF m 37 #[.val (.ref p0), .val (.int p1), .val (.int p2), .val (.long (((p1.toInt64) + (p2.toInt64)) + (1 : Int64))), .second] [(.int (0 : Int32))])) t → Steps p.tables e below (s₁.setTop (entryFrame m #[(.ref p0), (.int p1), (.int p2)] 5)) t := fun t kont => pre232 t (st233 _ kont)
    have pre235 : ∀ t, Steps p.tables e below (T233.setTop (mkF m 59 #[.val (.ref p0), .val (.int p1), .val (.int p2), .val (.long (((p1.toInt64) + (p2.toInt64)) + (1 : Int64))), .second] [])) t → Steps p.tables e below (s₁.setTop (entryFrame m #[(.ref p0), (.int p1), (.int p2)] 5)) t := by
      intro t kont
      refine pre234 t ?_
      show Steps p.tables e below (T233.setTop (mkF m 37 #[.val (.ref p0), .val (.int p1), .val (.int p2), .val (.long (((p1.toInt64) + (p2.toInt64)) + (1 : Int64))), .second] [(.int (0 : Int32))])) _
      refine XS.ifYes X233.here hx rfl (pc0 := 37) (pc' := 59) rfl (hb hby d5_37) rfl ((if0 _ _).trans (teq (by decide)).1) (by decide) (by decide) ?_
      exact kont
    obtain ⟨fs, hr, hrun, hended, hW, hsame⟩ := X233.leave (v := none) (fun _ => rfl)
    refine ⟨_, _, pre235 _ ?_, hrun, hended, _, _, rfl, ?_, ⟨_, rfl⟩, hW, hsame.mono (by decide) (by decide)⟩
    · exact X233.returnOut hx Bd.returns (hb hby d5_59) hr
    · show Q5 Z p0 p1 p2 be ba bn bf dr ow lw sz ne ga gn gf h0 n0 _ T233.heap _
      rw [e233]
      refine ⟨rfl, N230, Z230, be, ne, ?_, ?_, ?_⟩
      · exact hne
      · intro q; exact absurd hc16 q
      · rw [if_pos hc16]
        exact ⟨f230_0, f230_1, f230_2, f230_3, f230_4, f230_5, f230_6, f230_7, f230_8, f230_9, f230_10, f230_11, f230_12, f230_13, ⟨d0, d1, d2, d3, d4, d5, d6, d7, d8, d9⟩, ⟨g0, g1, g2, g3, g4⟩⟩
  · have pre236 : ∀ t, Steps p.tables e below (T223.setTop (mkF m 24 #[.val (.ref p0), .val (.int p1), .val (.int p2), .val (.long (((p1.toInt64) + (p2.toInt64)) + (1 : Int64))), .second] [(.int (1 : Int32)), (.ref p0)])) t → Steps p.tables e below (s₁.setTop (entryFrame m #[(.ref p0), (.int p1), (.int p2)] 5)) t := by
      intro t kont
      refine pre225 t ?_
      show Steps p.tables e below (T223.setTop (mkF m 16 #[.val (.ref p0), .val (.int p1), .val (.int p2), .val (.long (((p1.toInt64) + (p2.toInt64)) + (1 : Int64))), .second] [(.int (lcmpW (((p1.toInt64) + (p2.toInt64)) + (1 : Int64)) (dr.toInt64))), (.ref p0)])) _
      refine XS.ifNo X223.here hx rfl (hb hby d5_16) rfl ((if0 _ _).trans (flt (fun q => hc16 ((lw_gt _ _).mp q))).2.2.1) ?_
      show Steps p.tables e below (T223.setTop (mkF m 19 #[.val (.ref p0), .val (.int p1), .val (.int p2), .val (.long (((p1.toInt64) + (p2.toInt64)) + (1 : Int64))), .second] [(.ref p0)])) _
      refine XS.iconst X223.here hx rfl (hb hby d5_19) ?_
      show Steps p.tables e below (T223.setTop (mkF m 20 #[.val (.ref p0), .val (.int p1), .val (.int p2), .val (.long (((p1.toInt64) + (p2.toInt64)) + (1 : Int64))), .second] [(.int (1 : Int32)), (.ref p0)])) _
      refine XS.goto X223.here hx rfl (pc0 := 20) (pc' := 24) rfl (hb hby d5_20) (by decide) (by decide) ?_
      exact kont
    obtain ⟨T237, h237, X237, e237, W237, st237⟩ := putFN X223 hx hZ hown (hw _ (List.mem_of_getElem? (i := 35) rfl)) Via.refl e223 q_ownSlots qE (Or.inl (hw _ (List.mem_of_getElem? (i := 36) rfl))) (hw _ (List.mem_of_getElem? (i := 1) rfl)) (ty := .boolean) (v' := (.int (1 : Int32))) (by decide) rfl (fits_nar_bool (1 : Int32)) (g := (mkF m 24 #[.val (.ref p0), .val (.int p1), .val (.int p2), .val (.long (((p1.toInt64) + (p2.toInt64)) + (1 : Int64))), .second] [(.int (1 : Int32)), (.ref p0)])) rfl rfl (hb hby d5_24)
    have f237_0 := Exa.wr W237 qE
    have f237_1 := Fld.other W237 q_direct (Or.inr (slot_ne (Or.inr (hw _ (List.mem_of_getElem? (i := 29) rfl))) (Or.inl (hw _ (List.mem_of_getElem? (i := 36) rfl))) (by decide) (t := .int) (t' := .boolean) (by decide) (by decide)))
    have f237_2 := Fld.same W237 q_ownSlots
    have f237_3 := Fld.other W237 q_lowest (Or.inr (slot_ne (Or.inl (hw _ (List.mem_of_getElem? (i := 38) rfl))) (Or.inl (hw _ (List.mem_of_getElem? (i := 36) rfl))) (by decide) (t := .int) (t' := .boolean) (by decide) (by decide)))
    have f237_4 := Fld.other W237 q_size (Or.inr (slot_ne (Or.inl (hw _ (List.mem_of_getElem? (i := 45) rfl))) (Or.inl (hw _ (List.mem_of_getElem? (i := 36) rfl))) (by decide) (t := .int) (t' := .boolean) (by decide) (by decide)))
    have f237_5 := Fld.other W237 q_shift (Or.inr (slot_ne (Or.inl (hw _ (List.mem_of_getElem? (i := 25) rfl))) (Or.inl (hw _ (List.mem_of_getElem? (i := 36) rfl))) (by decide) (t := .int) (t' := .boolean) (by decide) (by decide)))
    have f237_6 := Fld.other W237 q_endsByAlignment (Or.inr (slot_ne (Or.inl (hw _ (List.mem_of_getElem? (i := 11) rfl))) (Or.inl (hw _ (List.mem_of_getElem? (i := 36) rfl))) (by decide) (t := (.array .int)) (t' := .boolean) (by decide) (by decide)))
    have f237_7 := Fld.other W237 q_alignments (Or.inr (slot_ne (Or.inl (hw _ (List.mem_of_getElem? (i := 21) rfl))) (Or.inl (hw _ (List.mem_of_getElem? (i := 36) rfl))) (by decide) (t := (.array .int)) (t' := .boolean) (by decide) (by decide)))
    have f237_8 := Fld.other W237 q_ends (Or.inr (slot_ne (Or.inl (hw _ (List.mem_of_getElem? (i := 23) rfl))) (Or.inl (hw _ (List.mem_of_getElem? (i := 36) rfl))) (by decide) (t := (.array .int)) (t' := .boolean) (by decide) (by decide)))
    have f237_9 := Fld.other W237 q_filled (Or.inr (slot_ne (Or.inl (hw _ (List.mem_of_getElem? (i := 27) rfl))) (Or.inl (hw _ (List.mem_of_getElem? (i := 36) rfl))) (by decide) (t := (.array .int)) (t' := .boolean) (by decide) (by decide)))
    have f237_10 := Ve.other W237 (Ne.symm d0)
    have f237_11 := Va.other W237 (Ne.symm d1)
    have f237_12 := Vn.other W237 (Ne.symm d2)
    have f237_13 := Vf.other W237 (Ne.symm d3)
    have Z237 : n0 ≤ h237.size := Nat.le_trans Z0 (Keep.of_wr W237).1
    have N237 := Fr.snoc X237 N0 g0
    have pre238 : ∀ t, Steps p.tables e below (T237.setTop (mkF m 27 #[.val (.ref p0), .val (.int p1), .val (.int p2), .val (.long (((p1.toInt64) + (p2.toInt64)) + (1 : Int64))), .second] [])) t → Steps p.tables e below (s₁.setTop (entryFrame m #[(.ref p0), (.int p1), (.int p2)] 5)) t := fun t kont => pre236 t (st237 _ kont)
    have pre239 : ∀ t, Steps p.tables e below (T237.setTop (mkF m 30 #[.val (.ref p0), .val (.int p1), .val (.int p2), .val (.long (((p1.toInt64) + (p2.toInt64)) + (1 : Int64))), .second] [(.int (-p1)), (.ref p0)])) t → Steps p.tables e below (s₁.setTop (entryFrame m #[(.ref p0), (.int p1), (.int p2)] 5)) t := by
      intro t kont
      refine pre238 t ?_
      show Steps p.tables e below (T237.setTop (mkF m 27 #[.val (.ref p0), .val (.int p1), .val (.int p2), .val (.long (((p1.toInt64) + (p2.toInt64)) + (1 : Int64))), .second] [])) _
      refine XS.aloadN X237.here hx rfl (hb hby d5_27) rfl rfl ?_
      show Steps p.tables e below (T237.setTop (mkF m 28 #[.val (.ref p0), .val (.int p1), .val (.int p2), .val (.long (((p1.toInt64) + (p2.toInt64)) + (1 : Int64))), .second] [(.ref p0)])) _
      refine XS.iloadN X237.here hx rfl (hb hby d5_28) rfl ?_
      show Steps p.tables e below (T237.setTop (mkF m 29 #[.val (.ref p0), .val (.int p1), .val (.int p2), .val (.long (((p1.toInt64) + (p2.toInt64)) + (1 : Int64))), .second] [(.int p1), (.ref p0)])) _
      refine XS.ineg X237.here hx rfl (hb hby d5_29) rfl ?_
      exact kont
    obtain ⟨T240, h240, X240, e240, W240, st240⟩ := putF X237 hx hZ hown (host := "") (Or.inl (hw _ (List.mem_of_getElem? (i := 37) rfl))) Via.refl e237 f237_3 f237_0 (Or.inl (hw _ (List.mem_of_getElem? (i := 38) rfl))) (hw _ (List.mem_of_getElem? (i := 1) rfl)) (ty := .int) (by decide) rfl rfl (g := (mkF m 30 #[.val (.ref p0), .val (.int p1), .val (.int p2), .val (.long (((p1.toInt64) + (p2.toInt64)) + (1 : Int64))), .second] [(.int (-p1)), (.ref p0)])) rfl rfl (hb hby d5_30)
    have f240_0 := Exa.wr W240 f237_0
    have f240_1 := Fld.other W240 f237_1 (Or.inr (slot_ne (Or.inr (hw _ (List.mem_of_getElem? (i := 29) rfl))) (Or.inl (hw _ (List.mem_of_getElem? (i := 38) rfl))) (by decide) (t := .int) (t' := .int) (by decide) (by decide)))
    have f240_2 := Fld.other W240 f237_2 (Or.inr (slot_ne (Or.inl (hw _ (List.mem_of_getElem? (i := 36) rfl))) (Or.inl (hw _ (List.mem_of_getElem? (i := 38) rfl))) (by decide) (t := .boolean) (t' := .int) (by decide) (by decide)))
    have f240_3 := Fld.same W240 f237_3
    have f240_4 := Fld.other W240 f237_4 (Or.inr (slot_ne (Or.inl (hw _ (List.mem_of_getElem? (i := 45) rfl))) (Or.inl (hw _ (List.mem_of_getElem? (i := 38) rfl))) (by decide) (t := .int) (t' := .int) (by decide) (by decide)))
    have f240_5 := Fld.other W240 f237_5 (Or.inr (slot_ne (Or.inl (hw _ (List.mem_of_getElem? (i := 25) rfl))) (Or.inl (hw _ (List.mem_of_getElem? (i := 38) rfl))) (by decide) (t := .int) (t' := .int) (by decide) (by decide)))
    have f240_6 := Fld.other W240 f237_6 (Or.inr (slot_ne (Or.inl (hw _ (List.mem_of_getElem? (i := 11) rfl))) (Or.inl (hw _ (List.mem_of_getElem? (i := 38) rfl))) (by decide) (t := (.array .int)) (t' := .int) (by decide) (by decide)))
    have f240_7 := Fld.other W240 f237_7 (Or.inr (slot_ne (Or.inl (hw _ (List.mem_of_getElem? (i := 21) rfl))) (Or.inl (hw _ (List.mem_of_getElem? (i := 38) rfl))) (by decide) (t := (.array .int)) (t' := .int) (by decide) (by decide)))
    have f240_8 := Fld.other W240 f237_8 (Or.inr (slot_ne (Or.inl (hw _ (List.mem_of_getElem? (i := 23) rfl))) (Or.inl (hw _ (List.mem_of_getElem? (i := 38) rfl))) (by decide) (t := (.array .int)) (t' := .int) (by decide) (by decide)))
    have f240_9 := Fld.other W240 f237_9 (Or.inr (slot_ne (Or.inl (hw _ (List.mem_of_getElem? (i := 27) rfl))) (Or.inl (hw _ (List.mem_of_getElem? (i := 38) rfl))) (by decide) (t := (.array .int)) (t' := .int) (by decide) (by decide)))
    have f240_10 := f237_10.other W240 (Ne.symm d0)
    have f240_11 := f237_11.other W240 (Ne.symm d1)
    have f240_12 := f237_12.other W240 (Ne.symm d2)
    have f240_13 := f237_13.other W240 (Ne.symm d3)
    have Z240 : n0 ≤ h240.size := Nat.le_trans Z237 (Keep.of_wr W240).1
    have N240 := Fr.snoc X240 N237 g0
    have pre241 : ∀ t, Steps p.tables e below (T240.setTop (mkF m 33 #[.val (.ref p0), .val (.int p1), .val (.int p2), .val (.long (((p1.toInt64) + (p2.toInt64)) + (1 : Int64))), .second] [])) t → Steps p.tables e below (s₁.setTop (entryFrame m #[(.ref p0), (.int p1), (.int p2)] 5)) t := fun t kont => pre239 t (st240 _ kont)
    have pre242 : ∀ t, Steps p.tables e below (T240.setTop (mkF m 34 #[.val (.ref p0), .val (.int p1), .val (.int p2), .val (.long (((p1.toInt64) + (p2.toInt64)) + (1 : Int64))), .second] [(.ref p0)])) t → Steps p.tables e below (s₁.setTop (entryFrame m #[(.ref p0), (.int p1), (.int p2)] 5)) t := by
      intro t kont
      refine pre241 t ?_
      show Steps p.tables e below (T240.setTop (mkF m 33 #[.val (.ref p0), .val (.int p1), .val (.int p2), .val (.long (((p1.toInt64) + (p2.toInt64)) + (1 : Int64))), .second] [])) _
      refine XS.aloadN X240.here hx rfl (hb hby d5_33) rfl rfl ?_
      exact kont
    obtain ⟨T243, X243, e243, st243⟩ := getF X240 hx hZ hown (host := "") (Or.inl (hw _ (List.mem_of_getElem? (i := 35) rfl))) Via.refl e240 f240_2 (g := (mkF m 34 #[.val (.ref p0), .val (.int p1), .val (.int p2), .val (.long (((p1.toInt64) + (p2.toInt64)) + (1 : Int64))), .second] [(.ref p0)])) rfl rfl (hb hby d5_34)
    have pre244 : ∀ t, Steps p.tables e below (T243.setTop (mkF m 37 #[.val (.ref p0), .val (.int p1), .val (.int p2), .val (.long (((p1.toInt64) + (p2.toInt64)) + (1 : Int64))), .second] [(.int (1 : Int32))])) t → Steps p.tables e below (s₁.setTop (entryFrame m #[(.ref p0), (.int p1), (.int p2)] 5)) t := fun t kont => pre242 t (st243 _ kont)
    have pre245 : ∀ t, Steps p.tables e below (T243.setTop (mkF m 41 #[.val (.ref p0), .val (.int p1), .val (.int p2), .val (.long (((p1.toInt64) + (p2.toInt64)) + (1 : Int64))), .second] [(.ref p0)])) t → Steps p.tables e below (s₁.setTop (entryFrame m #[(.ref p0), (.int p1), (.int p2)] 5)) t := by
      intro t kont
      refine pre244 t ?_
      show Steps p.tables e below (T243.setTop (mkF m 37 #[.val (.ref p0), .val (.int p1), .val (.int p2), .val (.long (((p1.toInt64) + (p2.toInt64)) + (1 : Int64))), .second] [(.int (1 : Int32))])) _
      refine XS.ifNo X243.here hx rfl (hb hby d5_37) rfl ((if0 _ _).trans (feq (by decide)).1) ?_
      show Steps p.tables e below (T243.setTop (mkF m 40 #[.val (.ref p0), .val (.int p1), .val (.int p2), .val (.long (((p1.toInt64) + (p2.toInt64)) + (1 : Int64))), .second] [])) _
      refine XS.aloadN X243.here hx rfl (hb hby d5_40) rfl rfl ?_
      exact kont
    obtain ⟨T246, X246, e246, st246⟩ := getF X243 hx hZ hown (host := "") (Or.inl (hw _ (List.mem_of_getElem? (i := 10) rfl))) Via.refl e243 f240_6 (g := (mkF m 41 #[.val (.ref p0), .val (.int p1), .val (.int p2), .val (.long (((p1.toInt64) + (p2.toInt64)) + (1 : Int64))), .second] [(.ref p0)])) rfl rfl (hb hby d5_41)
    have pre247 : ∀ t, Steps p.tables e below (T246.setTop (mkF m 44 #[.val (.ref p0), .val (.int p1), .val (.int p2), .val (.long (((p1.toInt64) + (p2.toInt64)) + (1 : Int64))), .second] [(.ref be)])) t → Steps p.tables e below (s₁.setTop (entryFrame m #[(.ref p0), (.int p1), (.int p2)] 5)) t := fun t kont => pre245 t (st246 _ kont)
    have pre248 : ∀ t, Steps p.tables e below (T246.setTop (mkF m 48 #[.val (.ref p0), .val (.int p1), .val (.int p2), .val (.long (((p1.toInt64) + (p2.toInt64)) + (1 : Int64))), .second] [(.int (lcmpW (ne.toInt32.toInt64) (((p1.toInt64) + (p2.toInt64)) + (1 : Int64))))])) t → Steps p.tables e below (s₁.setTop (entryFrame m #[(.ref p0), (.int p1), (.int p2)] 5)) t := by
      intro t kont
      refine pre247 t ?_
      show Steps p.tables e below (T246.setTop (mkF m 44 #[.val (.ref p0), .val (.int p1), .val (.int p2), .val (.long (((p1.toInt64) + (p2.toInt64)) + (1 : Int64))), .second] [(.ref be)])) _
      refine own_len X246 hx hZ e246 f240_10 (z := ne.toInt32) rfl (fr := (mkF m 44 #[.val (.ref p0), .val (.int p1), .val (.int p2), .val (.long (((p1.toInt64) + (p2.toInt64)) + (1 : Int64))), .second] [(.ref be)])) rfl rfl (hb hby d5_44) _ ?_
      show Steps p.tables e below (T246.setTop (mkF m 45 #[.val (.ref p0), .val (.int p1), .val (.int p2), .val (.long (((p1.toInt64) + (p2.toInt64)) + (1 : Int64))), .second] [(.int ne.toInt32)])) _
      refine XS.i2l X246.here hx rfl (hb hby d5_45) rfl ?_
      show Steps p.tables e below (T246.setTop (mkF m 46 #[.val (.ref p0), .val (.int p1), .val (.int p2), .val (.long (((p1.toInt64) + (p2.toInt64)) + (1 : Int64))), .second] [(.long (ne.toInt32.toInt64))])) _
      refine XS.lloadN X246.here hx rfl (hb hby d5_46) rfl ?_
      show Steps p.tables e below (T246.setTop (mkF m 47 #[.val (.ref p0), .val (.int p1), .val (.int p2), .val (.long (((p1.toInt64) + (p2.toInt64)) + (1 : Int64))), .second] [(.long (((p1.toInt64) + (p2.toInt64)) + (1 : Int64))), (.long (ne.toInt32.toInt64))])) _
      refine XS.lcmp X246.here hx rfl (hb hby d5_47) rfl ?_
      exact kont
    by_cases hc48 : (ne.toInt32.toInt64) < (((p1.toInt64) + (p2.toInt64)) + (1 : Int64))
    · have pre249 : ∀ t, Steps p.tables e below (T246.setTop (mkF m 54 #[.val (.ref p0), .val (.int p1), .val (.int p2), .val (.long (((p1.toInt64) + (p2.toInt64)) + (1 : Int64))), .second] [(.int ((((p1.toInt64) + (p2.toInt64)) + (1 : Int64)).toInt32)), (.ref p0)])) t → Steps p.tables e below (s₁.setTop (entryFrame m #[(.ref p0), (.int p1), (.int p2)] 5)) t := by
        intro t kont
        refine pre248 t ?_
        show Steps p.tables e below (T246.setTop (mkF m 48 #[.val (.ref p0), .val (.int p1), .val (.int p2), .val (.long (((p1.toInt64) + (p2.toInt64)) + (1 : Int64))), .second] [(.int (lcmpW (ne.toInt32.toInt64) (((p1.toInt64) + (p2.toInt64)) + (1 : Int64))))])) _
        refine XS.ifNo X246.here hx rfl (hb hby d5_48) rfl ((if0 _ _).trans (tlt ((lw_lt _ _).mpr hc48)).2.1) ?_
        show Steps p.tables e below (T246.setTop (mkF m 51 #[.val (.ref p0), .val (.int p1), .val (.int p2), .val (.long (((p1.toInt64) + (p2.toInt64)) + (1 : Int64))), .second] [])) _
        refine XS.aloadN X246.here hx rfl (hb hby d5_51) rfl rfl ?_
        show Steps p.tables e below (T246.setTop (mkF m 52 #[.val (.ref p0), .val (.int p1), .val (.int p2), .val (.long (((p1.toInt64) + (p2.toInt64)) + (1 : Int64))), .second] [(.ref p0)])) _
        refine XS.lloadN X246.here hx rfl (hb hby d5_52) rfl ?_
        show Steps p.tables e below (T246.setTop (mkF m 53 #[.val (.ref p0), .val (.int p1), .val (.int p2), .val (.long (((p1.toInt64) + (p2.toInt64)) + (1 : Int64))), .second] [(.long (((p1.toInt64) + (p2.toInt64)) + (1 : Int64))), (.ref p0)])) _
        refine XS.l2i X246.here hx rfl (hb hby d5_53) rfl ?_
        exact kont
      obtain ⟨T250, h250, k250, X250, e250, E250, A250, st250⟩ := newP X246 hx hZ (hw _ (List.mem_of_getElem? (i := 9) rfl)) e246 (g := (mkF m 54 #[.val (.ref p0), .val (.int p1), .val (.int p2), .val (.long (((p1.toInt64) + (p2.toInt64)) + (1 : Int64))), .second] [(.int ((((p1.toInt64) + (p2.toInt64)) + (1 : Int64)).toInt32)), (.ref p0)])) rfl (hb hby d5_54) rfl (own_wid hx1 (hcap hc16) (by decide)).1 (cap := 31) (own_wid hx1 (hcap hc16) (by decide)).2.1 (by decide) (by decide) (by decide)
      obtain ⟨b54, g250⟩ : ∃ z, z = h240.size := ⟨_, rfl⟩
      rw [← g250] at A250 st250
      have g_b54 : n0 ≤ b54 := Nat.le_trans Z240 (Nat.le_of_eq g250.symm)
      have ne_p0_b54 : p0 ≠ b54 := Nat.ne_of_lt (Nat.lt_of_lt_of_le (f240_0).lt (Nat.le_of_eq g250.symm))
      have ne_be_b54 : be ≠ b54 := Nat.ne_of_lt (Nat.lt_of_lt_of_le (f240_10).lt (Nat.le_of_eq g250.symm))
      have ne_ba_b54 : ba ≠ b54 := Nat.ne_of_lt (Nat.lt_of_lt_of_le (f240_11).lt (Nat.le_of_eq g250.symm))
      have ne_bn_b54 : bn ≠ b54 := Nat.ne_of_lt (Nat.lt_of_lt_of_le (f240_12).lt (Nat.le_of_eq g250.symm))
      have ne_bf_b54 : bf ≠ b54 := Nat.ne_of_lt (Nat.lt_of_lt_of_le (f240_13).lt (Nat.le_of_eq g250.symm))
      have f250_0 := Exa.ext E250 f240_0
      have f250_1 := Fld.ext E250 f240_1
      have f250_2 := Fld.ext E250 f240_2
      have f250_3 := Fld.ext E250 f240_3
      have f250_4 := Fld.ext E250 f240_4
      have f250_5 := Fld.ext E250 f240_5
      have f250_6 := Fld.ext E250 f240_6
      have f250_7 := Fld.ext E250 f240_7
      have f250_8 := Fld.ext E250 f240_8
      have f250_9 := Fld.ext E250 f240_9
      have f250_10 := f240_10.ext E250
      have f250_11 := f240_11.ext E250
      have f250_12 := f240_12.ext E250
      have f250_13 := f240_13.ext E250
      have V250 := own_arr.newI A250 (i := ((((p1.toInt64 + p2.toInt64) + (1 : Int64))).toInt32.toNatClampNeg)) rfl
      have Z250 : n0 ≤ h250.size := Nat.le_trans Z240 E250.1
      have pre251 : ∀ t, Steps p.tables e below (T250.setTop (mkF m 56 #[.val (.ref p0), .val (.int p1), .val (.int p2), .val (.long (((p1.toInt64) + (p2.toInt64)) + (1 : Int64))), .second] [(.ref b54), (.ref p0)])) t → Steps p.tables e below (s₁.setTop (entryFrame m #[(.ref p0), (.int p1), (.int p2)] 5)) t := fun t kont => pre249 t (st250 _ kont)
      obtain ⟨T252, h252, X252, e252, W252, st252⟩ := putF X250 hx hZ hown (host := "") (Or.inl (hw _ (List.mem_of_getElem? (i := 10) rfl))) Via.refl e250 f250_6 f250_0 (Or.inl (hw _ (List.mem_of_getElem? (i := 11) rfl))) (hw _ (List.mem_of_getElem? (i := 1) rfl)) (ty := (.array .int)) (by decide) rfl rfl (g := (mkF m 56 #[.val (.ref p0), .val (.int p1), .val (.int p2), .val (.long (((p1.toInt64) + (p2.toInt64)) + (1 : Int64))), .second] [(.ref b54), (.ref p0)])) rfl rfl (hb hby d5_56)
      have f252_0 := Exa.wr W252 f250_0
      have f252_1 := Fld.other W252 f250_1 (Or.inr (slot_ne (Or.inr (hw _ (List.mem_of_getElem? (i := 29) rfl))) (Or.inl (hw _ (List.mem_of_getElem? (i := 11) rfl))) (by decide) (t := .int) (t' := (.array .int)) (by decide) (by decide)))
      have f252_2 := Fld.other W252 f250_2 (Or.inr (slot_ne (Or.inl (hw _ (List.mem_of_getElem? (i := 36) rfl))) (Or.inl (hw _ (List.mem_of_getElem? (i := 11) rfl))) (by decide) (t := .boolean) (t' := (.array .int)) (by decide) (by decide)))
      have f252_3 := Fld.other W252 f250_3 (Or.inr (slot_ne (Or.inl (hw _ (List.mem_of_getElem? (i := 38) rfl))) (Or.inl (hw _ (List.mem_of_getElem? (i := 11) rfl))) (by decide) (t := .int) (t' := (.array .int)) (by decide) (by decide)))
      have f252_4 := Fld.other W252 f250_4 (Or.inr (slot_ne (Or.inl (hw _ (List.mem_of_getElem? (i := 45) rfl))) (Or.inl (hw _ (List.mem_of_getElem? (i := 11) rfl))) (by decide) (t := .int) (t' := (.array .int)) (by decide) (by decide)))
      have f252_5 := Fld.other W252 f250_5 (Or.inr (slot_ne (Or.inl (hw _ (List.mem_of_getElem? (i := 25) rfl))) (Or.inl (hw _ (List.mem_of_getElem? (i := 11) rfl))) (by decide) (t := .int) (t' := (.array .int)) (by decide) (by decide)))
      have f252_6 := Fld.same W252 f250_6
      have f252_7 := Fld.other W252 f250_7 (Or.inr (slot_ne (Or.inl (hw _ (List.mem_of_getElem? (i := 21) rfl))) (Or.inl (hw _ (List.mem_of_getElem? (i := 11) rfl))) (by decide) (t := (.array .int)) (t' := (.array .int)) (by decide) (by decide)))
      have f252_8 := Fld.other W252 f250_8 (Or.inr (slot_ne (Or.inl (hw _ (List.mem_of_getElem? (i := 23) rfl))) (Or.inl (hw _ (List.mem_of_getElem? (i := 11) rfl))) (by decide) (t := (.array .int)) (t' := (.array .int)) (by decide) (by decide)))
      have f252_9 := Fld.other W252 f250_9 (Or.inr (slot_ne (Or.inl (hw _ (List.mem_of_getElem? (i := 27) rfl))) (Or.inl (hw _ (List.mem_of_getElem? (i := 11) rfl))) (by decide) (t := (.array .int)) (t' := (.array .int)) (by decide) (by decide)))
      have f252_10 := f250_10.other W252 (Ne.symm d0)
      have f252_11 := f250_11.other W252 (Ne.symm d1)
      have f252_12 := f250_12.other W252 (Ne.symm d2)
      have f252_13 := f250_13.other W252 (Ne.symm d3)
      have f252_14 := V250.other W252 (Ne.symm ne_p0_b54)
      have Z252 : n0 ≤ h252.size := Nat.le_trans Z250 (Keep.of_wr W252).1
      have N252 := Fr.snoc X252 N240 g0
      have pre253 : ∀ t, Steps p.tables e below (T252.setTop (mkF m 59 #[.val (.ref p0), .val (.int p1), .val (.int p2), .val (.long (((p1.toInt64) + (p2.toInt64)) + (1 : Int64))), .second] [])) t → Steps p.tables e below (s₁.setTop (entryFrame m #[(.ref p0), (.int p1), (.int p2)] 5)) t := fun t kont => pre251 t (st252 _ kont)
      obtain ⟨fs, hr, hrun, hended, hW, hsame⟩ := X252.leave (v := none) (fun _ => rfl)
      refine ⟨_, _, pre253 _ ?_, hrun, hended, _, _, rfl, ?_, ⟨_, rfl⟩, hW, hsame.mono (by decide) (by decide)⟩
      · exact X252.returnOut hx Bd.returns (hb hby d5_59) hr
      · show Q5 Z p0 p1 p2 be ba bn bf dr ow lw sz ne ga gn gf h0 n0 _ T252.heap _
        rw [e252]
        refine ⟨rfl, N252, Z252, b54, ((((p1.toInt64 + p2.toInt64) + (1 : Int64))).toInt32.toNatClampNeg), ?_, ?_, ?_⟩
        · have w := own_wid hx1 (hcap hc16) (by decide)
          omega
        · intro _
          have w := own_wid hx1 (hcap hc16) (by decide)
          omega
        · rw [if_neg hc16]
          exact ⟨f252_0, f252_1, f252_2, f252_3, f252_4, f252_5, f252_6, f252_7, f252_8, f252_9, f252_14, f252_11, f252_12, f252_13, ⟨ne_p0_b54, d1, d2, d3, (Ne.symm ne_ba_b54), (Ne.symm ne_bn_b54), (Ne.symm ne_bf_b54), d7, d8, d9⟩, ⟨g0, g_b54, g2, g3, g4⟩⟩
    · have pre254 : ∀ t, Steps p.tables e below (T246.setTop (mkF m 59 #[.val (.ref p0), .val (.int p1), .val (.int p2), .val (.long (((p1.toInt64) + (p2.toInt64)) + (1 : Int64))), .second] [])) t → Steps p.tables e below (s₁.setTop (entryFrame m #[(.ref p0), (.int p1), (.int p2)] 5)) t := by
        intro t kont
        refine pre248 t ?_
        show Steps p.tables e below (T246.setTop (mkF m 48 #[.val (.ref p0), .val (.int p1), .val (.int p2), .val (.long (((p1.toInt64) + (p2.toInt64)) + (1 : Int64))), .second] [(.int (lcmpW (ne.toInt32.toInt64) (((p1.toInt64) + (p2.toInt64)) + (1 : Int64))))])) _
        refine XS.ifYes X246.here hx rfl (pc0 := 48) (pc' := 59) rfl (hb hby d5_48) rfl ((if0 _ _).trans (flt (fun q => hc48 ((lw_lt _ _).mp q))).2.1) (by decide) (by decide) ?_
        exact kont
      obtain ⟨fs, hr, hrun, hended, hW, hsame⟩ := X246.leave (v := none) (fun _ => rfl)
      refine ⟨_, _, pre254 _ ?_, hrun, hended, _, _, rfl, ?_, ⟨_, rfl⟩, hW, hsame.mono (by decide) (by decide)⟩
      · exact X246.returnOut hx Bd.returns (hb hby d5_59) hr
      · show Q5 Z p0 p1 p2 be ba bn bf dr ow lw sz ne ga gn gf h0 n0 _ T246.heap _
        rw [e246]
        refine ⟨rfl, N240, Z240, be, ne, ?_, ?_, ?_⟩
        · exact hne
        · intro _; exact own_grow hne hc48
        · rw [if_neg hc16]
          exact ⟨f240_0, f240_1, f240_2, f240_3, f240_4, f240_5, f240_6, f240_7, f240_8, f240_9, f240_10, f240_11, f240_12, f240_13, ⟨d0, d1, d2, d3, d4, d5, d6, d7, d8, d9⟩, ⟨g0, g1, g2, g3, g4⟩⟩
def own_inv1 (ne zn : Nat) (ge gf : Nat → Int32) : Prop := (∀ j, j < ne → ge j ≠ 0 → ∃ i, i < zn ∧ (gf i).toNatClampNeg = j) ∧ ∀ i, i < zn → ¬ gf i < 0 ∧ (gf i).toNatClampNeg < ne
def own_inv0 (zn : Nat) (ga gn gf : Nat → Int32) : Prop := (∀ j, j < 16 → ga j ≠ (-2147483648 : Int32) → ∃ i, i < zn ∧ (gf i).toNatClampNeg = j) ∧ (∀ j, j < 16 → gn j ≠ 0 → ∃ i, i < zn ∧ (gf i).toNatClampNeg = j) ∧ ∀ i, i < zn → ¬ gf i < 0 ∧ (gf i).toNatClampNeg < 16
theorem own_end1 (ge gn : Nat → Int32) (k : Nat) : own_end (1 : Int32) ge gn k = ge k := by unfold own_end; rw [if_neg (by decide)]
theorem own_end0 (ge gn : Nat → Int32) (k : Nat) : own_end (0 : Int32) ge gn k = gn k := by unfold own_end; rw [if_pos rfl]
theorem own_szup {z : Int32} {n : Nat} (h0 : ¬ z < 0) (h : z.toNatClampNeg = n) (hn : n ≤ 2) : ¬ (z + (1 : Int32)) < 0 ∧ (z + (1 : Int32)).toNatClampNeg = n + 1 := by
  have b := c_iadd z 1
  have r := rng32 (z + 1)
  have o : (1 : Int32).toInt = 1 := rfl
  have o0 : (0 : Int32).toInt = 0 := rfl
  simp only [Int32.lt_iff_toInt_lt, Int32.toNatClampNeg] at *
  omega
theorem own_grew {g gf : Nat → Int32} {x v s : Int32} {n zn k : Nat} (h : ∀ j, j < n → g j ≠ x → ∃ i, i < zn ∧ (gf i).toNatClampNeg = j) (hk : s.toNatClampNeg = k) : ∀ j, j < n → own_set g k v j ≠ x → ∃ i, i < zn + 1 ∧ (own_set gf zn s i).toNatClampNeg = j := by
  intro j hj hne
  by_cases q : j = k
  · exact ⟨zn, by omega, by unfold own_set; rw [if_pos rfl, hk, q]⟩
  · have : own_set g k v j = g j := by unfold own_set; rw [if_neg q]
    rw [this] at hne
    obtain ⟨i, hi, e⟩ := h j hj hne
    exact ⟨i, by omega, by unfold own_set; rw [if_neg (by omega)]; exact e⟩
theorem own_kept {g gf : Nat → Int32} {x v : Int32} {n zn k : Nat} (h : ∀ j, j < n → g j ≠ x → ∃ i, i < zn ∧ (gf i).toNatClampNeg = j) (hk : ∃ i, i < zn ∧ (gf i).toNatClampNeg = k) : ∀ j, j < n → own_set g k v j ≠ x → ∃ i, i < zn ∧ (gf i).toNatClampNeg = j := by
  intro j hj hne
  by_cases q : j = k
  · rw [q]; exact hk
  · have : own_set g k v j = g j := by unfold own_set; rw [if_neg q]
    rw [this] at hne
    exact h j hj hne
theorem own_bnds {gf : Nat → Int32} {s : Int32} {zn m : Nat} (h : ∀ i, i < zn → ¬ gf i < 0 ∧ (gf i).toNatClampNeg < m) (h0 : ¬ s < 0) (h1 : s.toNatClampNeg < m) : ∀ i, i < zn + 1 → ¬ own_set gf zn s i < 0 ∧ (own_set gf zn s i).toNatClampNeg < m := by
  intro i hi
  by_cases q : i = zn
  · have : own_set gf zn s i = s := by unfold own_set; rw [if_pos q]
    rw [this]; exact ⟨h0, h1⟩
  · have : own_set gf zn s i = gf i := by unfold own_set; rw [if_neg q]
    rw [this]; exact h i (by omega)
theorem own_put1 {ne zn k : Nat} {ge gn gf gx : Nat → Int32} {sz s v : Int32} (h : own_inv1 ne zn ge gf) (hz0 : ¬ sz < 0) (hz : sz.toNatClampNeg = zn) (hn : zn ≤ 2) (h0 : ¬ s < 0) (hk : s.toNatClampNeg = k) (hkn : k < ne) :
    ∃ zn', zn' ≤ zn + 1 ∧ ¬ (if (own_end (1 : Int32) ge gn k) = (0 : Int32) then (sz + (1 : Int32)) else sz) < 0 ∧ (if (own_end (1 : Int32) ge gn k) = (0 : Int32) then (sz + (1 : Int32)) else sz).toNatClampNeg = zn' ∧ own_inv1 ne zn' (if (1 : Int32) = (0 : Int32) then gx else (own_set ge k v)) (if (own_end (1 : Int32) ge gn k) = (0 : Int32) then (own_set gf zn s) else gf) := by
  rw [own_end1, if_neg (show ¬ (1 : Int32) = (0 : Int32) by decide)]
  have up := own_szup hz0 hz hn
  by_cases q : ge k = 0
  · rw [if_pos q, if_pos q]
    exact ⟨zn + 1, Nat.le_refl _, up.1, up.2, own_grew h.1 hk, own_bnds h.2 h0 (by rw [hk]; exact hkn)⟩
  · rw [if_neg q, if_neg q]
    exact ⟨zn, by omega, hz0, hz, own_kept h.1 (h.1 k hkn q), h.2⟩
theorem own_put0 {zn k : Nat} {ge ga gn gf gx gy : Nat → Int32} {sz s v a : Int32} (h : own_inv0 zn ga gn gf) (hz0 : ¬ sz < 0) (hz : sz.toNatClampNeg = zn) (hn : zn ≤ 2) (h0 : ¬ s < 0) (hk : s.toNatClampNeg = k) (hkn : k < 16) (hga : gn k ≠ 0 → ∃ i, i < zn ∧ (gf i).toNatClampNeg = k) :
    ∃ zn', zn' ≤ zn + 1 ∧ ¬ (if (own_end (0 : Int32) ge gn k) = (0 : Int32) then (sz + (1 : Int32)) else sz) < 0 ∧ (if (own_end (0 : Int32) ge gn k) = (0 : Int32) then (sz + (1 : Int32)) else sz).toNatClampNeg = zn' ∧ own_inv0 zn' (if (0 : Int32) = (0 : Int32) then (own_set ga k a) else gx) (if (0 : Int32) = (0 : Int32) then (own_set gn k v) else gy) (if (own_end (0 : Int32) ge gn k) = (0 : Int32) then (own_set gf zn s) else gf) := by
  rw [own_end0, if_pos (show (0 : Int32) = (0 : Int32) from rfl), if_pos (show (0 : Int32) = (0 : Int32) from rfl)]
  have up := own_szup hz0 hz hn
  by_cases q : gn k = 0
  · rw [if_pos q, if_pos q]
    exact ⟨zn + 1, Nat.le_refl _, up.1, up.2, own_grew h.1 hk, own_grew h.2.1 hk, own_bnds h.2.2 h0 (by rw [hk]; exact hkn)⟩
  · rw [if_neg q, if_neg q]
    exact ⟨zn, by omega, hz0, hz, own_kept h.1 (hga q), own_kept h.2.1 (hga q), h.2.2⟩
theorem own_mod (x : Int32) {c : Int32} (hc : 1 ≤ c.toInt) : 0 ≤ ((x &&& (65535 : Int32)) % c).toInt ∧ ((x &&& (65535 : Int32)) % c).toInt < c.toInt := by
  have e := c_mask x 65535 16 (by decide) (by decide)
  have q := (c_iremV (x &&& (65535 : Int32)) c).1 (by omega) (by omega)
  omega
theorem own_mod2 (x : Int32) {c : Int32} (hc : 1 ≤ c.toInt) : 0 ≤ ((x &&& (2147483647 : Int32)) % c).toInt ∧ ((x &&& (2147483647 : Int32)) % c).toInt < c.toInt := by
  have e := c_mask x 2147483647 31 (by decide) (by decide)
  have q := (c_iremV (x &&& (2147483647 : Int32)) c).1 (by omega) (by omega)
  omega
theorem own_cz {c : Int32} (h : 1 ≤ c.toInt) : c ≠ 0 := fun q => by rw [q] at h; have o : (0 : Int32).toInt = 0 := rfl; omega
theorem own_sA (k a : Int32) (ga : Nat → Int32) : own_slot (1 : Int32) (-a) ga (k - a) = k := by
  unfold own_slot; rw [if_neg (by decide)]
  rw [← Int32.toBitVec_inj, Int32.toBitVec_sub, Int32.toBitVec_sub, Int32.toBitVec_neg, BitVec.sub_neg, BitVec.sub_add_cancel]
theorem own_i0 {s : Int32} (h : 0 ≤ s.toInt) : ¬ s < 0 := by rw [Int32.lt_iff_toInt_lt]; have o : (0 : Int32).toInt = 0 := rfl; omega
theorem own_natlt {s : Int32} {n : Nat} (h0 : 0 ≤ s.toInt) (h : s.toInt < n) : s.toNatClampNeg < n := by rw [Int32.toNatClampNeg]; omega
theorem own_sl0 (lw a : Int32) (ga : Nat → Int32) : ¬ (own_slot (0 : Int32) lw ga a) < 0 ∧ (own_slot (0 : Int32) lw ga a).toNatClampNeg < 16 := by
  have h := own_home a
  have n1 := own_nxt (((a * (-1640531527 : Int32)).toUInt32 >>> ((28 : Int32) &&& 31).toUInt32).toInt32)
  have n2 := own_nxt (((((a * (-1640531527 : Int32)).toUInt32 >>> ((28 : Int32) &&& 31).toUInt32).toInt32) + (1 : Int32)) &&& (15 : Int32))
  unfold own_slot own_probe; rw [if_pos rfl]
  repeat' split
  all_goals first | exact h | exact n1 | exact n2 | exact ⟨by decide, by decide⟩
theorem own_sB (lw a : Int32) : own_slot (0 : Int32) lw (fun _ => (-2147483648 : Int32)) a = (((a * (-1640531527 : Int32)).toUInt32 >>> ((28 : Int32) &&& 31).toUInt32).toInt32) := by
  unfold own_slot own_probe; rw [if_pos rfl]
  split
  · rfl
  · rw [if_pos rfl]
theorem own_nxv (s : Int32) (h0 : ¬ s < 0) (h1 : s.toNatClampNeg < 16) : ((s + (1 : Int32)) &&& (15 : Int32)).toNatClampNeg = (s.toNatClampNeg + 1) % 16 := by
  have e := c_mask (s + (1 : Int32)) 15 4 (by decide) (by decide)
  have a := c_iadd s 1
  have r := rng32 (s + 1)
  have o : (1 : Int32).toInt = 1 := rfl
  have o0 : (0 : Int32).toInt = 0 := rfl
  rw [Int32.lt_iff_toInt_lt] at h0
  rw [Int32.toNatClampNeg] at h1 ⊢
  rw [Int32.toNatClampNeg]
  omega
theorem own_three {zn : Nat} {ga gn gf : Nat → Int32} (h : own_inv0 zn ga gn gf) (hn : zn ≤ 2) (a : Int32) : ga (((a * (-1640531527 : Int32)).toUInt32 >>> ((28 : Int32) &&& 31).toUInt32).toInt32).toNatClampNeg = (-2147483648 : Int32) ∨ ga (((((a * (-1640531527 : Int32)).toUInt32 >>> ((28 : Int32) &&& 31).toUInt32).toInt32) + (1 : Int32)) &&& (15 : Int32)).toNatClampNeg = (-2147483648 : Int32) ∨ ga (((((((a * (-1640531527 : Int32)).toUInt32 >>> ((28 : Int32) &&& 31).toUInt32).toInt32) + (1 : Int32)) &&& (15 : Int32)) + (1 : Int32)) &&& (15 : Int32)).toNatClampNeg = (-2147483648 : Int32) := by
  have w0 := own_home a
  have w1 := own_nxt (((a * (-1640531527 : Int32)).toUInt32 >>> ((28 : Int32) &&& 31).toUInt32).toInt32)
  have w2 := own_nxt (((((a * (-1640531527 : Int32)).toUInt32 >>> ((28 : Int32) &&& 31).toUInt32).toInt32) + (1 : Int32)) &&& (15 : Int32))
  have e1 := own_nxv _ w0.1 w0.2
  have e2 := own_nxv _ w1.1 w1.2
  apply Classical.byContradiction
  intro hne
  rw [not_or, not_or] at hne
  obtain ⟨i0, a0, b0⟩ := h.1 _ w0.2 hne.1
  obtain ⟨i1, a1, b1⟩ := h.1 _ w1.2 hne.2.1
  obtain ⟨i2, a2, b2⟩ := h.1 _ w2.2 hne.2.2
  have c : i0 = i1 ∨ i0 = i2 ∨ i1 = i2 := by omega
  rcases c with c | c | c
  · rw [c, b1] at b0; omega
  · rw [c, b2] at b0; omega
  · rw [c, b2] at b1; omega
def own_clr (x : Int32) (g gf : Nat → Int32) : Nat → Nat → Int32
  | 0, j => g j
  | m + 1, j => if j = (gf m).toNatClampNeg then x else own_clr x g gf m j
theorem own_clr_all {x : Int32} {g gf : Nat → Int32} (j : Nat) : ∀ m, (g j ≠ x → ∃ i, i < m ∧ (gf i).toNatClampNeg = j) → own_clr x g gf m j = x
  | 0, h => Classical.byContradiction fun q => by obtain ⟨i, hi, -⟩ := h q; omega
  | m + 1, h => by
    unfold own_clr
    by_cases q : j = (gf m).toNatClampNeg
    · rw [if_pos q]
    · rw [if_neg q]
      refine own_clr_all j m fun hne => ?_
      obtain ⟨i, hi, e⟩ := h hne
      exact ⟨i, Nat.lt_of_le_of_ne (by omega) (fun z => q (by rw [← z]; exact e.symm)), e⟩
theorem own_iin {sz i : Int32} {zn k : Nat} (h : sz.toNatClampNeg = zn) (h0 : ¬ i < 0) (hk : i.toNatClampNeg = k) (q : i < sz) : k < zn := by
  rw [Int32.lt_iff_toInt_lt] at q h0
  rw [Int32.toNatClampNeg] at h hk
  have o0 : (0 : Int32).toInt = 0 := rfl
  omega
theorem own_iout {sz i : Int32} {zn k : Nat} (h : sz.toNatClampNeg = zn) (h0 : ¬ i < 0) (hk : i.toNatClampNeg = k) (q : ¬ i < sz) : zn ≤ k := by
  rw [Int32.lt_iff_toInt_lt] at q h0
  rw [Int32.toNatClampNeg] at h hk
  have o0 : (0 : Int32).toInt = 0 := rfl
  omega
theorem own_more {g gf : Nat → Int32} {x : Int32} {n zn m : Nat} (h : ∀ j, j < n → g j ≠ x → ∃ i, i < zn ∧ (gf i).toNatClampNeg = j) (q : zn ≤ m) (j : Nat) (hj : j < n) : own_clr x g gf m j = x :=
  own_clr_all j m fun hne => by obtain ⟨i, hi, e⟩ := h j hj hne; exact ⟨i, by omega, e⟩
theorem d9_0 : decode method_3_code 0 = .ok (.iload_n 3, 1) := by decide +kernel
theorem d9_1 : decode method_3_code 1 = .ok (.ldc 34, 2) := by decide +kernel
theorem d9_3 : decode method_3_code 3 = .ok (.iand, 1) := by decide +kernel
theorem d9_4 : decode method_3_code 4 = .ok (.iload_n 2, 1) := by decide +kernel
theorem d9_5 : decode method_3_code 5 = .ok (.irem, 1) := by decide +kernel
theorem d9_6 : decode method_3_code 6 = .ok (.iload_n 1, 1) := by decide +kernel
theorem d9_7 : decode method_3_code 7 = .ok (.isub, 1) := by decide +kernel
theorem d9_8 : decode method_3_code 8 = .ok (.istore 4, 2) := by decide +kernel
theorem d9_10 : decode method_3_code 10 = .ok (.aload_n 0, 1) := by decide +kernel
theorem d9_11 : decode method_3_code 11 = .ok (.iload 4, 2) := by decide +kernel
theorem d9_13 : decode method_3_code 13 = .ok (.invokevirtual 26, 3) := by decide +kernel
theorem d9_16 : decode method_3_code 16 = .ok (.istore 5, 2) := by decide +kernel
theorem d9_18 : decode method_3_code 18 = .ok (.aload_n 0, 1) := by decide +kernel
theorem d9_19 : decode method_3_code 19 = .ok (.iload 5, 2) := by decide +kernel
theorem d9_21 : decode method_3_code 21 = .ok (.iload 4, 2) := by decide +kernel
theorem d9_23 : decode method_3_code 23 = .ok (.iload_n 3, 1) := by decide +kernel
theorem d9_24 : decode method_3_code 24 = .ok (.bipush 16, 2) := by decide +kernel
theorem d9_26 : decode method_3_code 26 = .ok (.iushr, 1) := by decide +kernel
theorem d9_27 : decode method_3_code 27 = .ok (.iconst 1, 1) := by decide +kernel
theorem d9_28 : decode method_3_code 28 = .ok (.iadd, 1) := by decide +kernel
theorem d9_29 : decode method_3_code 29 = .ok (.invokevirtual 35, 3) := by decide +kernel
theorem pd_3 : parseMethodDescriptor "(III)V" = some ⟨[.int, .int, .int], none⟩ := by decide +kernel
theorem d9_32 : decode method_3_code 32 = .ok (.return_, 1) := by decide +kernel
theorem pn_9 : plainName "com/example/impronta/impronta/engine/AlignmentsClearPinLaw" = true := by first | (simp [plainName, overriddenIn]; done) | decide +kernel
theorem ef_9 (m : MethodId) (x0 : Addr) (x1 : Int32) (x2 : Int32) (x3 : Int32) : entryFrame m #[(.ref x0), (.int x1), (.int x2), (.int x3)] 6 = mkF m 0 #[.val (.ref x0), .val (.int x1), .val (.int x2), .val (.int x3), .unset, .unset] [] := by first | (simp [entryFrame, mkF, argsToLocals, Value.category]; done) | rfl
def Q9a (Z : State) (p0 : Addr) (p1 : Int32) (p2 : Int32) (p3 : Int32) (be : Addr) (ba : Addr) (bn : Addr) (bf : Addr) (dr : Int32) (sz : Int32) (ne : Nat) (ge : Nat → Int32) (ga : Nat → Int32) (gn : Nat → Int32) (gf : Nat → Int32) (zn : Nat) (h0 : Heap) (n0 : Nat) (v : Option Value) (h : Heap) (L : List Loc) : Prop := v = none ∧ Fr n0 L ∧ n0 ≤ h.size ∧ ∃ (sz' : Int32) (zn' : Nat) (ge' ga' gn' gf' : Nat → Int32), zn' ≤ zn + 1 ∧ ¬ sz' < 0 ∧ sz'.toNatClampNeg = zn' ∧ own_inv1 ne zn' ge' gf' ∧ own_al Z h n0 p0 be ba bn bf dr (1 : Int32) (-p1) sz' ne ge' ga' gn' gf'
set_option maxRecDepth 65536 in
set_option maxHeartbeats 40000000 in
theorem rm9a (l : Launch) (Z : State) (a0 : Array Value) (hw : ∀ d ∈ tables_1, d.before a0 Z = true) (ws : List Jvm.Cond) (p0 : Addr) (p1 : Int32) (p2 : Int32) (p3 : Int32) (be : Addr) (ba : Addr) (bn : Addr) (bf : Addr) (dr : Int32) (sz : Int32) (ne : Nat) (ge : Nat → Int32) (ga : Nat → Int32) (gn : Nat → Int32) (gf : Nat → Int32) (zn : Nat) (h0 : Heap) (n0 : Nat) (Z0 : n0 ≤ h0.size) (Hal : own_al Z h0 n0 p0 be ba bn bf dr (1 : Int32) (-p1) sz ne ge ga gn gf) (hI : own_inv1 ne zn ge gf) (hz0 : ¬ sz < 0) (hzn : sz.toNatClampNeg = zn) (hn2 : zn ≤ 2) (hC : 1 ≤ p2.toInt ∧ p2.toInt ≤ (ne : Int)) :
    MetFree l (⟨"com/example/impronta/impronta/engine/AlignmentsClearPinLaw", "putOne", "(Lcom/example/impronta/impronta/engine/Alignments;III)V"⟩ : MethodName) (head1 (Jvm.Cond.code (⟨"com/example/impronta/impronta/engine/AlignmentsClearPinLaw", "putOne", "(Lcom/example/impronta/impronta/engine/Alignments;III)V"⟩ : MethodName) method_3_code 6 none :: ws) ({ frames := 2, cells := 0, slots := 0, locals := 28 } : Room)) (fun a U => a = #[(.ref p0), (.int p1), (.int p2), (.int p3)] ∧ Z.Warmed39 U.vm ∧ U.heap = h0) (fun _ _ _ _ _ => True) (fun _ U o U' => ∃ v L, o = .returned v ∧ Q9a Z p0 p1 p2 p3 be ba bn bf dr sz ne ge ga gn gf zn h0 n0 v U'.heap L ∧ FrameEnd U o U' L ({ frames := 2, cells := 0, slots := 0, locals := 28 } : Room).cells ({ frames := 2, cells := 0, slots := 0, locals := 28 } : Room).slots) := by
  refine MetFree.of_bodySF (plainFor_of_name pn_9) hisR ?_
  intro p e s m args below meth c s₁ Bd hml0 hP hK
  obtain ⟨rfl, hZ, hh⟩ := hP
  have hx := Bd.exec
  have hby := Bd.bytes
  have hml : c.maxLocals = 6 := hml0
  have hown : s.vm.findClass "com/example/impronta/impronta/engine/AlignmentsClearPinLaw" = some m.cls := findClass_of_methodNamed Bd.named
  have hnm := (name_of_methodNamed Bd.named Bd.method).1
  have X0 : Stand p l e ({ frames := 2, cells := 0, slots := 0, locals := 28 } : Room) s m #[(.ref p0), (.int p1), (.int p2), (.int p3)] below meth c s₁ [] 0 0 := Stand.of_body Bd
  have e0 : s₁.heap = h0 := by rw [← hh, Bd.state]; rfl
  have N0 := Fr.nil n0
  have pre0 : ∀ t, Steps p.tables e below (s₁.setTop (mkF m 0 #[.val (.ref p0), .val (.int p1), .val (.int p2), .val (.int p3), .unset, .unset] [])) t → Steps p.tables e below (s₁.setTop (entryFrame m #[(.ref p0), (.int p1), (.int p2), (.int p3)] 6)) t := fun t k => castTop (ef_9 m p0 p1 p2 p3) k
  have pre255 : ∀ t, Steps p.tables e below (s₁.setTop (mkF m 13 #[.val (.ref p0), .val (.int p1), .val (.int p2), .val (.int p3), .val (.int (((p3 &&& (65535 : Int32)) % p2) - p1)), .unset] [(.int (((p3 &&& (65535 : Int32)) % p2) - p1)), (.ref p0)])) t → Steps p.tables e below (s₁.setTop (entryFrame m #[(.ref p0), (.int p1), (.int p2), (.int p3)] 6)) t := by
    intro t kont
    refine pre0 t ?_
    show Steps p.tables e below (s₁.setTop (mkF m 0 #[.val (.ref p0), .val (.int p1), .val (.int p2), .val (.int p3), .unset, .unset] [])) _
    refine XS.iloadN X0.here hx rfl (hb hby d9_0) rfl ?_
    show Steps p.tables e below (s₁.setTop (mkF m 1 #[.val (.ref p0), .val (.int p1), .val (.int p2), .val (.int p3), .unset, .unset] [(.int p3)])) _
    refine X0.ldcInt hx hown (mvT hZ (hw _ (List.mem_of_getElem? (i := 63) rfl))) (g := (mkF m 1 #[.val (.ref p0), .val (.int p1), .val (.int p2), .val (.int p3), .unset, .unset] [(.int p3)])) rfl (hb hby d9_1) _ ?_
    show Steps p.tables e below (s₁.setTop (mkF m 3 #[.val (.ref p0), .val (.int p1), .val (.int p2), .val (.int p3), .unset, .unset] [(.int (65535 : Int32)), (.int p3)])) _
    refine XS.iand X0.here hx rfl (hb hby d9_3) rfl ?_
    show Steps p.tables e below (s₁.setTop (mkF m 4 #[.val (.ref p0), .val (.int p1), .val (.int p2), .val (.int p3), .unset, .unset] [(.int (p3 &&& (65535 : Int32)))])) _
    refine XS.iloadN X0.here hx rfl (hb hby d9_4) rfl ?_
    show Steps p.tables e below (s₁.setTop (mkF m 5 #[.val (.ref p0), .val (.int p1), .val (.int p2), .val (.int p3), .unset, .unset] [(.int p2), (.int (p3 &&& (65535 : Int32)))])) _
    refine iremM X0 hx rfl (hb hby d9_5) rfl (own_cz hC.1) ?_
    show Steps p.tables e below (s₁.setTop (mkF m 6 #[.val (.ref p0), .val (.int p1), .val (.int p2), .val (.int p3), .unset, .unset] [(.int ((p3 &&& (65535 : Int32)) % p2))])) _
    refine XS.iloadN X0.here hx rfl (hb hby d9_6) rfl ?_
    show Steps p.tables e below (s₁.setTop (mkF m 7 #[.val (.ref p0), .val (.int p1), .val (.int p2), .val (.int p3), .unset, .unset] [(.int p1), (.int ((p3 &&& (65535 : Int32)) % p2))])) _
    refine XS.isub X0.here hx rfl (hb hby d9_7) rfl ?_
    show Steps p.tables e below (s₁.setTop (mkF m 8 #[.val (.ref p0), .val (.int p1), .val (.int p2), .val (.int p3), .unset, .unset] [(.int (((p3 &&& (65535 : Int32)) % p2) - p1))])) _
    refine XS.istore X0.here hx rfl (hb hby d9_8) rfl (l' := #[.val (.ref p0), .val (.int p1), .val (.int p2), .val (.int p3), .val (.int (((p3 &&& (65535 : Int32)) % p2) - p1)), .unset]) rfl ?_
    show Steps p.tables e below (s₁.setTop (mkF m 10 #[.val (.ref p0), .val (.int p1), .val (.int p2), .val (.int p3), .val (.int (((p3 &&& (65535 : Int32)) % p2) - p1)), .unset] [])) _
    refine XS.aloadN X0.here hx rfl (hb hby d9_10) rfl rfl ?_
    show Steps p.tables e below (s₁.setTop (mkF m 11 #[.val (.ref p0), .val (.int p1), .val (.int p2), .val (.int p3), .val (.int (((p3 &&& (65535 : Int32)) % p2) - p1)), .unset] [(.ref p0)])) _
    refine XS.iload X0.here hx rfl (hb hby d9_11) rfl ?_
    exact kont
  obtain ⟨cq256, kq256, q256a, q256b, q256c⟩ := isOf hZ e0 Hal.1
  obtain ⟨_, _, ⟨T256, L256, k256, n256⟩, -, X256, ⟨Lc256, hQ256, l256, y256, z256⟩, st256⟩ := X0.virtualBack hx (y := (⟨"com/example/impronta/impronta/engine/Alignments", "slot", "(I)I"⟩ : MethodName)) (z := (⟨"com/example/impronta/impronta/engine/Alignments", "slot", "(I)I"⟩ : MethodName)) hown (mvT hZ (hw _ (List.mem_of_getElem? (i := 46) rfl))) (mvT hZ (hw _ (List.mem_of_getElem? (i := 47) rfl))) (notFace_of_selects (args := #[]) (mvT hZ (hw _ (List.mem_of_getElem? (i := 49) rfl)))) (mvT hZ (hw _ (List.mem_of_getElem? (i := 49) rfl))) (mvT hZ (hw _ (List.mem_of_getElem? (i := 48) rfl))) (by decide) (backOf (W := 0) (rm7 l Z a0 hw [] p0 (((p3 &&& (65535 : Int32)) % p2) - p1) be ba bn bf dr (1 : Int32) (-p1) sz ne ge ga gn gf  h0 n0 Z0 Hal (fun q => absurd q (by decide))) hZ (hw _ (List.mem_of_getElem? (i := 50) rfl)) (hw _ (List.mem_of_getElem? (i := 2) rfl)) (by decide) (by decide)) q256a q256c (g := (mkF m 13 #[.val (.ref p0), .val (.int p1), .val (.int p2), .val (.int p3), .val (.int (((p3 &&& (65535 : Int32)) % p2) - p1)), .unset] [(.int (((p3 &&& (65535 : Int32)) % p2) - p1)), (.ref p0)])) rfl (by rw [hml]; rfl) (Steps.refl _) (argsL := [(.int (((p3 &&& (65535 : Int32)) % p2) - p1))]) (rest := []) (lenOf pd_2 rfl) rfl (by show 2 * 0 + _ ≤ _; exact Nat.le_of_eq rfl) (hb hby d9_13) (fun _ _ => ⟨rfl, e0, (by decide : 0 + 0 ≤ _), (by decide : 0 + 0 ≤ _)⟩)
  dsimp only [Pt.U, Pt.locs, Pt.cells, Pt.slots] at X256 l256 y256 z256 st256 hQ256
  subst l256 y256 z256
  obtain ⟨rfl, N256q, e256⟩ := hQ256
  have N256 := Fr.app N0 N256q
  have pre257 : ∀ t, Steps p.tables e below (T256.setTop (mkF m 16 #[.val (.ref p0), .val (.int p1), .val (.int p2), .val (.int p3), .val (.int (((p3 &&& (65535 : Int32)) % p2) - p1)), .unset] [(.int (own_slot (1 : Int32) (-p1) ga (((p3 &&& (65535 : Int32)) % p2) - p1)))])) t → Steps p.tables e below (s₁.setTop (entryFrame m #[(.ref p0), (.int p1), (.int p2), (.int p3)] 6)) t := fun t kont => pre255 t (st256.trans kont)
  have rq258 : (own_slot (1 : Int32) (-p1) ga (((p3 &&& (65535 : Int32)) % p2) - p1)) = ((p3 &&& (65535 : Int32)) % p2) := own_sA _ _ _
  rw [rq258] at pre257
  have hrr := own_mod p3 hC.1
  have hkn : ((p3 &&& (65535 : Int32)) % p2).toNatClampNeg < ne := own_natlt hrr.1 (by omega)
  have pre259 : ∀ t, Steps p.tables e below (T256.setTop (mkF m 29 #[.val (.ref p0), .val (.int p1), .val (.int p2), .val (.int p3), .val (.int (((p3 &&& (65535 : Int32)) % p2) - p1)), .val (.int ((p3 &&& (65535 : Int32)) % p2))] [(.int (((p3.toUInt32 >>> ((16 : Int32) &&& 31).toUInt32).toInt32) + (1 : Int32))), (.int (((p3 &&& (65535 : Int32)) % p2) - p1)), (.int ((p3 &&& (65535 : Int32)) % p2)), (.ref p0)])) t → Steps p.tables e below (s₁.setTop (entryFrame m #[(.ref p0), (.int p1), (.int p2), (.int p3)] 6)) t := by
    intro t kont
    refine pre257 t ?_
    show Steps p.tables e below (T256.setTop (mkF m 16 #[.val (.ref p0), .val (.int p1), .val (.int p2), .val (.int p3), .val (.int (((p3 &&& (65535 : Int32)) % p2) - p1)), .unset] [(.int ((p3 &&& (65535 : Int32)) % p2))])) _
    refine XS.istore X256.here hx rfl (hb hby d9_16) rfl (l' := #[.val (.ref p0), .val (.int p1), .val (.int p2), .val (.int p3), .val (.int (((p3 &&& (65535 : Int32)) % p2) - p1)), .val (.int ((p3 &&& (65535 : Int32)) % p2))]) rfl ?_
    show Steps p.tables e below (T256.setTop (mkF m 18 #[.val (.ref p0), .val (.int p1), .val (.int p2), .val (.int p3), .val (.int (((p3 &&& (65535 : Int32)) % p2) - p1)), .val (.int ((p3 &&& (65535 : Int32)) % p2))] [])) _
    refine XS.aloadN X256.here hx rfl (hb hby d9_18) rfl rfl ?_
    show Steps p.tables e below (T256.setTop (mkF m 19 #[.val (.ref p0), .val (.int p1), .val (.int p2), .val (.int p3), .val (.int (((p3 &&& (65535 : Int32)) % p2) - p1)), .val (.int ((p3 &&& (65535 : Int32)) % p2))] [(.ref p0)])) _
    refine XS.iload X256.here hx rfl (hb hby d9_19) rfl ?_
    show Steps p.tables e below (T256.setTop (mkF m 21 #[.val (.ref p0), .val (.int p1), .val (.int p2), .val (.int p3), .val (.int (((p3 &&& (65535 : Int32)) % p2) - p1)), .val (.int ((p3 &&& (65535 : Int32)) % p2))] [(.int ((p3 &&& (65535 : Int32)) % p2)), (.ref p0)])) _
    refine XS.iload X256.here hx rfl (hb hby d9_21) rfl ?_
    show Steps p.tables e below (T256.setTop (mkF m 23 #[.val (.ref p0), .val (.int p1), .val (.int p2), .val (.int p3), .val (.int (((p3 &&& (65535 : Int32)) % p2) - p1)), .val (.int ((p3 &&& (65535 : Int32)) % p2))] [(.int (((p3 &&& (65535 : Int32)) % p2) - p1)), (.int ((p3 &&& (65535 : Int32)) % p2)), (.ref p0)])) _
    refine XS.iloadN X256.here hx rfl (hb hby d9_23) rfl ?_
    show Steps p.tables e below (T256.setTop (mkF m 24 #[.val (.ref p0), .val (.int p1), .val (.int p2), .val (.int p3), .val (.int (((p3 &&& (65535 : Int32)) % p2) - p1)), .val (.int ((p3 &&& (65535 : Int32)) % p2))] [(.int p3), (.int (((p3 &&& (65535 : Int32)) % p2) - p1)), (.int ((p3 &&& (65535 : Int32)) % p2)), (.ref p0)])) _
    refine XS.bipush X256.here hx rfl (hb hby d9_24) ?_
    show Steps p.tables e below (T256.setTop (mkF m 26 #[.val (.ref p0), .val (.int p1), .val (.int p2), .val (.int p3), .val (.int (((p3 &&& (65535 : Int32)) % p2) - p1)), .val (.int ((p3 &&& (65535 : Int32)) % p2))] [(.int (16 : Int32)), (.int p3), (.int (((p3 &&& (65535 : Int32)) % p2) - p1)), (.int ((p3 &&& (65535 : Int32)) % p2)), (.ref p0)])) _
    refine XS.iushr X256.here hx rfl (hb hby d9_26) rfl ?_
    show Steps p.tables e below (T256.setTop (mkF m 27 #[.val (.ref p0), .val (.int p1), .val (.int p2), .val (.int p3), .val (.int (((p3 &&& (65535 : Int32)) % p2) - p1)), .val (.int ((p3 &&& (65535 : Int32)) % p2))] [(.int ((p3.toUInt32 >>> ((16 : Int32) &&& 31).toUInt32).toInt32)), (.int (((p3 &&& (65535 : Int32)) % p2) - p1)), (.int ((p3 &&& (65535 : Int32)) % p2)), (.ref p0)])) _
    refine XS.iconst X256.here hx rfl (hb hby d9_27) ?_
    show Steps p.tables e below (T256.setTop (mkF m 28 #[.val (.ref p0), .val (.int p1), .val (.int p2), .val (.int p3), .val (.int (((p3 &&& (65535 : Int32)) % p2) - p1)), .val (.int ((p3 &&& (65535 : Int32)) % p2))] [(.int (1 : Int32)), (.int ((p3.toUInt32 >>> ((16 : Int32) &&& 31).toUInt32).toInt32)), (.int (((p3 &&& (65535 : Int32)) % p2) - p1)), (.int ((p3 &&& (65535 : Int32)) % p2)), (.ref p0)])) _
    refine XS.iadd X256.here hx rfl (hb hby d9_28) rfl ?_
    exact kont
  obtain ⟨cq260, kq260, q260a, q260b, q260c⟩ := isOf hZ e256 Hal.1
  obtain ⟨_, _, ⟨T260, L260, k260, n260⟩, -, X260, ⟨Lc260, hQ260, l260, y260, z260⟩, st260⟩ := X256.virtualBack hx (y := (⟨"com/example/impronta/impronta/engine/Alignments", "put", "(III)V"⟩ : MethodName)) (z := (⟨"com/example/impronta/impronta/engine/Alignments", "put", "(III)V"⟩ : MethodName)) hown (mvT hZ (hw _ (List.mem_of_getElem? (i := 64) rfl))) (mvT hZ (hw _ (List.mem_of_getElem? (i := 65) rfl))) (notFace_of_selects (args := #[]) (mvT hZ (hw _ (List.mem_of_getElem? (i := 67) rfl)))) (mvT hZ (hw _ (List.mem_of_getElem? (i := 67) rfl))) (mvT hZ (hw _ (List.mem_of_getElem? (i := 66) rfl))) (by decide) (backOf (W := 0) (rm10 l Z a0 hw [] p0 ((p3 &&& (65535 : Int32)) % p2) (((p3 &&& (65535 : Int32)) % p2) - p1) (((p3.toUInt32 >>> ((16 : Int32) &&& 31).toUInt32).toInt32) + (1 : Int32)) be ba bn bf dr (1 : Int32) (-p1) sz ne ge ga gn gf ((p3 &&& (65535 : Int32)) % p2).toNatClampNeg zn  h0 n0 Z0 Hal (own_i0 hrr.1) rfl (fun q => absurd q (by decide)) (fun _ => hkn) hz0 hzn (by omega)) hZ (hw _ (List.mem_of_getElem? (i := 68) rfl)) (hw _ (List.mem_of_getElem? (i := 2) rfl)) (by decide) (by decide)) q260a q260c (g := (mkF m 29 #[.val (.ref p0), .val (.int p1), .val (.int p2), .val (.int p3), .val (.int (((p3 &&& (65535 : Int32)) % p2) - p1)), .val (.int ((p3 &&& (65535 : Int32)) % p2))] [(.int (((p3.toUInt32 >>> ((16 : Int32) &&& 31).toUInt32).toInt32) + (1 : Int32))), (.int (((p3 &&& (65535 : Int32)) % p2) - p1)), (.int ((p3 &&& (65535 : Int32)) % p2)), (.ref p0)])) rfl (by rw [hml]; rfl) (Steps.refl _) (argsL := [(.int ((p3 &&& (65535 : Int32)) % p2)), (.int (((p3 &&& (65535 : Int32)) % p2) - p1)), (.int (((p3.toUInt32 >>> ((16 : Int32) &&& 31).toUInt32).toInt32) + (1 : Int32)))]) (rest := []) (lenOf pd_3 rfl) rfl (by show 2 * 0 + _ ≤ _; exact Nat.le_of_eq rfl) (hb hby d9_29) (fun _ _ => ⟨rfl, e256, (by decide : 0 + 0 ≤ _), (by decide : 0 + 0 ≤ _)⟩)
  dsimp only [Pt.U, Pt.locs, Pt.cells, Pt.slots] at X260 l260 y260 z260 st260 hQ260
  subst l260 y260 z260
  obtain ⟨rfl, N260q, Z260, H260⟩ := hQ260
  have N260 := Fr.app N256 N260q
  have pre261 : ∀ t, Steps p.tables e below (T260.setTop (mkF m 32 #[.val (.ref p0), .val (.int p1), .val (.int p2), .val (.int p3), .val (.int (((p3 &&& (65535 : Int32)) % p2) - p1)), .val (.int ((p3 &&& (65535 : Int32)) % p2))] [])) t → Steps p.tables e below (s₁.setTop (entryFrame m #[(.ref p0), (.int p1), (.int p2), (.int p3)] 6)) t := fun t kont => pre259 t (st260.trans kont)
  obtain ⟨fs, hr, hrun, hended, hW, hsame⟩ := X260.leave (v := none) (fun _ => rfl)
  refine ⟨_, _, pre261 _ ?_, hrun, hended, _, _, rfl, ?_, ⟨_, rfl⟩, hW, hsame.mono (by decide) (by decide)⟩
  · exact X260.returnOut hx Bd.returns (hb hby d9_32) hr
  · show Q9a Z p0 p1 p2 p3 be ba bn bf dr sz ne ge ga gn gf zn h0 n0 _ T260.heap _
    obtain ⟨zn', w1, w2, w3, w4⟩ := own_put1 (v := (((p3.toUInt32 >>> ((16 : Int32) &&& 31).toUInt32).toInt32) + (1 : Int32))) (gn := gn) (gx := ge) hI hz0 hzn hn2 (own_i0 hrr.1) rfl hkn
    exact ⟨rfl, N260, Z260, _, zn', _, _, _, _, w1, w2, w3, w4, H260⟩
theorem d6_0 : decode prog_18_method_6_code 0 = .ok (.iconst 0, 1) := by decide +kernel
theorem d6_1 : decode prog_18_method_6_code 1 = .ok (.istore_n 1, 1) := by decide +kernel
theorem d6_2 : decode prog_18_method_6_code 2 = .ok (.iload_n 1, 1) := by decide +kernel
theorem d6_3 : decode prog_18_method_6_code 3 = .ok (.aload_n 0, 1) := by decide +kernel
theorem d6_4 : decode prog_18_method_6_code 4 = .ok (.getfield 48, 3) := by decide +kernel
theorem d6_7 : decode prog_18_method_6_code 7 = .ok (.if_icmp .ge 56, 3) := by decide +kernel
theorem d6_10 : decode prog_18_method_6_code 10 = .ok (.aload_n 0, 1) := by decide +kernel
theorem d6_11 : decode prog_18_method_6_code 11 = .ok (.getfield 35, 3) := by decide +kernel
theorem d6_14 : decode prog_18_method_6_code 14 = .ok (.ifCond .eq 18, 3) := by decide +kernel
theorem d6_17 : decode prog_18_method_6_code 17 = .ok (.aload_n 0, 1) := by decide +kernel
theorem d6_18 : decode prog_18_method_6_code 18 = .ok (.getfield 9, 3) := by decide +kernel
theorem d6_21 : decode prog_18_method_6_code 21 = .ok (.aload_n 0, 1) := by decide +kernel
theorem d6_22 : decode prog_18_method_6_code 22 = .ok (.getfield 29, 3) := by decide +kernel
theorem d6_25 : decode prog_18_method_6_code 25 = .ok (.iload_n 1, 1) := by decide +kernel
theorem d6_26 : decode prog_18_method_6_code 26 = .ok (.iaload, 1) := by decide +kernel
theorem d6_27 : decode prog_18_method_6_code 27 = .ok (.iconst 0, 1) := by decide +kernel
theorem d6_28 : decode prog_18_method_6_code 28 = .ok (.iastore, 1) := by decide +kernel
theorem d6_29 : decode prog_18_method_6_code 29 = .ok (.goto 28, 3) := by decide +kernel
theorem d6_57 : decode prog_18_method_6_code 57 = .ok (.iinc 1 1, 3) := by decide +kernel
theorem d6_60 : decode prog_18_method_6_code 60 = .ok (.goto (-58), 3) := by decide +kernel
theorem d6_63 : decode prog_18_method_6_code 63 = .ok (.aload_n 0, 1) := by decide +kernel
theorem d6_64 : decode prog_18_method_6_code 64 = .ok (.iconst 0, 1) := by decide +kernel
theorem d6_65 : decode prog_18_method_6_code 65 = .ok (.putfield 48, 3) := by decide +kernel
theorem d6_68 : decode prog_18_method_6_code 68 = .ok (.return_, 1) := by decide +kernel
theorem ef_6 (m : MethodId) (x0 : Addr) : entryFrame m #[(.ref x0)] 2 = mkF m 0 #[.val (.ref x0), .unset] [] := by first | (simp [entryFrame, mkF, argsToLocals, Value.category]; done) | rfl
def Q6a (Z : State) (p0 : Addr) (be : Addr) (ba : Addr) (bn : Addr) (bf : Addr) (dr : Int32) (lw : Int32) (sz : Int32) (ne : Nat) (ge : Nat → Int32) (ga : Nat → Int32) (gn : Nat → Int32) (gf : Nat → Int32) (zn : Nat) (h0 : Heap) (n0 : Nat) (v : Option Value) (h : Heap) (L : List Loc) : Prop := v = none ∧ Fr n0 L ∧ n0 ≤ h.size ∧ own_al Z h n0 p0 be ba bn bf dr (1 : Int32) lw (0 : Int32) ne (fun _ => (0 : Int32)) ga gn gf
set_option maxRecDepth 65536 in
set_option maxHeartbeats 40000000 in
theorem rm6a (l : Launch) (Z : State) (a0 : Array Value) (hw : ∀ d ∈ tables_1, d.before a0 Z = true) (ws : List Jvm.Cond) (p0 : Addr) (be : Addr) (ba : Addr) (bn : Addr) (bf : Addr) (dr : Int32) (lw : Int32) (sz : Int32) (ne : Nat) (ge : Nat → Int32) (ga : Nat → Int32) (gn : Nat → Int32) (gf : Nat → Int32) (zn : Nat) (h0 : Heap) (n0 : Nat) (Z0 : n0 ≤ h0.size) (Hal : own_al Z h0 n0 p0 be ba bn bf dr (1 : Int32) lw sz ne ge ga gn gf) (hI : own_inv1 ne zn ge gf) (hzn : sz.toNatClampNeg = zn) (hn3 : zn ≤ 3) :
    MetFree l (⟨"com/example/impronta/impronta/engine/Alignments", "clear", "()V"⟩ : MethodName) (head1 (Jvm.Cond.code (⟨"com/example/impronta/impronta/engine/Alignments", "clear", "()V"⟩ : MethodName) prog_18_method_6_code 2 none :: ws) ({ frames := 0, cells := 0, slots := 0, locals := 0 } : Room)) (fun a U => a = #[(.ref p0)] ∧ Z.Warmed39 U.vm ∧ U.heap = h0) (fun _ _ _ _ _ => True) (fun _ U o U' => ∃ v L, o = .returned v ∧ Q6a Z p0 be ba bn bf dr lw sz ne ge ga gn gf zn h0 n0 v U'.heap L ∧ FrameEnd U o U' L ({ frames := 0, cells := 0, slots := 0, locals := 0 } : Room).cells ({ frames := 0, cells := 0, slots := 0, locals := 0 } : Room).slots) := by
  refine MetFree.of_bodySF (plainFor_of_name pn_3) hisR ?_
  intro p e s m args below meth c s₁ Bd hml0 hP hK
  obtain ⟨rfl, hZ, hh⟩ := hP
  have hx := Bd.exec
  have hby := Bd.bytes
  have hml : c.maxLocals = 2 := hml0
  have hown : s.vm.findClass "com/example/impronta/impronta/engine/Alignments" = some m.cls := findClass_of_methodNamed Bd.named
  have hnm := (name_of_methodNamed Bd.named Bd.method).1
  have X0 : Stand p l e ({ frames := 0, cells := 0, slots := 0, locals := 0 } : Room) s m #[(.ref p0)] below meth c s₁ [] 0 0 := Stand.of_body Bd
  have e0 : s₁.heap = h0 := by rw [← hh, Bd.state]; rfl
  have N0 := Fr.nil n0
  have pre0 : ∀ t, Steps p.tables e below (s₁.setTop (mkF m 0 #[.val (.ref p0), .unset] [])) t → Steps p.tables e below (s₁.setTop (entryFrame m #[(.ref p0)] 2)) t := fun t k => castTop (ef_6 m p0) k
  obtain ⟨qE, q_direct, q_ownSlots, q_lowest, q_size, q_shift, q_endsByAlignment, q_alignments, q_ends, q_filled, Ve, Va, Vn, Vf, ⟨d0, d1, d2, d3, d4, d5, d6, d7, d8, d9⟩, ⟨g0, g1, g2, g3, g4⟩⟩ := id Hal
  have pre262 : ∀ t, Steps p.tables e below (s₁.setTop (mkF m 4 #[.val (.ref p0), .val (.int (0 : Int32))] [(.ref p0), (.int (0 : Int32))])) t → Steps p.tables e below (s₁.setTop (entryFrame m #[(.ref p0)] 2)) t := by
    intro t kont
    refine pre0 t ?_
    show Steps p.tables e below (s₁.setTop (mkF m 0 #[.val (.ref p0), .unset] [])) _
    refine XS.iconst X0.here hx rfl (hb hby d6_0) ?_
    show Steps p.tables e below (s₁.setTop (mkF m 1 #[.val (.ref p0), .unset] [(.int (0 : Int32))])) _
    refine XS.istoreN X0.here hx rfl (hb hby d6_1) rfl (l' := #[.val (.ref p0), .val (.int (0 : Int32))]) rfl ?_
    show Steps p.tables e below (s₁.setTop (mkF m 2 #[.val (.ref p0), .val (.int (0 : Int32))] [])) _
    refine XS.iloadN X0.here hx rfl (hb hby d6_2) rfl ?_
    show Steps p.tables e below (s₁.setTop (mkF m 3 #[.val (.ref p0), .val (.int (0 : Int32))] [(.int (0 : Int32))])) _
    refine XS.aloadN X0.here hx rfl (hb hby d6_3) rfl rfl ?_
    exact kont
  obtain ⟨T263, X263, e263, st263⟩ := getF X0 hx hZ hown (host := "") (Or.inl (hw _ (List.mem_of_getElem? (i := 44) rfl))) Via.refl e0 q_size (g := (mkF m 4 #[.val (.ref p0), .val (.int (0 : Int32))] [(.ref p0), (.int (0 : Int32))])) rfl rfl (hb hby d6_4)
  have pre264 : ∀ t, Steps p.tables e below (T263.setTop (mkF m 7 #[.val (.ref p0), .val (.int (0 : Int32))] [(.int sz), (.int (0 : Int32))])) t → Steps p.tables e below (s₁.setTop (entryFrame m #[(.ref p0)] 2)) t := fun t kont => pre262 t (st263 _ kont)
  by_cases hc7 : (0 : Int32) < sz
  · have pre265 : ∀ t, Steps p.tables e below (T263.setTop (mkF m 11 #[.val (.ref p0), .val (.int (0 : Int32))] [(.ref p0)])) t → Steps p.tables e below (s₁.setTop (entryFrame m #[(.ref p0)] 2)) t := by
      intro t kont
      refine pre264 t ?_
      show Steps p.tables e below (T263.setTop (mkF m 7 #[.val (.ref p0), .val (.int (0 : Int32))] [(.int sz), (.int (0 : Int32))])) _
      refine XS.icmpNo X263.here hx rfl (hb hby d6_7) rfl (tlt hc7).2.1 ?_
      show Steps p.tables e below (T263.setTop (mkF m 10 #[.val (.ref p0), .val (.int (0 : Int32))] [])) _
      refine XS.aloadN X263.here hx rfl (hb hby d6_10) rfl rfl ?_
      exact kont
    obtain ⟨T266, X266, e266, st266⟩ := getF X263 hx hZ hown (host := "") (Or.inl (hw _ (List.mem_of_getElem? (i := 35) rfl))) Via.refl e263 q_ownSlots (g := (mkF m 11 #[.val (.ref p0), .val (.int (0 : Int32))] [(.ref p0)])) rfl rfl (hb hby d6_11)
    have pre267 : ∀ t, Steps p.tables e below (T266.setTop (mkF m 14 #[.val (.ref p0), .val (.int (0 : Int32))] [(.int (1 : Int32))])) t → Steps p.tables e below (s₁.setTop (entryFrame m #[(.ref p0)] 2)) t := fun t kont => pre265 t (st266 _ kont)
    have pre268 : ∀ t, Steps p.tables e below (T266.setTop (mkF m 18 #[.val (.ref p0), .val (.int (0 : Int32))] [(.ref p0)])) t → Steps p.tables e below (s₁.setTop (entryFrame m #[(.ref p0)] 2)) t := by
      intro t kont
      refine pre267 t ?_
      show Steps p.tables e below (T266.setTop (mkF m 14 #[.val (.ref p0), .val (.int (0 : Int32))] [(.int (1 : Int32))])) _
      refine XS.ifNo X266.here hx rfl (hb hby d6_14) rfl ((if0 _ _).trans (feq (by decide)).1) ?_
      show Steps p.tables e below (T266.setTop (mkF m 17 #[.val (.ref p0), .val (.int (0 : Int32))] [])) _
      refine XS.aloadN X266.here hx rfl (hb hby d6_17) rfl rfl ?_
      exact kont
    obtain ⟨T269, X269, e269, st269⟩ := getF X266 hx hZ hown (host := "") (Or.inl (hw _ (List.mem_of_getElem? (i := 10) rfl))) Via.refl e266 q_endsByAlignment (g := (mkF m 18 #[.val (.ref p0), .val (.int (0 : Int32))] [(.ref p0)])) rfl rfl (hb hby d6_18)
    have pre270 : ∀ t, Steps p.tables e below (T269.setTop (mkF m 21 #[.val (.ref p0), .val (.int (0 : Int32))] [(.ref be)])) t → Steps p.tables e below (s₁.setTop (entryFrame m #[(.ref p0)] 2)) t := fun t kont => pre268 t (st269 _ kont)
    have pre271 : ∀ t, Steps p.tables e below (T269.setTop (mkF m 22 #[.val (.ref p0), .val (.int (0 : Int32))] [(.ref p0), (.ref be)])) t → Steps p.tables e below (s₁.setTop (entryFrame m #[(.ref p0)] 2)) t := by
      intro t kont
      refine pre270 t ?_
      show Steps p.tables e below (T269.setTop (mkF m 21 #[.val (.ref p0), .val (.int (0 : Int32))] [(.ref be)])) _
      refine XS.aloadN X269.here hx rfl (hb hby d6_21) rfl rfl ?_
      exact kont
    obtain ⟨T272, X272, e272, st272⟩ := getF X269 hx hZ hown (host := "") (Or.inl (hw _ (List.mem_of_getElem? (i := 26) rfl))) Via.refl e269 q_filled (g := (mkF m 22 #[.val (.ref p0), .val (.int (0 : Int32))] [(.ref p0), (.ref be)])) rfl rfl (hb hby d6_22)
    have pre273 : ∀ t, Steps p.tables e below (T272.setTop (mkF m 25 #[.val (.ref p0), .val (.int (0 : Int32))] [(.ref bf), (.ref be)])) t → Steps p.tables e below (s₁.setTop (entryFrame m #[(.ref p0)] 2)) t := fun t kont => pre271 t (st272 _ kont)
    have pre274 : ∀ t, Steps p.tables e below (T272.setTop (mkF m 28 #[.val (.ref p0), .val (.int (0 : Int32))] [(.int (0 : Int32)), (.int (gf 0)), (.ref be)])) t → Steps p.tables e below (s₁.setTop (entryFrame m #[(.ref p0)] 2)) t := by
      intro t kont
      refine pre273 t ?_
      show Steps p.tables e below (T272.setTop (mkF m 25 #[.val (.ref p0), .val (.int (0 : Int32))] [(.ref bf), (.ref be)])) _
      refine XS.iloadN X272.here hx rfl (hb hby d6_25) rfl ?_
      show Steps p.tables e below (T272.setTop (mkF m 26 #[.val (.ref p0), .val (.int (0 : Int32))] [(.int (0 : Int32)), (.ref bf), (.ref be)])) _
      refine own_ldI X272 hx hZ e272 Vf (k := 0) (by decide) (by decide) (by decide) (fr := (mkF m 26 #[.val (.ref p0), .val (.int (0 : Int32))] [(.int (0 : Int32)), (.ref bf), (.ref be)])) rfl rfl (hb hby d6_26) _ ?_
      show Steps p.tables e below (T272.setTop (mkF m 27 #[.val (.ref p0), .val (.int (0 : Int32))] [(.int (gf 0)), (.ref be)])) _
      refine XS.iconst X272.here hx rfl (hb hby d6_27) ?_
      exact kont
    obtain ⟨T275, h275, X275, e275, W275, V275, st275⟩ := own_stI X272 hx hZ e272 Ve (k := (gf 0).toNatClampNeg) (hI.2 0 (own_iin hzn (by decide) (by decide) hc7)).1 rfl (hI.2 0 (own_iin hzn (by decide) (by decide) hc7)).2 (fr := (mkF m 28 #[.val (.ref p0), .val (.int (0 : Int32))] [(.int (0 : Int32)), (.int (gf 0)), (.ref be)])) rfl rfl (hb hby d6_28)
    have f275_0 := Exa.wr W275 qE
    have f275_1 := Fld.other W275 q_direct (Or.inl d0)
    have f275_2 := Fld.other W275 q_ownSlots (Or.inl d0)
    have f275_3 := Fld.other W275 q_lowest (Or.inl d0)
    have f275_4 := Fld.other W275 q_size (Or.inl d0)
    have f275_5 := Fld.other W275 q_shift (Or.inl d0)
    have f275_6 := Fld.other W275 q_endsByAlignment (Or.inl d0)
    have f275_7 := Fld.other W275 q_alignments (Or.inl d0)
    have f275_8 := Fld.other W275 q_ends (Or.inl d0)
    have f275_9 := Fld.other W275 q_filled (Or.inl d0)
    have f275_10 := Va.other W275 (Ne.symm d4)
    have f275_11 := Vn.other W275 (Ne.symm d5)
    have f275_12 := Vf.other W275 (Ne.symm d6)
    obtain ⟨u28, hu28⟩ : ∃ z : Nat → Int32, z = fun i => if i = (gf 0).toNatClampNeg then (0 : Int32) else ge i := ⟨_, rfl⟩
    replace V275 : own_arr Z h275 be .int ne (fun i => .int (u28 i)) := by rw [hu28]; exact V275
    have Z275 : n0 ≤ h275.size := Nat.le_trans Z0 (Keep.of_wr W275).1
    have N275 := Fr.snoc X275 N0 g1
    have pre276 : ∀ t, Steps p.tables e below (T275.setTop (mkF m 29 #[.val (.ref p0), .val (.int (0 : Int32))] [])) t → Steps p.tables e below (s₁.setTop (entryFrame m #[(.ref p0)] 2)) t := fun t kont => pre274 t (st275 _ kont)
    have pre277 : ∀ t, Steps p.tables e below (T275.setTop (mkF m 4 #[.val (.ref p0), .val (.int (1 : Int32))] [(.ref p0), (.int (1 : Int32))])) t → Steps p.tables e below (s₁.setTop (entryFrame m #[(.ref p0)] 2)) t := by
      intro t kont
      refine pre276 t ?_
      show Steps p.tables e below (T275.setTop (mkF m 29 #[.val (.ref p0), .val (.int (0 : Int32))] [])) _
      refine XS.goto X275.here hx rfl (pc0 := 29) (pc' := 57) rfl (hb hby d6_29) (by decide) (by decide) ?_
      show Steps p.tables e below (T275.setTop (mkF m 57 #[.val (.ref p0), .val (.int (0 : Int32))] [])) _
      refine XS.iinc X275.here hx rfl (hb hby d6_57) rfl (l' := #[.val (.ref p0), .val (.int (1 : Int32))]) rfl ?_
      show Steps p.tables e below (T275.setTop (mkF m 60 #[.val (.ref p0), .val (.int (1 : Int32))] [])) _
      refine XS.goto X275.here hx rfl (pc0 := 60) (pc' := 2) rfl (hb hby d6_60) (by decide) (by decide) ?_
      show Steps p.tables e below (T275.setTop (mkF m 2 #[.val (.ref p0), .val (.int (1 : Int32))] [])) _
      refine XS.iloadN X275.here hx rfl (hb hby d6_2) rfl ?_
      show Steps p.tables e below (T275.setTop (mkF m 3 #[.val (.ref p0), .val (.int (1 : Int32))] [(.int (1 : Int32))])) _
      refine XS.aloadN X275.here hx rfl (hb hby d6_3) rfl rfl ?_
      exact kont
    obtain ⟨T278, X278, e278, st278⟩ := getF X275 hx hZ hown (host := "") (Or.inl (hw _ (List.mem_of_getElem? (i := 44) rfl))) Via.refl e275 f275_4 (g := (mkF m 4 #[.val (.ref p0), .val (.int (1 : Int32))] [(.ref p0), (.int (1 : Int32))])) rfl rfl (hb hby d6_4)
    have pre279 : ∀ t, Steps p.tables e below (T278.setTop (mkF m 7 #[.val (.ref p0), .val (.int (1 : Int32))] [(.int sz), (.int (1 : Int32))])) t → Steps p.tables e below (s₁.setTop (entryFrame m #[(.ref p0)] 2)) t := fun t kont => pre277 t (st278 _ kont)
    by_cases hc7' : (1 : Int32) < sz
    · have pre280 : ∀ t, Steps p.tables e below (T278.setTop (mkF m 11 #[.val (.ref p0), .val (.int (1 : Int32))] [(.ref p0)])) t → Steps p.tables e below (s₁.setTop (entryFrame m #[(.ref p0)] 2)) t := by
        intro t kont
        refine pre279 t ?_
        show Steps p.tables e below (T278.setTop (mkF m 7 #[.val (.ref p0), .val (.int (1 : Int32))] [(.int sz), (.int (1 : Int32))])) _
        refine XS.icmpNo X278.here hx rfl (hb hby d6_7) rfl (tlt hc7').2.1 ?_
        show Steps p.tables e below (T278.setTop (mkF m 10 #[.val (.ref p0), .val (.int (1 : Int32))] [])) _
        refine XS.aloadN X278.here hx rfl (hb hby d6_10) rfl rfl ?_
        exact kont
      obtain ⟨T281, X281, e281, st281⟩ := getF X278 hx hZ hown (host := "") (Or.inl (hw _ (List.mem_of_getElem? (i := 35) rfl))) Via.refl e278 f275_2 (g := (mkF m 11 #[.val (.ref p0), .val (.int (1 : Int32))] [(.ref p0)])) rfl rfl (hb hby d6_11)
      have pre282 : ∀ t, Steps p.tables e below (T281.setTop (mkF m 14 #[.val (.ref p0), .val (.int (1 : Int32))] [(.int (1 : Int32))])) t → Steps p.tables e below (s₁.setTop (entryFrame m #[(.ref p0)] 2)) t := fun t kont => pre280 t (st281 _ kont)
      have pre283 : ∀ t, Steps p.tables e below (T281.setTop (mkF m 18 #[.val (.ref p0), .val (.int (1 : Int32))] [(.ref p0)])) t → Steps p.tables e below (s₁.setTop (entryFrame m #[(.ref p0)] 2)) t := by
        intro t kont
        refine pre282 t ?_
        show Steps p.tables e below (T281.setTop (mkF m 14 #[.val (.ref p0), .val (.int (1 : Int32))] [(.int (1 : Int32))])) _
        refine XS.ifNo X281.here hx rfl (hb hby d6_14) rfl ((if0 _ _).trans (feq (by decide)).1) ?_
        show Steps p.tables e below (T281.setTop (mkF m 17 #[.val (.ref p0), .val (.int (1 : Int32))] [])) _
        refine XS.aloadN X281.here hx rfl (hb hby d6_17) rfl rfl ?_
        exact kont
      obtain ⟨T284, X284, e284, st284⟩ := getF X281 hx hZ hown (host := "") (Or.inl (hw _ (List.mem_of_getElem? (i := 10) rfl))) Via.refl e281 f275_6 (g := (mkF m 18 #[.val (.ref p0), .val (.int (1 : Int32))] [(.ref p0)])) rfl rfl (hb hby d6_18)
      have pre285 : ∀ t, Steps p.tables e below (T284.setTop (mkF m 21 #[.val (.ref p0), .val (.int (1 : Int32))] [(.ref be)])) t → Steps p.tables e below (s₁.setTop (entryFrame m #[(.ref p0)] 2)) t := fun t kont => pre283 t (st284 _ kont)
      have pre286 : ∀ t, Steps p.tables e below (T284.setTop (mkF m 22 #[.val (.ref p0), .val (.int (1 : Int32))] [(.ref p0), (.ref be)])) t → Steps p.tables e below (s₁.setTop (entryFrame m #[(.ref p0)] 2)) t := by
        intro t kont
        refine pre285 t ?_
        show Steps p.tables e below (T284.setTop (mkF m 21 #[.val (.ref p0), .val (.int (1 : Int32))] [(.ref be)])) _
        refine XS.aloadN X284.here hx rfl (hb hby d6_21) rfl rfl ?_
        exact kont
      obtain ⟨T287, X287, e287, st287⟩ := getF X284 hx hZ hown (host := "") (Or.inl (hw _ (List.mem_of_getElem? (i := 26) rfl))) Via.refl e284 f275_9 (g := (mkF m 22 #[.val (.ref p0), .val (.int (1 : Int32))] [(.ref p0), (.ref be)])) rfl rfl (hb hby d6_22)
      have pre288 : ∀ t, Steps p.tables e below (T287.setTop (mkF m 25 #[.val (.ref p0), .val (.int (1 : Int32))] [(.ref bf), (.ref be)])) t → Steps p.tables e below (s₁.setTop (entryFrame m #[(.ref p0)] 2)) t := fun t kont => pre286 t (st287 _ kont)
      have pre289 : ∀ t, Steps p.tables e below (T287.setTop (mkF m 28 #[.val (.ref p0), .val (.int (1 : Int32))] [(.int (0 : Int32)), (.int (gf 1)), (.ref be)])) t → Steps p.tables e below (s₁.setTop (entryFrame m #[(.ref p0)] 2)) t := by
        intro t kont
        refine pre288 t ?_
        show Steps p.tables e below (T287.setTop (mkF m 25 #[.val (.ref p0), .val (.int (1 : Int32))] [(.ref bf), (.ref be)])) _
        refine XS.iloadN X287.here hx rfl (hb hby d6_25) rfl ?_
        show Steps p.tables e below (T287.setTop (mkF m 26 #[.val (.ref p0), .val (.int (1 : Int32))] [(.int (1 : Int32)), (.ref bf), (.ref be)])) _
        refine own_ldI X287 hx hZ e287 f275_12 (k := 1) (by decide) (by decide) (by decide) (fr := (mkF m 26 #[.val (.ref p0), .val (.int (1 : Int32))] [(.int (1 : Int32)), (.ref bf), (.ref be)])) rfl rfl (hb hby d6_26) _ ?_
        show Steps p.tables e below (T287.setTop (mkF m 27 #[.val (.ref p0), .val (.int (1 : Int32))] [(.int (gf 1)), (.ref be)])) _
        refine XS.iconst X287.here hx rfl (hb hby d6_27) ?_
        exact kont
      obtain ⟨T290, h290, X290, e290, W290, V290, st290⟩ := own_stI X287 hx hZ e287 V275 (k := (gf 1).toNatClampNeg) (hI.2 1 (own_iin hzn (by decide) (by decide) hc7')).1 rfl (hI.2 1 (own_iin hzn (by decide) (by decide) hc7')).2 (fr := (mkF m 28 #[.val (.ref p0), .val (.int (1 : Int32))] [(.int (0 : Int32)), (.int (gf 1)), (.ref be)])) rfl rfl (hb hby d6_28)
      have f290_0 := Exa.wr W290 f275_0
      have f290_1 := Fld.other W290 f275_1 (Or.inl d0)
      have f290_2 := Fld.other W290 f275_2 (Or.inl d0)
      have f290_3 := Fld.other W290 f275_3 (Or.inl d0)
      have f290_4 := Fld.other W290 f275_4 (Or.inl d0)
      have f290_5 := Fld.other W290 f275_5 (Or.inl d0)
      have f290_6 := Fld.other W290 f275_6 (Or.inl d0)
      have f290_7 := Fld.other W290 f275_7 (Or.inl d0)
      have f290_8 := Fld.other W290 f275_8 (Or.inl d0)
      have f290_9 := Fld.other W290 f275_9 (Or.inl d0)
      have f290_10 := f275_10.other W290 (Ne.symm d4)
      have f290_11 := f275_11.other W290 (Ne.symm d5)
      have f290_12 := f275_12.other W290 (Ne.symm d6)
      obtain ⟨u28', hu28'⟩ : ∃ z : Nat → Int32, z = fun i => if i = (gf 1).toNatClampNeg then (0 : Int32) else u28 i := ⟨_, rfl⟩
      replace V290 : own_arr Z h290 be .int ne (fun i => .int (u28' i)) := by rw [hu28']; exact V290
      have Z290 : n0 ≤ h290.size := Nat.le_trans Z275 (Keep.of_wr W290).1
      have N290 := Fr.snoc X290 N275 g1
      have pre291 : ∀ t, Steps p.tables e below (T290.setTop (mkF m 29 #[.val (.ref p0), .val (.int (1 : Int32))] [])) t → Steps p.tables e below (s₁.setTop (entryFrame m #[(.ref p0)] 2)) t := fun t kont => pre289 t (st290 _ kont)
      have pre292 : ∀ t, Steps p.tables e below (T290.setTop (mkF m 4 #[.val (.ref p0), .val (.int (2 : Int32))] [(.ref p0), (.int (2 : Int32))])) t → Steps p.tables e below (s₁.setTop (entryFrame m #[(.ref p0)] 2)) t := by
        intro t kont
        refine pre291 t ?_
        show Steps p.tables e below (T290.setTop (mkF m 29 #[.val (.ref p0), .val (.int (1 : Int32))] [])) _
        refine XS.goto X290.here hx rfl (pc0 := 29) (pc' := 57) rfl (hb hby d6_29) (by decide) (by decide) ?_
        show Steps p.tables e below (T290.setTop (mkF m 57 #[.val (.ref p0), .val (.int (1 : Int32))] [])) _
        refine XS.iinc X290.here hx rfl (hb hby d6_57) rfl (l' := #[.val (.ref p0), .val (.int (2 : Int32))]) rfl ?_
        show Steps p.tables e below (T290.setTop (mkF m 60 #[.val (.ref p0), .val (.int (2 : Int32))] [])) _
        refine XS.goto X290.here hx rfl (pc0 := 60) (pc' := 2) rfl (hb hby d6_60) (by decide) (by decide) ?_
        show Steps p.tables e below (T290.setTop (mkF m 2 #[.val (.ref p0), .val (.int (2 : Int32))] [])) _
        refine XS.iloadN X290.here hx rfl (hb hby d6_2) rfl ?_
        show Steps p.tables e below (T290.setTop (mkF m 3 #[.val (.ref p0), .val (.int (2 : Int32))] [(.int (2 : Int32))])) _
        refine XS.aloadN X290.here hx rfl (hb hby d6_3) rfl rfl ?_
        exact kont
      obtain ⟨T293, X293, e293, st293⟩ := getF X290 hx hZ hown (host := "") (Or.inl (hw _ (List.mem_of_getElem? (i := 44) rfl))) Via.refl e290 f290_4 (g := (mkF m 4 #[.val (.ref p0), .val (.int (2 : Int32))] [(.ref p0), (.int (2 : Int32))])) rfl rfl (hb hby d6_4)
      have pre294 : ∀ t, Steps p.tables e below (T293.setTop (mkF m 7 #[.val (.ref p0), .val (.int (2 : Int32))] [(.int sz), (.int (2 : Int32))])) t → Steps p.tables e below (s₁.setTop (entryFrame m #[(.ref p0)] 2)) t := fun t kont => pre292 t (st293 _ kont)
      by_cases hc7'' : (2 : Int32) < sz
      · have pre295 : ∀ t, Steps p.tables e below (T293.setTop (mkF m 11 #[.val (.ref p0), .val (.int (2 : Int32))] [(.ref p0)])) t → Steps p.tables e below (s₁.setTop (entryFrame m #[(.ref p0)] 2)) t := by
          intro t kont
          refine pre294 t ?_
          show Steps p.tables e below (T293.setTop (mkF m 7 #[.val (.ref p0), .val (.int (2 : Int32))] [(.int sz), (.int (2 : Int32))])) _
          refine XS.icmpNo X293.here hx rfl (hb hby d6_7) rfl (tlt hc7'').2.1 ?_
          show Steps p.tables e below (T293.setTop (mkF m 10 #[.val (.ref p0), .val (.int (2 : Int32))] [])) _
          refine XS.aloadN X293.here hx rfl (hb hby d6_10) rfl rfl ?_
          exact kont
        obtain ⟨T296, X296, e296, st296⟩ := getF X293 hx hZ hown (host := "") (Or.inl (hw _ (List.mem_of_getElem? (i := 35) rfl))) Via.refl e293 f290_2 (g := (mkF m 11 #[.val (.ref p0), .val (.int (2 : Int32))] [(.ref p0)])) rfl rfl (hb hby d6_11)
        have pre297 : ∀ t, Steps p.tables e below (T296.setTop (mkF m 14 #[.val (.ref p0), .val (.int (2 : Int32))] [(.int (1 : Int32))])) t → Steps p.tables e below (s₁.setTop (entryFrame m #[(.ref p0)] 2)) t := fun t kont => pre295 t (st296 _ kont)
        have pre298 : ∀ t, Steps p.tables e below (T296.setTop (mkF m 18 #[.val (.ref p0), .val (.int (2 : Int32))] [(.ref p0)])) t → Steps p.tables e below (s₁.setTop (entryFrame m #[(.ref p0)] 2)) t := by
          intro t kont
          refine pre297 t ?_
          show Steps p.tables e below (T296.setTop (mkF m 14 #[.val (.ref p0), .val (.int (2 : Int32))] [(.int (1 : Int32))])) _
          refine XS.ifNo X296.here hx rfl (hb hby d6_14) rfl ((if0 _ _).trans (feq (by decide)).1) ?_
          show Steps p.tables e below (T296.setTop (mkF m 17 #[.val (.ref p0), .val (.int (2 : Int32))] [])) _
          refine XS.aloadN X296.here hx rfl (hb hby d6_17) rfl rfl ?_
          exact kont
        obtain ⟨T299, X299, e299, st299⟩ := getF X296 hx hZ hown (host := "") (Or.inl (hw _ (List.mem_of_getElem? (i := 10) rfl))) Via.refl e296 f290_6 (g := (mkF m 18 #[.val (.ref p0), .val (.int (2 : Int32))] [(.ref p0)])) rfl rfl (hb hby d6_18)
        have pre300 : ∀ t, Steps p.tables e below (T299.setTop (mkF m 21 #[.val (.ref p0), .val (.int (2 : Int32))] [(.ref be)])) t → Steps p.tables e below (s₁.setTop (entryFrame m #[(.ref p0)] 2)) t := fun t kont => pre298 t (st299 _ kont)
        have pre301 : ∀ t, Steps p.tables e below (T299.setTop (mkF m 22 #[.val (.ref p0), .val (.int (2 : Int32))] [(.ref p0), (.ref be)])) t → Steps p.tables e below (s₁.setTop (entryFrame m #[(.ref p0)] 2)) t := by
          intro t kont
          refine pre300 t ?_
          show Steps p.tables e below (T299.setTop (mkF m 21 #[.val (.ref p0), .val (.int (2 : Int32))] [(.ref be)])) _
          refine XS.aloadN X299.here hx rfl (hb hby d6_21) rfl rfl ?_
          exact kont
        obtain ⟨T302, X302, e302, st302⟩ := getF X299 hx hZ hown (host := "") (Or.inl (hw _ (List.mem_of_getElem? (i := 26) rfl))) Via.refl e299 f290_9 (g := (mkF m 22 #[.val (.ref p0), .val (.int (2 : Int32))] [(.ref p0), (.ref be)])) rfl rfl (hb hby d6_22)
        have pre303 : ∀ t, Steps p.tables e below (T302.setTop (mkF m 25 #[.val (.ref p0), .val (.int (2 : Int32))] [(.ref bf), (.ref be)])) t → Steps p.tables e below (s₁.setTop (entryFrame m #[(.ref p0)] 2)) t := fun t kont => pre301 t (st302 _ kont)
        have pre304 : ∀ t, Steps p.tables e below (T302.setTop (mkF m 28 #[.val (.ref p0), .val (.int (2 : Int32))] [(.int (0 : Int32)), (.int (gf 2)), (.ref be)])) t → Steps p.tables e below (s₁.setTop (entryFrame m #[(.ref p0)] 2)) t := by
          intro t kont
          refine pre303 t ?_
          show Steps p.tables e below (T302.setTop (mkF m 25 #[.val (.ref p0), .val (.int (2 : Int32))] [(.ref bf), (.ref be)])) _
          refine XS.iloadN X302.here hx rfl (hb hby d6_25) rfl ?_
          show Steps p.tables e below (T302.setTop (mkF m 26 #[.val (.ref p0), .val (.int (2 : Int32))] [(.int (2 : Int32)), (.ref bf), (.ref be)])) _
          refine own_ldI X302 hx hZ e302 f290_12 (k := 2) (by decide) (by decide) (by decide) (fr := (mkF m 26 #[.val (.ref p0), .val (.int (2 : Int32))] [(.int (2 : Int32)), (.ref bf), (.ref be)])) rfl rfl (hb hby d6_26) _ ?_
          show Steps p.tables e below (T302.setTop (mkF m 27 #[.val (.ref p0), .val (.int (2 : Int32))] [(.int (gf 2)), (.ref be)])) _
          refine XS.iconst X302.here hx rfl (hb hby d6_27) ?_
          exact kont
        obtain ⟨T305, h305, X305, e305, W305, V305, st305⟩ := own_stI X302 hx hZ e302 V290 (k := (gf 2).toNatClampNeg) (hI.2 2 (own_iin hzn (by decide) (by decide) hc7'')).1 rfl (hI.2 2 (own_iin hzn (by decide) (by decide) hc7'')).2 (fr := (mkF m 28 #[.val (.ref p0), .val (.int (2 : Int32))] [(.int (0 : Int32)), (.int (gf 2)), (.ref be)])) rfl rfl (hb hby d6_28)
        have f305_0 := Exa.wr W305 f290_0
        have f305_1 := Fld.other W305 f290_1 (Or.inl d0)
        have f305_2 := Fld.other W305 f290_2 (Or.inl d0)
        have f305_3 := Fld.other W305 f290_3 (Or.inl d0)
        have f305_4 := Fld.other W305 f290_4 (Or.inl d0)
        have f305_5 := Fld.other W305 f290_5 (Or.inl d0)
        have f305_6 := Fld.other W305 f290_6 (Or.inl d0)
        have f305_7 := Fld.other W305 f290_7 (Or.inl d0)
        have f305_8 := Fld.other W305 f290_8 (Or.inl d0)
        have f305_9 := Fld.other W305 f290_9 (Or.inl d0)
        have f305_10 := f290_10.other W305 (Ne.symm d4)
        have f305_11 := f290_11.other W305 (Ne.symm d5)
        have f305_12 := f290_12.other W305 (Ne.symm d6)
        obtain ⟨u28'', hu28''⟩ : ∃ z : Nat → Int32, z = fun i => if i = (gf 2).toNatClampNeg then (0 : Int32) else u28' i := ⟨_, rfl⟩
        replace V305 : own_arr Z h305 be .int ne (fun i => .int (u28'' i)) := by rw [hu28'']; exact V305
        have Z305 : n0 ≤ h305.size := Nat.le_trans Z290 (Keep.of_wr W305).1
        have N305 := Fr.snoc X305 N290 g1
        have pre306 : ∀ t, Steps p.tables e below (T305.setTop (mkF m 29 #[.val (.ref p0), .val (.int (2 : Int32))] [])) t → Steps p.tables e below (s₁.setTop (entryFrame m #[(.ref p0)] 2)) t := fun t kont => pre304 t (st305 _ kont)
        have pre307 : ∀ t, Steps p.tables e below (T305.setTop (mkF m 4 #[.val (.ref p0), .val (.int (3 : Int32))] [(.ref p0), (.int (3 : Int32))])) t → Steps p.tables e below (s₁.setTop (entryFrame m #[(.ref p0)] 2)) t := by
          intro t kont
          refine pre306 t ?_
          show Steps p.tables e below (T305.setTop (mkF m 29 #[.val (.ref p0), .val (.int (2 : Int32))] [])) _
          refine XS.goto X305.here hx rfl (pc0 := 29) (pc' := 57) rfl (hb hby d6_29) (by decide) (by decide) ?_
          show Steps p.tables e below (T305.setTop (mkF m 57 #[.val (.ref p0), .val (.int (2 : Int32))] [])) _
          refine XS.iinc X305.here hx rfl (hb hby d6_57) rfl (l' := #[.val (.ref p0), .val (.int (3 : Int32))]) rfl ?_
          show Steps p.tables e below (T305.setTop (mkF m 60 #[.val (.ref p0), .val (.int (3 : Int32))] [])) _
          refine XS.goto X305.here hx rfl (pc0 := 60) (pc' := 2) rfl (hb hby d6_60) (by decide) (by decide) ?_
          show Steps p.tables e below (T305.setTop (mkF m 2 #[.val (.ref p0), .val (.int (3 : Int32))] [])) _
          refine XS.iloadN X305.here hx rfl (hb hby d6_2) rfl ?_
          show Steps p.tables e below (T305.setTop (mkF m 3 #[.val (.ref p0), .val (.int (3 : Int32))] [(.int (3 : Int32))])) _
          refine XS.aloadN X305.here hx rfl (hb hby d6_3) rfl rfl ?_
          exact kont
        obtain ⟨T308, X308, e308, st308⟩ := getF X305 hx hZ hown (host := "") (Or.inl (hw _ (List.mem_of_getElem? (i := 44) rfl))) Via.refl e305 f305_4 (g := (mkF m 4 #[.val (.ref p0), .val (.int (3 : Int32))] [(.ref p0), (.int (3 : Int32))])) rfl rfl (hb hby d6_4)
        have pre309 : ∀ t, Steps p.tables e below (T308.setTop (mkF m 7 #[.val (.ref p0), .val (.int (3 : Int32))] [(.int sz), (.int (3 : Int32))])) t → Steps p.tables e below (s₁.setTop (entryFrame m #[(.ref p0)] 2)) t := fun t kont => pre307 t (st308 _ kont)
        by_cases hc7''' : (3 : Int32) < sz
        · exfalso
          have q := own_iin (k := 3) hzn (by decide) (by decide) hc7'''
          exact absurd q (Nat.not_lt.mpr hn3)
        · have pre310 : ∀ t, Steps p.tables e below (T308.setTop (mkF m 65 #[.val (.ref p0), .val (.int (3 : Int32))] [(.int (0 : Int32)), (.ref p0)])) t → Steps p.tables e below (s₁.setTop (entryFrame m #[(.ref p0)] 2)) t := by
            intro t kont
            refine pre309 t ?_
            show Steps p.tables e below (T308.setTop (mkF m 7 #[.val (.ref p0), .val (.int (3 : Int32))] [(.int sz), (.int (3 : Int32))])) _
            refine XS.icmpYes X308.here hx rfl (pc0 := 7) (pc' := 63) rfl (hb hby d6_7) rfl (flt hc7''').2.1 (by decide) (by decide) ?_
            show Steps p.tables e below (T308.setTop (mkF m 63 #[.val (.ref p0), .val (.int (3 : Int32))] [])) _
            refine XS.aloadN X308.here hx rfl (hb hby d6_63) rfl rfl ?_
            show Steps p.tables e below (T308.setTop (mkF m 64 #[.val (.ref p0), .val (.int (3 : Int32))] [(.ref p0)])) _
            refine XS.iconst X308.here hx rfl (hb hby d6_64) ?_
            exact kont
          obtain ⟨T311, h311, X311, e311, W311, st311⟩ := putF X308 hx hZ hown (host := "") (Or.inl (hw _ (List.mem_of_getElem? (i := 44) rfl))) Via.refl e308 f305_4 f305_0 (Or.inl (hw _ (List.mem_of_getElem? (i := 45) rfl))) (hw _ (List.mem_of_getElem? (i := 1) rfl)) (ty := .int) (by decide) rfl rfl (g := (mkF m 65 #[.val (.ref p0), .val (.int (3 : Int32))] [(.int (0 : Int32)), (.ref p0)])) rfl rfl (hb hby d6_65)
          have f311_0 := Exa.wr W311 f305_0
          have f311_1 := Fld.other W311 f305_1 (Or.inr (slot_ne (Or.inr (hw _ (List.mem_of_getElem? (i := 29) rfl))) (Or.inl (hw _ (List.mem_of_getElem? (i := 45) rfl))) (by decide) (t := .int) (t' := .int) (by decide) (by decide)))
          have f311_2 := Fld.other W311 f305_2 (Or.inr (slot_ne (Or.inl (hw _ (List.mem_of_getElem? (i := 36) rfl))) (Or.inl (hw _ (List.mem_of_getElem? (i := 45) rfl))) (by decide) (t := .boolean) (t' := .int) (by decide) (by decide)))
          have f311_3 := Fld.other W311 f305_3 (Or.inr (slot_ne (Or.inl (hw _ (List.mem_of_getElem? (i := 38) rfl))) (Or.inl (hw _ (List.mem_of_getElem? (i := 45) rfl))) (by decide) (t := .int) (t' := .int) (by decide) (by decide)))
          have f311_4 := Fld.same W311 f305_4
          have f311_5 := Fld.other W311 f305_5 (Or.inr (slot_ne (Or.inl (hw _ (List.mem_of_getElem? (i := 25) rfl))) (Or.inl (hw _ (List.mem_of_getElem? (i := 45) rfl))) (by decide) (t := .int) (t' := .int) (by decide) (by decide)))
          have f311_6 := Fld.other W311 f305_6 (Or.inr (slot_ne (Or.inl (hw _ (List.mem_of_getElem? (i := 11) rfl))) (Or.inl (hw _ (List.mem_of_getElem? (i := 45) rfl))) (by decide) (t := (.array .int)) (t' := .int) (by decide) (by decide)))
          have f311_7 := Fld.other W311 f305_7 (Or.inr (slot_ne (Or.inl (hw _ (List.mem_of_getElem? (i := 21) rfl))) (Or.inl (hw _ (List.mem_of_getElem? (i := 45) rfl))) (by decide) (t := (.array .int)) (t' := .int) (by decide) (by decide)))
          have f311_8 := Fld.other W311 f305_8 (Or.inr (slot_ne (Or.inl (hw _ (List.mem_of_getElem? (i := 23) rfl))) (Or.inl (hw _ (List.mem_of_getElem? (i := 45) rfl))) (by decide) (t := (.array .int)) (t' := .int) (by decide) (by decide)))
          have f311_9 := Fld.other W311 f305_9 (Or.inr (slot_ne (Or.inl (hw _ (List.mem_of_getElem? (i := 27) rfl))) (Or.inl (hw _ (List.mem_of_getElem? (i := 45) rfl))) (by decide) (t := (.array .int)) (t' := .int) (by decide) (by decide)))
          have f311_10 := f305_10.other W311 (Ne.symm d1)
          have f311_11 := f305_11.other W311 (Ne.symm d2)
          have f311_12 := f305_12.other W311 (Ne.symm d3)
          have f311_13 := V305.other W311 (Ne.symm d0)
          have Z311 : n0 ≤ h311.size := Nat.le_trans Z305 (Keep.of_wr W311).1
          have N311 := Fr.snoc X311 N305 g0
          have pre312 : ∀ t, Steps p.tables e below (T311.setTop (mkF m 68 #[.val (.ref p0), .val (.int (3 : Int32))] [])) t → Steps p.tables e below (s₁.setTop (entryFrame m #[(.ref p0)] 2)) t := fun t kont => pre310 t (st311 _ kont)
          obtain ⟨fs, hr, hrun, hended, hW, hsame⟩ := X311.leave (v := none) (fun _ => rfl)
          refine ⟨_, _, pre312 _ ?_, hrun, hended, _, _, rfl, ?_, ⟨_, rfl⟩, hW, hsame.mono (by decide) (by decide)⟩
          · exact X311.returnOut hx Bd.returns (hb hby d6_68) hr
          · show Q6a Z p0 be ba bn bf dr lw sz ne ge ga gn gf zn h0 n0 _ T311.heap _
            rw [e311]
            exact ⟨rfl, N311, Z311, ⟨f311_0, f311_1, f311_2, f311_3, f311_4, f311_5, f311_6, f311_7, f311_8, f311_9, (f311_13.to rfl (fun j hj => congrArg Value.int (by rw [hu28'', hu28', hu28]; exact own_more (g := ge) (x := 0) (m := 3) hI.1 (own_iout hzn (by decide) (by decide) hc7''') j hj))), f311_10, f311_11, f311_12, ⟨d0, d1, d2, d3, d4, d5, d6, d7, d8, d9⟩, ⟨g0, g1, g2, g3, g4⟩⟩⟩
      · have pre313 : ∀ t, Steps p.tables e below (T293.setTop (mkF m 65 #[.val (.ref p0), .val (.int (2 : Int32))] [(.int (0 : Int32)), (.ref p0)])) t → Steps p.tables e below (s₁.setTop (entryFrame m #[(.ref p0)] 2)) t := by
          intro t kont
          refine pre294 t ?_
          show Steps p.tables e below (T293.setTop (mkF m 7 #[.val (.ref p0), .val (.int (2 : Int32))] [(.int sz), (.int (2 : Int32))])) _
          refine XS.icmpYes X293.here hx rfl (pc0 := 7) (pc' := 63) rfl (hb hby d6_7) rfl (flt hc7'').2.1 (by decide) (by decide) ?_
          show Steps p.tables e below (T293.setTop (mkF m 63 #[.val (.ref p0), .val (.int (2 : Int32))] [])) _
          refine XS.aloadN X293.here hx rfl (hb hby d6_63) rfl rfl ?_
          show Steps p.tables e below (T293.setTop (mkF m 64 #[.val (.ref p0), .val (.int (2 : Int32))] [(.ref p0)])) _
          refine XS.iconst X293.here hx rfl (hb hby d6_64) ?_
          exact kont
        obtain ⟨T314, h314, X314, e314, W314, st314⟩ := putF X293 hx hZ hown (host := "") (Or.inl (hw _ (List.mem_of_getElem? (i := 44) rfl))) Via.refl e293 f290_4 f290_0 (Or.inl (hw _ (List.mem_of_getElem? (i := 45) rfl))) (hw _ (List.mem_of_getElem? (i := 1) rfl)) (ty := .int) (by decide) rfl rfl (g := (mkF m 65 #[.val (.ref p0), .val (.int (2 : Int32))] [(.int (0 : Int32)), (.ref p0)])) rfl rfl (hb hby d6_65)
        have f314_0 := Exa.wr W314 f290_0
        have f314_1 := Fld.other W314 f290_1 (Or.inr (slot_ne (Or.inr (hw _ (List.mem_of_getElem? (i := 29) rfl))) (Or.inl (hw _ (List.mem_of_getElem? (i := 45) rfl))) (by decide) (t := .int) (t' := .int) (by decide) (by decide)))
        have f314_2 := Fld.other W314 f290_2 (Or.inr (slot_ne (Or.inl (hw _ (List.mem_of_getElem? (i := 36) rfl))) (Or.inl (hw _ (List.mem_of_getElem? (i := 45) rfl))) (by decide) (t := .boolean) (t' := .int) (by decide) (by decide)))
        have f314_3 := Fld.other W314 f290_3 (Or.inr (slot_ne (Or.inl (hw _ (List.mem_of_getElem? (i := 38) rfl))) (Or.inl (hw _ (List.mem_of_getElem? (i := 45) rfl))) (by decide) (t := .int) (t' := .int) (by decide) (by decide)))
        have f314_4 := Fld.same W314 f290_4
        have f314_5 := Fld.other W314 f290_5 (Or.inr (slot_ne (Or.inl (hw _ (List.mem_of_getElem? (i := 25) rfl))) (Or.inl (hw _ (List.mem_of_getElem? (i := 45) rfl))) (by decide) (t := .int) (t' := .int) (by decide) (by decide)))
        have f314_6 := Fld.other W314 f290_6 (Or.inr (slot_ne (Or.inl (hw _ (List.mem_of_getElem? (i := 11) rfl))) (Or.inl (hw _ (List.mem_of_getElem? (i := 45) rfl))) (by decide) (t := (.array .int)) (t' := .int) (by decide) (by decide)))
        have f314_7 := Fld.other W314 f290_7 (Or.inr (slot_ne (Or.inl (hw _ (List.mem_of_getElem? (i := 21) rfl))) (Or.inl (hw _ (List.mem_of_getElem? (i := 45) rfl))) (by decide) (t := (.array .int)) (t' := .int) (by decide) (by decide)))
        have f314_8 := Fld.other W314 f290_8 (Or.inr (slot_ne (Or.inl (hw _ (List.mem_of_getElem? (i := 23) rfl))) (Or.inl (hw _ (List.mem_of_getElem? (i := 45) rfl))) (by decide) (t := (.array .int)) (t' := .int) (by decide) (by decide)))
        have f314_9 := Fld.other W314 f290_9 (Or.inr (slot_ne (Or.inl (hw _ (List.mem_of_getElem? (i := 27) rfl))) (Or.inl (hw _ (List.mem_of_getElem? (i := 45) rfl))) (by decide) (t := (.array .int)) (t' := .int) (by decide) (by decide)))
        have f314_10 := f290_10.other W314 (Ne.symm d1)
        have f314_11 := f290_11.other W314 (Ne.symm d2)
        have f314_12 := f290_12.other W314 (Ne.symm d3)
        have f314_13 := V290.other W314 (Ne.symm d0)
        have Z314 : n0 ≤ h314.size := Nat.le_trans Z290 (Keep.of_wr W314).1
        have N314 := Fr.snoc X314 N290 g0
        have pre315 : ∀ t, Steps p.tables e below (T314.setTop (mkF m 68 #[.val (.ref p0), .val (.int (2 : Int32))] [])) t → Steps p.tables e below (s₁.setTop (entryFrame m #[(.ref p0)] 2)) t := fun t kont => pre313 t (st314 _ kont)
        obtain ⟨fs, hr, hrun, hended, hW, hsame⟩ := X314.leave (v := none) (fun _ => rfl)
        refine ⟨_, _, pre315 _ ?_, hrun, hended, _, _, rfl, ?_, ⟨_, rfl⟩, hW, hsame.mono (by decide) (by decide)⟩
        · exact X314.returnOut hx Bd.returns (hb hby d6_68) hr
        · show Q6a Z p0 be ba bn bf dr lw sz ne ge ga gn gf zn h0 n0 _ T314.heap _
          rw [e314]
          exact ⟨rfl, N314, Z314, ⟨f314_0, f314_1, f314_2, f314_3, f314_4, f314_5, f314_6, f314_7, f314_8, f314_9, (f314_13.to rfl (fun j hj => congrArg Value.int (by rw [hu28', hu28]; exact own_more (g := ge) (x := 0) (m := 2) hI.1 (own_iout hzn (by decide) (by decide) hc7'') j hj))), f314_10, f314_11, f314_12, ⟨d0, d1, d2, d3, d4, d5, d6, d7, d8, d9⟩, ⟨g0, g1, g2, g3, g4⟩⟩⟩
    · have pre316 : ∀ t, Steps p.tables e below (T278.setTop (mkF m 65 #[.val (.ref p0), .val (.int (1 : Int32))] [(.int (0 : Int32)), (.ref p0)])) t → Steps p.tables e below (s₁.setTop (entryFrame m #[(.ref p0)] 2)) t := by
        intro t kont
        refine pre279 t ?_
        show Steps p.tables e below (T278.setTop (mkF m 7 #[.val (.ref p0), .val (.int (1 : Int32))] [(.int sz), (.int (1 : Int32))])) _
        refine XS.icmpYes X278.here hx rfl (pc0 := 7) (pc' := 63) rfl (hb hby d6_7) rfl (flt hc7').2.1 (by decide) (by decide) ?_
        show Steps p.tables e below (T278.setTop (mkF m 63 #[.val (.ref p0), .val (.int (1 : Int32))] [])) _
        refine XS.aloadN X278.here hx rfl (hb hby d6_63) rfl rfl ?_
        show Steps p.tables e below (T278.setTop (mkF m 64 #[.val (.ref p0), .val (.int (1 : Int32))] [(.ref p0)])) _
        refine XS.iconst X278.here hx rfl (hb hby d6_64) ?_
        exact kont
      obtain ⟨T317, h317, X317, e317, W317, st317⟩ := putF X278 hx hZ hown (host := "") (Or.inl (hw _ (List.mem_of_getElem? (i := 44) rfl))) Via.refl e278 f275_4 f275_0 (Or.inl (hw _ (List.mem_of_getElem? (i := 45) rfl))) (hw _ (List.mem_of_getElem? (i := 1) rfl)) (ty := .int) (by decide) rfl rfl (g := (mkF m 65 #[.val (.ref p0), .val (.int (1 : Int32))] [(.int (0 : Int32)), (.ref p0)])) rfl rfl (hb hby d6_65)
      have f317_0 := Exa.wr W317 f275_0
      have f317_1 := Fld.other W317 f275_1 (Or.inr (slot_ne (Or.inr (hw _ (List.mem_of_getElem? (i := 29) rfl))) (Or.inl (hw _ (List.mem_of_getElem? (i := 45) rfl))) (by decide) (t := .int) (t' := .int) (by decide) (by decide)))
      have f317_2 := Fld.other W317 f275_2 (Or.inr (slot_ne (Or.inl (hw _ (List.mem_of_getElem? (i := 36) rfl))) (Or.inl (hw _ (List.mem_of_getElem? (i := 45) rfl))) (by decide) (t := .boolean) (t' := .int) (by decide) (by decide)))
      have f317_3 := Fld.other W317 f275_3 (Or.inr (slot_ne (Or.inl (hw _ (List.mem_of_getElem? (i := 38) rfl))) (Or.inl (hw _ (List.mem_of_getElem? (i := 45) rfl))) (by decide) (t := .int) (t' := .int) (by decide) (by decide)))
      have f317_4 := Fld.same W317 f275_4
      have f317_5 := Fld.other W317 f275_5 (Or.inr (slot_ne (Or.inl (hw _ (List.mem_of_getElem? (i := 25) rfl))) (Or.inl (hw _ (List.mem_of_getElem? (i := 45) rfl))) (by decide) (t := .int) (t' := .int) (by decide) (by decide)))
      have f317_6 := Fld.other W317 f275_6 (Or.inr (slot_ne (Or.inl (hw _ (List.mem_of_getElem? (i := 11) rfl))) (Or.inl (hw _ (List.mem_of_getElem? (i := 45) rfl))) (by decide) (t := (.array .int)) (t' := .int) (by decide) (by decide)))
      have f317_7 := Fld.other W317 f275_7 (Or.inr (slot_ne (Or.inl (hw _ (List.mem_of_getElem? (i := 21) rfl))) (Or.inl (hw _ (List.mem_of_getElem? (i := 45) rfl))) (by decide) (t := (.array .int)) (t' := .int) (by decide) (by decide)))
      have f317_8 := Fld.other W317 f275_8 (Or.inr (slot_ne (Or.inl (hw _ (List.mem_of_getElem? (i := 23) rfl))) (Or.inl (hw _ (List.mem_of_getElem? (i := 45) rfl))) (by decide) (t := (.array .int)) (t' := .int) (by decide) (by decide)))
      have f317_9 := Fld.other W317 f275_9 (Or.inr (slot_ne (Or.inl (hw _ (List.mem_of_getElem? (i := 27) rfl))) (Or.inl (hw _ (List.mem_of_getElem? (i := 45) rfl))) (by decide) (t := (.array .int)) (t' := .int) (by decide) (by decide)))
      have f317_10 := f275_10.other W317 (Ne.symm d1)
      have f317_11 := f275_11.other W317 (Ne.symm d2)
      have f317_12 := f275_12.other W317 (Ne.symm d3)
      have f317_13 := V275.other W317 (Ne.symm d0)
      have Z317 : n0 ≤ h317.size := Nat.le_trans Z275 (Keep.of_wr W317).1
      have N317 := Fr.snoc X317 N275 g0
      have pre318 : ∀ t, Steps p.tables e below (T317.setTop (mkF m 68 #[.val (.ref p0), .val (.int (1 : Int32))] [])) t → Steps p.tables e below (s₁.setTop (entryFrame m #[(.ref p0)] 2)) t := fun t kont => pre316 t (st317 _ kont)
      obtain ⟨fs, hr, hrun, hended, hW, hsame⟩ := X317.leave (v := none) (fun _ => rfl)
      refine ⟨_, _, pre318 _ ?_, hrun, hended, _, _, rfl, ?_, ⟨_, rfl⟩, hW, hsame.mono (by decide) (by decide)⟩
      · exact X317.returnOut hx Bd.returns (hb hby d6_68) hr
      · show Q6a Z p0 be ba bn bf dr lw sz ne ge ga gn gf zn h0 n0 _ T317.heap _
        rw [e317]
        exact ⟨rfl, N317, Z317, ⟨f317_0, f317_1, f317_2, f317_3, f317_4, f317_5, f317_6, f317_7, f317_8, f317_9, (f317_13.to rfl (fun j hj => congrArg Value.int (by rw [hu28]; exact own_more (g := ge) (x := 0) (m := 1) hI.1 (own_iout hzn (by decide) (by decide) hc7') j hj))), f317_10, f317_11, f317_12, ⟨d0, d1, d2, d3, d4, d5, d6, d7, d8, d9⟩, ⟨g0, g1, g2, g3, g4⟩⟩⟩
  · have pre319 : ∀ t, Steps p.tables e below (T263.setTop (mkF m 65 #[.val (.ref p0), .val (.int (0 : Int32))] [(.int (0 : Int32)), (.ref p0)])) t → Steps p.tables e below (s₁.setTop (entryFrame m #[(.ref p0)] 2)) t := by
      intro t kont
      refine pre264 t ?_
      show Steps p.tables e below (T263.setTop (mkF m 7 #[.val (.ref p0), .val (.int (0 : Int32))] [(.int sz), (.int (0 : Int32))])) _
      refine XS.icmpYes X263.here hx rfl (pc0 := 7) (pc' := 63) rfl (hb hby d6_7) rfl (flt hc7).2.1 (by decide) (by decide) ?_
      show Steps p.tables e below (T263.setTop (mkF m 63 #[.val (.ref p0), .val (.int (0 : Int32))] [])) _
      refine XS.aloadN X263.here hx rfl (hb hby d6_63) rfl rfl ?_
      show Steps p.tables e below (T263.setTop (mkF m 64 #[.val (.ref p0), .val (.int (0 : Int32))] [(.ref p0)])) _
      refine XS.iconst X263.here hx rfl (hb hby d6_64) ?_
      exact kont
    obtain ⟨T320, h320, X320, e320, W320, st320⟩ := putF X263 hx hZ hown (host := "") (Or.inl (hw _ (List.mem_of_getElem? (i := 44) rfl))) Via.refl e263 q_size qE (Or.inl (hw _ (List.mem_of_getElem? (i := 45) rfl))) (hw _ (List.mem_of_getElem? (i := 1) rfl)) (ty := .int) (by decide) rfl rfl (g := (mkF m 65 #[.val (.ref p0), .val (.int (0 : Int32))] [(.int (0 : Int32)), (.ref p0)])) rfl rfl (hb hby d6_65)
    have f320_0 := Exa.wr W320 qE
    have f320_1 := Fld.other W320 q_direct (Or.inr (slot_ne (Or.inr (hw _ (List.mem_of_getElem? (i := 29) rfl))) (Or.inl (hw _ (List.mem_of_getElem? (i := 45) rfl))) (by decide) (t := .int) (t' := .int) (by decide) (by decide)))
    have f320_2 := Fld.other W320 q_ownSlots (Or.inr (slot_ne (Or.inl (hw _ (List.mem_of_getElem? (i := 36) rfl))) (Or.inl (hw _ (List.mem_of_getElem? (i := 45) rfl))) (by decide) (t := .boolean) (t' := .int) (by decide) (by decide)))
    have f320_3 := Fld.other W320 q_lowest (Or.inr (slot_ne (Or.inl (hw _ (List.mem_of_getElem? (i := 38) rfl))) (Or.inl (hw _ (List.mem_of_getElem? (i := 45) rfl))) (by decide) (t := .int) (t' := .int) (by decide) (by decide)))
    have f320_4 := Fld.same W320 q_size
    have f320_5 := Fld.other W320 q_shift (Or.inr (slot_ne (Or.inl (hw _ (List.mem_of_getElem? (i := 25) rfl))) (Or.inl (hw _ (List.mem_of_getElem? (i := 45) rfl))) (by decide) (t := .int) (t' := .int) (by decide) (by decide)))
    have f320_6 := Fld.other W320 q_endsByAlignment (Or.inr (slot_ne (Or.inl (hw _ (List.mem_of_getElem? (i := 11) rfl))) (Or.inl (hw _ (List.mem_of_getElem? (i := 45) rfl))) (by decide) (t := (.array .int)) (t' := .int) (by decide) (by decide)))
    have f320_7 := Fld.other W320 q_alignments (Or.inr (slot_ne (Or.inl (hw _ (List.mem_of_getElem? (i := 21) rfl))) (Or.inl (hw _ (List.mem_of_getElem? (i := 45) rfl))) (by decide) (t := (.array .int)) (t' := .int) (by decide) (by decide)))
    have f320_8 := Fld.other W320 q_ends (Or.inr (slot_ne (Or.inl (hw _ (List.mem_of_getElem? (i := 23) rfl))) (Or.inl (hw _ (List.mem_of_getElem? (i := 45) rfl))) (by decide) (t := (.array .int)) (t' := .int) (by decide) (by decide)))
    have f320_9 := Fld.other W320 q_filled (Or.inr (slot_ne (Or.inl (hw _ (List.mem_of_getElem? (i := 27) rfl))) (Or.inl (hw _ (List.mem_of_getElem? (i := 45) rfl))) (by decide) (t := (.array .int)) (t' := .int) (by decide) (by decide)))
    have f320_10 := Ve.other W320 (Ne.symm d0)
    have f320_11 := Va.other W320 (Ne.symm d1)
    have f320_12 := Vn.other W320 (Ne.symm d2)
    have f320_13 := Vf.other W320 (Ne.symm d3)
    have Z320 : n0 ≤ h320.size := Nat.le_trans Z0 (Keep.of_wr W320).1
    have N320 := Fr.snoc X320 N0 g0
    have pre321 : ∀ t, Steps p.tables e below (T320.setTop (mkF m 68 #[.val (.ref p0), .val (.int (0 : Int32))] [])) t → Steps p.tables e below (s₁.setTop (entryFrame m #[(.ref p0)] 2)) t := fun t kont => pre319 t (st320 _ kont)
    obtain ⟨fs, hr, hrun, hended, hW, hsame⟩ := X320.leave (v := none) (fun _ => rfl)
    refine ⟨_, _, pre321 _ ?_, hrun, hended, _, _, rfl, ?_, ⟨_, rfl⟩, hW, hsame.mono (by decide) (by decide)⟩
    · exact X320.returnOut hx Bd.returns (hb hby d6_68) hr
    · show Q6a Z p0 be ba bn bf dr lw sz ne ge ga gn gf zn h0 n0 _ T320.heap _
      rw [e320]
      exact ⟨rfl, N320, Z320, ⟨f320_0, f320_1, f320_2, f320_3, f320_4, f320_5, f320_6, f320_7, f320_8, f320_9, (f320_10.to rfl (fun j hj => congrArg Value.int (by exact own_more (g := ge) (x := 0) (m := 0) hI.1 (own_iout hzn (by decide) (by decide) hc7) j hj))), f320_11, f320_12, f320_13, ⟨d0, d1, d2, d3, d4, d5, d6, d7, d8, d9⟩, ⟨g0, g1, g2, g3, g4⟩⟩⟩
def Q9b (Z : State) (p0 : Addr) (p1 : Int32) (p2 : Int32) (p3 : Int32) (be : Addr) (ba : Addr) (bn : Addr) (bf : Addr) (dr : Int32) (sz : Int32) (ne : Nat) (ge : Nat → Int32) (ga : Nat → Int32) (gn : Nat → Int32) (gf : Nat → Int32) (zn : Nat) (h0 : Heap) (n0 : Nat) (v : Option Value) (h : Heap) (L : List Loc) : Prop := v = none ∧ Fr n0 L ∧ n0 ≤ h.size ∧ ∃ (sz' : Int32) (zn' : Nat) (ge' ga' gn' gf' : Nat → Int32), zn' ≤ zn + 1 ∧ ¬ sz' < 0 ∧ sz'.toNatClampNeg = zn' ∧ own_inv0 zn' ga' gn' gf' ∧ own_al Z h n0 p0 be ba bn bf dr (0 : Int32) (-p1) sz' ne ge' ga' gn' gf'
set_option maxRecDepth 65536 in
set_option maxHeartbeats 40000000 in
theorem rm9b (l : Launch) (Z : State) (a0 : Array Value) (hw : ∀ d ∈ tables_1, d.before a0 Z = true) (ws : List Jvm.Cond) (p0 : Addr) (p1 : Int32) (p2 : Int32) (p3 : Int32) (be : Addr) (ba : Addr) (bn : Addr) (bf : Addr) (dr : Int32) (sz : Int32) (ne : Nat) (ge : Nat → Int32) (ga : Nat → Int32) (gn : Nat → Int32) (gf : Nat → Int32) (zn : Nat) (h0 : Heap) (n0 : Nat) (Z0 : n0 ≤ h0.size) (Hal : own_al Z h0 n0 p0 be ba bn bf dr (0 : Int32) (-p1) sz ne ge ga gn gf) (hI : own_inv0 zn ga gn gf) (hz0 : ¬ sz < 0) (hzn : sz.toNatClampNeg = zn) (hn2 : zn ≤ 2) (hC : 1 ≤ p2.toInt ∧ p2.toInt ≤ 31) :
    MetFree l (⟨"com/example/impronta/impronta/engine/AlignmentsClearPinLaw", "putOne", "(Lcom/example/impronta/impronta/engine/Alignments;III)V"⟩ : MethodName) (head1 (Jvm.Cond.code (⟨"com/example/impronta/impronta/engine/AlignmentsClearPinLaw", "putOne", "(Lcom/example/impronta/impronta/engine/Alignments;III)V"⟩ : MethodName) method_3_code 6 none :: ws) ({ frames := 2, cells := 0, slots := 0, locals := 28 } : Room)) (fun a U => a = #[(.ref p0), (.int p1), (.int p2), (.int p3)] ∧ Z.Warmed39 U.vm ∧ U.heap = h0) (fun _ _ _ _ _ => True) (fun _ U o U' => ∃ v L, o = .returned v ∧ Q9b Z p0 p1 p2 p3 be ba bn bf dr sz ne ge ga gn gf zn h0 n0 v U'.heap L ∧ FrameEnd U o U' L ({ frames := 2, cells := 0, slots := 0, locals := 28 } : Room).cells ({ frames := 2, cells := 0, slots := 0, locals := 28 } : Room).slots) := by
  refine MetFree.of_bodySF (plainFor_of_name pn_9) hisR ?_
  intro p e s m args below meth c s₁ Bd hml0 hP hK
  obtain ⟨rfl, hZ, hh⟩ := hP
  have hx := Bd.exec
  have hby := Bd.bytes
  have hml : c.maxLocals = 6 := hml0
  have hown : s.vm.findClass "com/example/impronta/impronta/engine/AlignmentsClearPinLaw" = some m.cls := findClass_of_methodNamed Bd.named
  have hnm := (name_of_methodNamed Bd.named Bd.method).1
  have X0 : Stand p l e ({ frames := 2, cells := 0, slots := 0, locals := 28 } : Room) s m #[(.ref p0), (.int p1), (.int p2), (.int p3)] below meth c s₁ [] 0 0 := Stand.of_body Bd
  have e0 : s₁.heap = h0 := by rw [← hh, Bd.state]; rfl
  have N0 := Fr.nil n0
  have pre0 : ∀ t, Steps p.tables e below (s₁.setTop (mkF m 0 #[.val (.ref p0), .val (.int p1), .val (.int p2), .val (.int p3), .unset, .unset] [])) t → Steps p.tables e below (s₁.setTop (entryFrame m #[(.ref p0), (.int p1), (.int p2), (.int p3)] 6)) t := fun t k => castTop (ef_9 m p0 p1 p2 p3) k
  have pre322 : ∀ t, Steps p.tables e below (s₁.setTop (mkF m 13 #[.val (.ref p0), .val (.int p1), .val (.int p2), .val (.int p3), .val (.int (((p3 &&& (65535 : Int32)) % p2) - p1)), .unset] [(.int (((p3 &&& (65535 : Int32)) % p2) - p1)), (.ref p0)])) t → Steps p.tables e below (s₁.setTop (entryFrame m #[(.ref p0), (.int p1), (.int p2), (.int p3)] 6)) t := by
    intro t kont
    refine pre0 t ?_
    show Steps p.tables e below (s₁.setTop (mkF m 0 #[.val (.ref p0), .val (.int p1), .val (.int p2), .val (.int p3), .unset, .unset] [])) _
    refine XS.iloadN X0.here hx rfl (hb hby d9_0) rfl ?_
    show Steps p.tables e below (s₁.setTop (mkF m 1 #[.val (.ref p0), .val (.int p1), .val (.int p2), .val (.int p3), .unset, .unset] [(.int p3)])) _
    refine X0.ldcInt hx hown (mvT hZ (hw _ (List.mem_of_getElem? (i := 63) rfl))) (g := (mkF m 1 #[.val (.ref p0), .val (.int p1), .val (.int p2), .val (.int p3), .unset, .unset] [(.int p3)])) rfl (hb hby d9_1) _ ?_
    show Steps p.tables e below (s₁.setTop (mkF m 3 #[.val (.ref p0), .val (.int p1), .val (.int p2), .val (.int p3), .unset, .unset] [(.int (65535 : Int32)), (.int p3)])) _
    refine XS.iand X0.here hx rfl (hb hby d9_3) rfl ?_
    show Steps p.tables e below (s₁.setTop (mkF m 4 #[.val (.ref p0), .val (.int p1), .val (.int p2), .val (.int p3), .unset, .unset] [(.int (p3 &&& (65535 : Int32)))])) _
    refine XS.iloadN X0.here hx rfl (hb hby d9_4) rfl ?_
    show Steps p.tables e below (s₁.setTop (mkF m 5 #[.val (.ref p0), .val (.int p1), .val (.int p2), .val (.int p3), .unset, .unset] [(.int p2), (.int (p3 &&& (65535 : Int32)))])) _
    refine iremM X0 hx rfl (hb hby d9_5) rfl (own_cz hC.1) ?_
    show Steps p.tables e below (s₁.setTop (mkF m 6 #[.val (.ref p0), .val (.int p1), .val (.int p2), .val (.int p3), .unset, .unset] [(.int ((p3 &&& (65535 : Int32)) % p2))])) _
    refine XS.iloadN X0.here hx rfl (hb hby d9_6) rfl ?_
    show Steps p.tables e below (s₁.setTop (mkF m 7 #[.val (.ref p0), .val (.int p1), .val (.int p2), .val (.int p3), .unset, .unset] [(.int p1), (.int ((p3 &&& (65535 : Int32)) % p2))])) _
    refine XS.isub X0.here hx rfl (hb hby d9_7) rfl ?_
    show Steps p.tables e below (s₁.setTop (mkF m 8 #[.val (.ref p0), .val (.int p1), .val (.int p2), .val (.int p3), .unset, .unset] [(.int (((p3 &&& (65535 : Int32)) % p2) - p1))])) _
    refine XS.istore X0.here hx rfl (hb hby d9_8) rfl (l' := #[.val (.ref p0), .val (.int p1), .val (.int p2), .val (.int p3), .val (.int (((p3 &&& (65535 : Int32)) % p2) - p1)), .unset]) rfl ?_
    show Steps p.tables e below (s₁.setTop (mkF m 10 #[.val (.ref p0), .val (.int p1), .val (.int p2), .val (.int p3), .val (.int (((p3 &&& (65535 : Int32)) % p2) - p1)), .unset] [])) _
    refine XS.aloadN X0.here hx rfl (hb hby d9_10) rfl rfl ?_
    show Steps p.tables e below (s₁.setTop (mkF m 11 #[.val (.ref p0), .val (.int p1), .val (.int p2), .val (.int p3), .val (.int (((p3 &&& (65535 : Int32)) % p2) - p1)), .unset] [(.ref p0)])) _
    refine XS.iload X0.here hx rfl (hb hby d9_11) rfl ?_
    exact kont
  obtain ⟨cq323, kq323, q323a, q323b, q323c⟩ := isOf hZ e0 Hal.1
  obtain ⟨_, _, ⟨T323, L323, k323, n323⟩, -, X323, ⟨Lc323, hQ323, l323, y323, z323⟩, st323⟩ := X0.virtualBack hx (y := (⟨"com/example/impronta/impronta/engine/Alignments", "slot", "(I)I"⟩ : MethodName)) (z := (⟨"com/example/impronta/impronta/engine/Alignments", "slot", "(I)I"⟩ : MethodName)) hown (mvT hZ (hw _ (List.mem_of_getElem? (i := 46) rfl))) (mvT hZ (hw _ (List.mem_of_getElem? (i := 47) rfl))) (notFace_of_selects (args := #[]) (mvT hZ (hw _ (List.mem_of_getElem? (i := 49) rfl)))) (mvT hZ (hw _ (List.mem_of_getElem? (i := 49) rfl))) (mvT hZ (hw _ (List.mem_of_getElem? (i := 48) rfl))) (by decide) (backOf (W := 0) (rm7 l Z a0 hw [] p0 (((p3 &&& (65535 : Int32)) % p2) - p1) be ba bn bf dr (0 : Int32) (-p1) sz ne ge ga gn gf  h0 n0 Z0 Hal (fun _ => own_three hI hn2 _)) hZ (hw _ (List.mem_of_getElem? (i := 50) rfl)) (hw _ (List.mem_of_getElem? (i := 2) rfl)) (by decide) (by decide)) q323a q323c (g := (mkF m 13 #[.val (.ref p0), .val (.int p1), .val (.int p2), .val (.int p3), .val (.int (((p3 &&& (65535 : Int32)) % p2) - p1)), .unset] [(.int (((p3 &&& (65535 : Int32)) % p2) - p1)), (.ref p0)])) rfl (by rw [hml]; rfl) (Steps.refl _) (argsL := [(.int (((p3 &&& (65535 : Int32)) % p2) - p1))]) (rest := []) (lenOf pd_2 rfl) rfl (by show 2 * 0 + _ ≤ _; exact Nat.le_of_eq rfl) (hb hby d9_13) (fun _ _ => ⟨rfl, e0, (by decide : 0 + 0 ≤ _), (by decide : 0 + 0 ≤ _)⟩)
  dsimp only [Pt.U, Pt.locs, Pt.cells, Pt.slots] at X323 l323 y323 z323 st323 hQ323
  subst l323 y323 z323
  obtain ⟨rfl, N323q, e323⟩ := hQ323
  have N323 := Fr.app N0 N323q
  have pre324 : ∀ t, Steps p.tables e below (T323.setTop (mkF m 16 #[.val (.ref p0), .val (.int p1), .val (.int p2), .val (.int p3), .val (.int (((p3 &&& (65535 : Int32)) % p2) - p1)), .unset] [(.int (own_slot (0 : Int32) (-p1) ga (((p3 &&& (65535 : Int32)) % p2) - p1)))])) t → Steps p.tables e below (s₁.setTop (entryFrame m #[(.ref p0), (.int p1), (.int p2), (.int p3)] 6)) t := fun t kont => pre322 t (st323.trans kont)
  have hrr := own_sl0 (-p1) (((p3 &&& (65535 : Int32)) % p2) - p1) ga
  obtain ⟨s, hs⟩ : ∃ z : Int32, z = (own_slot (0 : Int32) (-p1) ga (((p3 &&& (65535 : Int32)) % p2) - p1)) := ⟨_, rfl⟩
  rw [← hs] at pre324
  rw [← hs] at hrr
  have pre325 : ∀ t, Steps p.tables e below (T323.setTop (mkF m 29 #[.val (.ref p0), .val (.int p1), .val (.int p2), .val (.int p3), .val (.int (((p3 &&& (65535 : Int32)) % p2) - p1)), .val (.int s)] [(.int (((p3.toUInt32 >>> ((16 : Int32) &&& 31).toUInt32).toInt32) + (1 : Int32))), (.int (((p3 &&& (65535 : Int32)) % p2) - p1)), (.int s), (.ref p0)])) t → Steps p.tables e below (s₁.setTop (entryFrame m #[(.ref p0), (.int p1), (.int p2), (.int p3)] 6)) t := by
    intro t kont
    refine pre324 t ?_
    show Steps p.tables e below (T323.setTop (mkF m 16 #[.val (.ref p0), .val (.int p1), .val (.int p2), .val (.int p3), .val (.int (((p3 &&& (65535 : Int32)) % p2) - p1)), .unset] [(.int s)])) _
    refine XS.istore X323.here hx rfl (hb hby d9_16) rfl (l' := #[.val (.ref p0), .val (.int p1), .val (.int p2), .val (.int p3), .val (.int (((p3 &&& (65535 : Int32)) % p2) - p1)), .val (.int s)]) rfl ?_
    show Steps p.tables e below (T323.setTop (mkF m 18 #[.val (.ref p0), .val (.int p1), .val (.int p2), .val (.int p3), .val (.int (((p3 &&& (65535 : Int32)) % p2) - p1)), .val (.int s)] [])) _
    refine XS.aloadN X323.here hx rfl (hb hby d9_18) rfl rfl ?_
    show Steps p.tables e below (T323.setTop (mkF m 19 #[.val (.ref p0), .val (.int p1), .val (.int p2), .val (.int p3), .val (.int (((p3 &&& (65535 : Int32)) % p2) - p1)), .val (.int s)] [(.ref p0)])) _
    refine XS.iload X323.here hx rfl (hb hby d9_19) rfl ?_
    show Steps p.tables e below (T323.setTop (mkF m 21 #[.val (.ref p0), .val (.int p1), .val (.int p2), .val (.int p3), .val (.int (((p3 &&& (65535 : Int32)) % p2) - p1)), .val (.int s)] [(.int s), (.ref p0)])) _
    refine XS.iload X323.here hx rfl (hb hby d9_21) rfl ?_
    show Steps p.tables e below (T323.setTop (mkF m 23 #[.val (.ref p0), .val (.int p1), .val (.int p2), .val (.int p3), .val (.int (((p3 &&& (65535 : Int32)) % p2) - p1)), .val (.int s)] [(.int (((p3 &&& (65535 : Int32)) % p2) - p1)), (.int s), (.ref p0)])) _
    refine XS.iloadN X323.here hx rfl (hb hby d9_23) rfl ?_
    show Steps p.tables e below (T323.setTop (mkF m 24 #[.val (.ref p0), .val (.int p1), .val (.int p2), .val (.int p3), .val (.int (((p3 &&& (65535 : Int32)) % p2) - p1)), .val (.int s)] [(.int p3), (.int (((p3 &&& (65535 : Int32)) % p2) - p1)), (.int s), (.ref p0)])) _
    refine XS.bipush X323.here hx rfl (hb hby d9_24) ?_
    show Steps p.tables e below (T323.setTop (mkF m 26 #[.val (.ref p0), .val (.int p1), .val (.int p2), .val (.int p3), .val (.int (((p3 &&& (65535 : Int32)) % p2) - p1)), .val (.int s)] [(.int (16 : Int32)), (.int p3), (.int (((p3 &&& (65535 : Int32)) % p2) - p1)), (.int s), (.ref p0)])) _
    refine XS.iushr X323.here hx rfl (hb hby d9_26) rfl ?_
    show Steps p.tables e below (T323.setTop (mkF m 27 #[.val (.ref p0), .val (.int p1), .val (.int p2), .val (.int p3), .val (.int (((p3 &&& (65535 : Int32)) % p2) - p1)), .val (.int s)] [(.int ((p3.toUInt32 >>> ((16 : Int32) &&& 31).toUInt32).toInt32)), (.int (((p3 &&& (65535 : Int32)) % p2) - p1)), (.int s), (.ref p0)])) _
    refine XS.iconst X323.here hx rfl (hb hby d9_27) ?_
    show Steps p.tables e below (T323.setTop (mkF m 28 #[.val (.ref p0), .val (.int p1), .val (.int p2), .val (.int p3), .val (.int (((p3 &&& (65535 : Int32)) % p2) - p1)), .val (.int s)] [(.int (1 : Int32)), (.int ((p3.toUInt32 >>> ((16 : Int32) &&& 31).toUInt32).toInt32)), (.int (((p3 &&& (65535 : Int32)) % p2) - p1)), (.int s), (.ref p0)])) _
    refine XS.iadd X323.here hx rfl (hb hby d9_28) rfl ?_
    exact kont
  obtain ⟨cq326, kq326, q326a, q326b, q326c⟩ := isOf hZ e323 Hal.1
  obtain ⟨_, _, ⟨T326, L326, k326, n326⟩, -, X326, ⟨Lc326, hQ326, l326, y326, z326⟩, st326⟩ := X323.virtualBack hx (y := (⟨"com/example/impronta/impronta/engine/Alignments", "put", "(III)V"⟩ : MethodName)) (z := (⟨"com/example/impronta/impronta/engine/Alignments", "put", "(III)V"⟩ : MethodName)) hown (mvT hZ (hw _ (List.mem_of_getElem? (i := 64) rfl))) (mvT hZ (hw _ (List.mem_of_getElem? (i := 65) rfl))) (notFace_of_selects (args := #[]) (mvT hZ (hw _ (List.mem_of_getElem? (i := 67) rfl)))) (mvT hZ (hw _ (List.mem_of_getElem? (i := 67) rfl))) (mvT hZ (hw _ (List.mem_of_getElem? (i := 66) rfl))) (by decide) (backOf (W := 0) (rm10 l Z a0 hw [] p0 s (((p3 &&& (65535 : Int32)) % p2) - p1) (((p3.toUInt32 >>> ((16 : Int32) &&& 31).toUInt32).toInt32) + (1 : Int32)) be ba bn bf dr (0 : Int32) (-p1) sz ne ge ga gn gf s.toNatClampNeg zn  h0 n0 Z0 Hal hrr.1 rfl (fun _ => hrr.2) (fun q => absurd rfl q) hz0 hzn (by omega)) hZ (hw _ (List.mem_of_getElem? (i := 68) rfl)) (hw _ (List.mem_of_getElem? (i := 2) rfl)) (by decide) (by decide)) q326a q326c (g := (mkF m 29 #[.val (.ref p0), .val (.int p1), .val (.int p2), .val (.int p3), .val (.int (((p3 &&& (65535 : Int32)) % p2) - p1)), .val (.int s)] [(.int (((p3.toUInt32 >>> ((16 : Int32) &&& 31).toUInt32).toInt32) + (1 : Int32))), (.int (((p3 &&& (65535 : Int32)) % p2) - p1)), (.int s), (.ref p0)])) rfl (by rw [hml]; rfl) (Steps.refl _) (argsL := [(.int s), (.int (((p3 &&& (65535 : Int32)) % p2) - p1)), (.int (((p3.toUInt32 >>> ((16 : Int32) &&& 31).toUInt32).toInt32) + (1 : Int32)))]) (rest := []) (lenOf pd_3 rfl) rfl (by show 2 * 0 + _ ≤ _; exact Nat.le_of_eq rfl) (hb hby d9_29) (fun _ _ => ⟨rfl, e323, (by decide : 0 + 0 ≤ _), (by decide : 0 + 0 ≤ _)⟩)
  dsimp only [Pt.U, Pt.locs, Pt.cells, Pt.slots] at X326 l326 y326 z326 st326 hQ326
  subst l326 y326 z326
  obtain ⟨rfl, N326q, Z326, H326⟩ := hQ326
  have N326 := Fr.app N323 N326q
  have pre327 : ∀ t, Steps p.tables e below (T326.setTop (mkF m 32 #[.val (.ref p0), .val (.int p1), .val (.int p2), .val (.int p3), .val (.int (((p3 &&& (65535 : Int32)) % p2) - p1)), .val (.int s)] [])) t → Steps p.tables e below (s₁.setTop (entryFrame m #[(.ref p0), (.int p1), (.int p2), (.int p3)] 6)) t := fun t kont => pre325 t (st326.trans kont)
  obtain ⟨fs, hr, hrun, hended, hW, hsame⟩ := X326.leave (v := none) (fun _ => rfl)
  refine ⟨_, _, pre327 _ ?_, hrun, hended, _, _, rfl, ?_, ⟨_, rfl⟩, hW, hsame.mono (by decide) (by decide)⟩
  · exact X326.returnOut hx Bd.returns (hb hby d9_32) hr
  · show Q9b Z p0 p1 p2 p3 be ba bn bf dr sz ne ge ga gn gf zn h0 n0 _ T326.heap _
    obtain ⟨zn', w1, w2, w3, w4⟩ := own_put0 (v := (((p3.toUInt32 >>> ((16 : Int32) &&& 31).toUInt32).toInt32) + (1 : Int32))) (a := (((p3 &&& (65535 : Int32)) % p2) - p1)) (ge := ge) (gx := ga) (gy := gn) hI hz0 hzn hn2 hrr.1 rfl hrr.2 (hI.2.1 _ hrr.2)
    exact ⟨rfl, N326, Z326, _, zn', _, _, _, _, w1, w2, w3, w4, H326⟩
theorem d6_32 : decode prog_18_method_6_code 32 = .ok (.aload_n 0, 1) := by decide +kernel
theorem d6_33 : decode prog_18_method_6_code 33 = .ok (.getfield 19, 3) := by decide +kernel
theorem d6_36 : decode prog_18_method_6_code 36 = .ok (.aload_n 0, 1) := by decide +kernel
theorem d6_37 : decode prog_18_method_6_code 37 = .ok (.getfield 29, 3) := by decide +kernel
theorem d6_40 : decode prog_18_method_6_code 40 = .ok (.iload_n 1, 1) := by decide +kernel
theorem d6_41 : decode prog_18_method_6_code 41 = .ok (.iaload, 1) := by decide +kernel
theorem d6_42 : decode prog_18_method_6_code 42 = .ok (.ldc 43, 2) := by decide +kernel
theorem d6_44 : decode prog_18_method_6_code 44 = .ok (.iastore, 1) := by decide +kernel
theorem d6_45 : decode prog_18_method_6_code 45 = .ok (.aload_n 0, 1) := by decide +kernel
theorem d6_46 : decode prog_18_method_6_code 46 = .ok (.getfield 22, 3) := by decide +kernel
theorem d6_49 : decode prog_18_method_6_code 49 = .ok (.aload_n 0, 1) := by decide +kernel
theorem d6_50 : decode prog_18_method_6_code 50 = .ok (.getfield 29, 3) := by decide +kernel
theorem d6_53 : decode prog_18_method_6_code 53 = .ok (.iload_n 1, 1) := by decide +kernel
theorem d6_54 : decode prog_18_method_6_code 54 = .ok (.iaload, 1) := by decide +kernel
theorem d6_55 : decode prog_18_method_6_code 55 = .ok (.iconst 0, 1) := by decide +kernel
theorem d6_56 : decode prog_18_method_6_code 56 = .ok (.iastore, 1) := by decide +kernel
def Q6b (Z : State) (p0 : Addr) (be : Addr) (ba : Addr) (bn : Addr) (bf : Addr) (dr : Int32) (lw : Int32) (sz : Int32) (ne : Nat) (ge : Nat → Int32) (ga : Nat → Int32) (gn : Nat → Int32) (gf : Nat → Int32) (zn : Nat) (h0 : Heap) (n0 : Nat) (v : Option Value) (h : Heap) (L : List Loc) : Prop := v = none ∧ Fr n0 L ∧ n0 ≤ h.size ∧ own_al Z h n0 p0 be ba bn bf dr (0 : Int32) lw (0 : Int32) ne ge (fun _ => (-2147483648 : Int32)) (fun _ => (0 : Int32)) gf
set_option maxRecDepth 65536 in
set_option maxHeartbeats 40000000 in
theorem rm6b (l : Launch) (Z : State) (a0 : Array Value) (hw : ∀ d ∈ tables_1, d.before a0 Z = true) (ws : List Jvm.Cond) (p0 : Addr) (be : Addr) (ba : Addr) (bn : Addr) (bf : Addr) (dr : Int32) (lw : Int32) (sz : Int32) (ne : Nat) (ge : Nat → Int32) (ga : Nat → Int32) (gn : Nat → Int32) (gf : Nat → Int32) (zn : Nat) (h0 : Heap) (n0 : Nat) (Z0 : n0 ≤ h0.size) (Hal : own_al Z h0 n0 p0 be ba bn bf dr (0 : Int32) lw sz ne ge ga gn gf) (hI : own_inv0 zn ga gn gf) (hzn : sz.toNatClampNeg = zn) (hn3 : zn ≤ 3) :
    MetFree l (⟨"com/example/impronta/impronta/engine/Alignments", "clear", "()V"⟩ : MethodName) (head1 (Jvm.Cond.code (⟨"com/example/impronta/impronta/engine/Alignments", "clear", "()V"⟩ : MethodName) prog_18_method_6_code 2 none :: ws) ({ frames := 0, cells := 0, slots := 0, locals := 0 } : Room)) (fun a U => a = #[(.ref p0)] ∧ Z.Warmed39 U.vm ∧ U.heap = h0) (fun _ _ _ _ _ => True) (fun _ U o U' => ∃ v L, o = .returned v ∧ Q6b Z p0 be ba bn bf dr lw sz ne ge ga gn gf zn h0 n0 v U'.heap L ∧ FrameEnd U o U' L ({ frames := 0, cells := 0, slots := 0, locals := 0 } : Room).cells ({ frames := 0, cells := 0, slots := 0, locals := 0 } : Room).slots) := by
  refine MetFree.of_bodySF (plainFor_of_name pn_3) hisR ?_
  intro p e s m args below meth c s₁ Bd hml0 hP hK
  obtain ⟨rfl, hZ, hh⟩ := hP
  have hx := Bd.exec
  have hby := Bd.bytes
  have hml : c.maxLocals = 2 := hml0
  have hown : s.vm.findClass "com/example/impronta/impronta/engine/Alignments" = some m.cls := findClass_of_methodNamed Bd.named
  have hnm := (name_of_methodNamed Bd.named Bd.method).1
  have X0 : Stand p l e ({ frames := 0, cells := 0, slots := 0, locals := 0 } : Room) s m #[(.ref p0)] below meth c s₁ [] 0 0 := Stand.of_body Bd
  have e0 : s₁.heap = h0 := by rw [← hh, Bd.state]; rfl
  have N0 := Fr.nil n0
  have pre0 : ∀ t, Steps p.tables e below (s₁.setTop (mkF m 0 #[.val (.ref p0), .unset] [])) t → Steps p.tables e below (s₁.setTop (entryFrame m #[(.ref p0)] 2)) t := fun t k => castTop (ef_6 m p0) k
  obtain ⟨qE, q_direct, q_ownSlots, q_lowest, q_size, q_shift, q_endsByAlignment, q_alignments, q_ends, q_filled, Ve, Va, Vn, Vf, ⟨d0, d1, d2, d3, d4, d5, d6, d7, d8, d9⟩, ⟨g0, g1, g2, g3, g4⟩⟩ := id Hal
  have pre328 : ∀ t, Steps p.tables e below (s₁.setTop (mkF m 4 #[.val (.ref p0), .val (.int (0 : Int32))] [(.ref p0), (.int (0 : Int32))])) t → Steps p.tables e below (s₁.setTop (entryFrame m #[(.ref p0)] 2)) t := by
    intro t kont
    refine pre0 t ?_
    show Steps p.tables e below (s₁.setTop (mkF m 0 #[.val (.ref p0), .unset] [])) _
    refine XS.iconst X0.here hx rfl (hb hby d6_0) ?_
    show Steps p.tables e below (s₁.setTop (mkF m 1 #[.val (.ref p0), .unset] [(.int (0 : Int32))])) _
    refine XS.istoreN X0.here hx rfl (hb hby d6_1) rfl (l' := #[.val (.ref p0), .val (.int (0 : Int32))]) rfl ?_
    show Steps p.tables e below (s₁.setTop (mkF m 2 #[.val (.ref p0), .val (.int (0 : Int32))] [])) _
    refine XS.iloadN X0.here hx rfl (hb hby d6_2) rfl ?_
    show Steps p.tables e below (s₁.setTop (mkF m 3 #[.val (.ref p0), .val (.int (0 : Int32))] [(.int (0 : Int32))])) _
    refine XS.aloadN X0.here hx rfl (hb hby d6_3) rfl rfl ?_
    exact kont
  obtain ⟨T329, X329, e329, st329⟩ := getF X0 hx hZ hown (host := "") (Or.inl (hw _ (List.mem_of_getElem? (i := 44) rfl))) Via.refl e0 q_size (g := (mkF m 4 #[.val (.ref p0), .val (.int (0 : Int32))] [(.ref p0), (.int (0 : Int32))])) rfl rfl (hb hby d6_4)
  have pre330 : ∀ t, Steps p.tables e below (T329.setTop (mkF m 7 #[.val (.ref p0), .val (.int (0 : Int32))] [(.int sz), (.int (0 : Int32))])) t → Steps p.tables e below (s₁.setTop (entryFrame m #[(.ref p0)] 2)) t := fun t kont => pre328 t (st329 _ kont)
  by_cases hc7 : (0 : Int32) < sz
  · have pre331 : ∀ t, Steps p.tables e below (T329.setTop (mkF m 11 #[.val (.ref p0), .val (.int (0 : Int32))] [(.ref p0)])) t → Steps p.tables e below (s₁.setTop (entryFrame m #[(.ref p0)] 2)) t := by
      intro t kont
      refine pre330 t ?_
      show Steps p.tables e below (T329.setTop (mkF m 7 #[.val (.ref p0), .val (.int (0 : Int32))] [(.int sz), (.int (0 : Int32))])) _
      refine XS.icmpNo X329.here hx rfl (hb hby d6_7) rfl (tlt hc7).2.1 ?_
      show Steps p.tables e below (T329.setTop (mkF m 10 #[.val (.ref p0), .val (.int (0 : Int32))] [])) _
      refine XS.aloadN X329.here hx rfl (hb hby d6_10) rfl rfl ?_
      exact kont
    obtain ⟨T332, X332, e332, st332⟩ := getF X329 hx hZ hown (host := "") (Or.inl (hw _ (List.mem_of_getElem? (i := 35) rfl))) Via.refl e329 q_ownSlots (g := (mkF m 11 #[.val (.ref p0), .val (.int (0 : Int32))] [(.ref p0)])) rfl rfl (hb hby d6_11)
    have pre333 : ∀ t, Steps p.tables e below (T332.setTop (mkF m 14 #[.val (.ref p0), .val (.int (0 : Int32))] [(.int (0 : Int32))])) t → Steps p.tables e below (s₁.setTop (entryFrame m #[(.ref p0)] 2)) t := fun t kont => pre331 t (st332 _ kont)
    have pre334 : ∀ t, Steps p.tables e below (T332.setTop (mkF m 33 #[.val (.ref p0), .val (.int (0 : Int32))] [(.ref p0)])) t → Steps p.tables e below (s₁.setTop (entryFrame m #[(.ref p0)] 2)) t := by
      intro t kont
      refine pre333 t ?_
      show Steps p.tables e below (T332.setTop (mkF m 14 #[.val (.ref p0), .val (.int (0 : Int32))] [(.int (0 : Int32))])) _
      refine XS.ifYes X332.here hx rfl (pc0 := 14) (pc' := 32) rfl (hb hby d6_14) rfl ((if0 _ _).trans (teq (by decide)).1) (by decide) (by decide) ?_
      show Steps p.tables e below (T332.setTop (mkF m 32 #[.val (.ref p0), .val (.int (0 : Int32))] [])) _
      refine XS.aloadN X332.here hx rfl (hb hby d6_32) rfl rfl ?_
      exact kont
    obtain ⟨T335, X335, e335, st335⟩ := getF X332 hx hZ hown (host := "") (Or.inl (hw _ (List.mem_of_getElem? (i := 20) rfl))) Via.refl e332 q_alignments (g := (mkF m 33 #[.val (.ref p0), .val (.int (0 : Int32))] [(.ref p0)])) rfl rfl (hb hby d6_33)
    have pre336 : ∀ t, Steps p.tables e below (T335.setTop (mkF m 36 #[.val (.ref p0), .val (.int (0 : Int32))] [(.ref ba)])) t → Steps p.tables e below (s₁.setTop (entryFrame m #[(.ref p0)] 2)) t := fun t kont => pre334 t (st335 _ kont)
    have pre337 : ∀ t, Steps p.tables e below (T335.setTop (mkF m 37 #[.val (.ref p0), .val (.int (0 : Int32))] [(.ref p0), (.ref ba)])) t → Steps p.tables e below (s₁.setTop (entryFrame m #[(.ref p0)] 2)) t := by
      intro t kont
      refine pre336 t ?_
      show Steps p.tables e below (T335.setTop (mkF m 36 #[.val (.ref p0), .val (.int (0 : Int32))] [(.ref ba)])) _
      refine XS.aloadN X335.here hx rfl (hb hby d6_36) rfl rfl ?_
      exact kont
    obtain ⟨T338, X338, e338, st338⟩ := getF X335 hx hZ hown (host := "") (Or.inl (hw _ (List.mem_of_getElem? (i := 26) rfl))) Via.refl e335 q_filled (g := (mkF m 37 #[.val (.ref p0), .val (.int (0 : Int32))] [(.ref p0), (.ref ba)])) rfl rfl (hb hby d6_37)
    have pre339 : ∀ t, Steps p.tables e below (T338.setTop (mkF m 40 #[.val (.ref p0), .val (.int (0 : Int32))] [(.ref bf), (.ref ba)])) t → Steps p.tables e below (s₁.setTop (entryFrame m #[(.ref p0)] 2)) t := fun t kont => pre337 t (st338 _ kont)
    have pre340 : ∀ t, Steps p.tables e below (T338.setTop (mkF m 44 #[.val (.ref p0), .val (.int (0 : Int32))] [(.int (-2147483648 : Int32)), (.int (gf 0)), (.ref ba)])) t → Steps p.tables e below (s₁.setTop (entryFrame m #[(.ref p0)] 2)) t := by
      intro t kont
      refine pre339 t ?_
      show Steps p.tables e below (T338.setTop (mkF m 40 #[.val (.ref p0), .val (.int (0 : Int32))] [(.ref bf), (.ref ba)])) _
      refine XS.iloadN X338.here hx rfl (hb hby d6_40) rfl ?_
      show Steps p.tables e below (T338.setTop (mkF m 41 #[.val (.ref p0), .val (.int (0 : Int32))] [(.int (0 : Int32)), (.ref bf), (.ref ba)])) _
      refine own_ldI X338 hx hZ e338 Vf (k := 0) (by decide) (by decide) (by decide) (fr := (mkF m 41 #[.val (.ref p0), .val (.int (0 : Int32))] [(.int (0 : Int32)), (.ref bf), (.ref ba)])) rfl rfl (hb hby d6_41) _ ?_
      show Steps p.tables e below (T338.setTop (mkF m 42 #[.val (.ref p0), .val (.int (0 : Int32))] [(.int (gf 0)), (.ref ba)])) _
      refine X338.ldcInt hx hown (mvT hZ (hw _ (List.mem_of_getElem? (i := 15) rfl))) (g := (mkF m 42 #[.val (.ref p0), .val (.int (0 : Int32))] [(.int (gf 0)), (.ref ba)])) rfl (hb hby d6_42) _ ?_
      exact kont
    obtain ⟨T341, h341, X341, e341, W341, V341, st341⟩ := own_stI X338 hx hZ e338 Va (k := (gf 0).toNatClampNeg) (hI.2.2 0 (own_iin hzn (by decide) (by decide) hc7)).1 rfl (hI.2.2 0 (own_iin hzn (by decide) (by decide) hc7)).2 (fr := (mkF m 44 #[.val (.ref p0), .val (.int (0 : Int32))] [(.int (-2147483648 : Int32)), (.int (gf 0)), (.ref ba)])) rfl rfl (hb hby d6_44)
    have f341_0 := Exa.wr W341 qE
    have f341_1 := Fld.other W341 q_direct (Or.inl d1)
    have f341_2 := Fld.other W341 q_ownSlots (Or.inl d1)
    have f341_3 := Fld.other W341 q_lowest (Or.inl d1)
    have f341_4 := Fld.other W341 q_size (Or.inl d1)
    have f341_5 := Fld.other W341 q_shift (Or.inl d1)
    have f341_6 := Fld.other W341 q_endsByAlignment (Or.inl d1)
    have f341_7 := Fld.other W341 q_alignments (Or.inl d1)
    have f341_8 := Fld.other W341 q_ends (Or.inl d1)
    have f341_9 := Fld.other W341 q_filled (Or.inl d1)
    have f341_10 := Ve.other W341 d4
    have f341_11 := Vn.other W341 (Ne.symm d7)
    have f341_12 := Vf.other W341 (Ne.symm d8)
    obtain ⟨u44, hu44⟩ : ∃ z : Nat → Int32, z = fun i => if i = (gf 0).toNatClampNeg then (-2147483648 : Int32) else ga i := ⟨_, rfl⟩
    replace V341 : own_arr Z h341 ba .int 16 (fun i => .int (u44 i)) := by rw [hu44]; exact V341
    have Z341 : n0 ≤ h341.size := Nat.le_trans Z0 (Keep.of_wr W341).1
    have N341 := Fr.snoc X341 N0 g2
    have pre342 : ∀ t, Steps p.tables e below (T341.setTop (mkF m 45 #[.val (.ref p0), .val (.int (0 : Int32))] [])) t → Steps p.tables e below (s₁.setTop (entryFrame m #[(.ref p0)] 2)) t := fun t kont => pre340 t (st341 _ kont)
    have pre343 : ∀ t, Steps p.tables e below (T341.setTop (mkF m 46 #[.val (.ref p0), .val (.int (0 : Int32))] [(.ref p0)])) t → Steps p.tables e below (s₁.setTop (entryFrame m #[(.ref p0)] 2)) t := by
      intro t kont
      refine pre342 t ?_
      show Steps p.tables e below (T341.setTop (mkF m 45 #[.val (.ref p0), .val (.int (0 : Int32))] [])) _
      refine XS.aloadN X341.here hx rfl (hb hby d6_45) rfl rfl ?_
      exact kont
    obtain ⟨T344, X344, e344, st344⟩ := getF X341 hx hZ hown (host := "") (Or.inl (hw _ (List.mem_of_getElem? (i := 22) rfl))) Via.refl e341 f341_8 (g := (mkF m 46 #[.val (.ref p0), .val (.int (0 : Int32))] [(.ref p0)])) rfl rfl (hb hby d6_46)
    have pre345 : ∀ t, Steps p.tables e below (T344.setTop (mkF m 49 #[.val (.ref p0), .val (.int (0 : Int32))] [(.ref bn)])) t → Steps p.tables e below (s₁.setTop (entryFrame m #[(.ref p0)] 2)) t := fun t kont => pre343 t (st344 _ kont)
    have pre346 : ∀ t, Steps p.tables e below (T344.setTop (mkF m 50 #[.val (.ref p0), .val (.int (0 : Int32))] [(.ref p0), (.ref bn)])) t → Steps p.tables e below (s₁.setTop (entryFrame m #[(.ref p0)] 2)) t := by
      intro t kont
      refine pre345 t ?_
      show Steps p.tables e below (T344.setTop (mkF m 49 #[.val (.ref p0), .val (.int (0 : Int32))] [(.ref bn)])) _
      refine XS.aloadN X344.here hx rfl (hb hby d6_49) rfl rfl ?_
      exact kont
    obtain ⟨T347, X347, e347, st347⟩ := getF X344 hx hZ hown (host := "") (Or.inl (hw _ (List.mem_of_getElem? (i := 26) rfl))) Via.refl e344 f341_9 (g := (mkF m 50 #[.val (.ref p0), .val (.int (0 : Int32))] [(.ref p0), (.ref bn)])) rfl rfl (hb hby d6_50)
    have pre348 : ∀ t, Steps p.tables e below (T347.setTop (mkF m 53 #[.val (.ref p0), .val (.int (0 : Int32))] [(.ref bf), (.ref bn)])) t → Steps p.tables e below (s₁.setTop (entryFrame m #[(.ref p0)] 2)) t := fun t kont => pre346 t (st347 _ kont)
    have pre349 : ∀ t, Steps p.tables e below (T347.setTop (mkF m 56 #[.val (.ref p0), .val (.int (0 : Int32))] [(.int (0 : Int32)), (.int (gf 0)), (.ref bn)])) t → Steps p.tables e below (s₁.setTop (entryFrame m #[(.ref p0)] 2)) t := by
      intro t kont
      refine pre348 t ?_
      show Steps p.tables e below (T347.setTop (mkF m 53 #[.val (.ref p0), .val (.int (0 : Int32))] [(.ref bf), (.ref bn)])) _
      refine XS.iloadN X347.here hx rfl (hb hby d6_53) rfl ?_
      show Steps p.tables e below (T347.setTop (mkF m 54 #[.val (.ref p0), .val (.int (0 : Int32))] [(.int (0 : Int32)), (.ref bf), (.ref bn)])) _
      refine own_ldI X347 hx hZ e347 f341_12 (k := 0) (by decide) (by decide) (by decide) (fr := (mkF m 54 #[.val (.ref p0), .val (.int (0 : Int32))] [(.int (0 : Int32)), (.ref bf), (.ref bn)])) rfl rfl (hb hby d6_54) _ ?_
      show Steps p.tables e below (T347.setTop (mkF m 55 #[.val (.ref p0), .val (.int (0 : Int32))] [(.int (gf 0)), (.ref bn)])) _
      refine XS.iconst X347.here hx rfl (hb hby d6_55) ?_
      exact kont
    obtain ⟨T350, h350, X350, e350, W350, V350, st350⟩ := own_stI X347 hx hZ e347 f341_11 (k := (gf 0).toNatClampNeg) (hI.2.2 0 (own_iin hzn (by decide) (by decide) hc7)).1 rfl (hI.2.2 0 (own_iin hzn (by decide) (by decide) hc7)).2 (fr := (mkF m 56 #[.val (.ref p0), .val (.int (0 : Int32))] [(.int (0 : Int32)), (.int (gf 0)), (.ref bn)])) rfl rfl (hb hby d6_56)
    have f350_0 := Exa.wr W350 f341_0
    have f350_1 := Fld.other W350 f341_1 (Or.inl d2)
    have f350_2 := Fld.other W350 f341_2 (Or.inl d2)
    have f350_3 := Fld.other W350 f341_3 (Or.inl d2)
    have f350_4 := Fld.other W350 f341_4 (Or.inl d2)
    have f350_5 := Fld.other W350 f341_5 (Or.inl d2)
    have f350_6 := Fld.other W350 f341_6 (Or.inl d2)
    have f350_7 := Fld.other W350 f341_7 (Or.inl d2)
    have f350_8 := Fld.other W350 f341_8 (Or.inl d2)
    have f350_9 := Fld.other W350 f341_9 (Or.inl d2)
    have f350_10 := f341_10.other W350 d5
    have f350_11 := f341_12.other W350 (Ne.symm d9)
    have f350_12 := V341.other W350 d7
    obtain ⟨u56, hu56⟩ : ∃ z : Nat → Int32, z = fun i => if i = (gf 0).toNatClampNeg then (0 : Int32) else gn i := ⟨_, rfl⟩
    replace V350 : own_arr Z h350 bn .int 16 (fun i => .int (u56 i)) := by rw [hu56]; exact V350
    have Z350 : n0 ≤ h350.size := Nat.le_trans Z341 (Keep.of_wr W350).1
    have N350 := Fr.snoc X350 N341 g3
    have pre351 : ∀ t, Steps p.tables e below (T350.setTop (mkF m 57 #[.val (.ref p0), .val (.int (0 : Int32))] [])) t → Steps p.tables e below (s₁.setTop (entryFrame m #[(.ref p0)] 2)) t := fun t kont => pre349 t (st350 _ kont)
    have pre352 : ∀ t, Steps p.tables e below (T350.setTop (mkF m 4 #[.val (.ref p0), .val (.int (1 : Int32))] [(.ref p0), (.int (1 : Int32))])) t → Steps p.tables e below (s₁.setTop (entryFrame m #[(.ref p0)] 2)) t := by
      intro t kont
      refine pre351 t ?_
      show Steps p.tables e below (T350.setTop (mkF m 57 #[.val (.ref p0), .val (.int (0 : Int32))] [])) _
      refine XS.iinc X350.here hx rfl (hb hby d6_57) rfl (l' := #[.val (.ref p0), .val (.int (1 : Int32))]) rfl ?_
      show Steps p.tables e below (T350.setTop (mkF m 60 #[.val (.ref p0), .val (.int (1 : Int32))] [])) _
      refine XS.goto X350.here hx rfl (pc0 := 60) (pc' := 2) rfl (hb hby d6_60) (by decide) (by decide) ?_
      show Steps p.tables e below (T350.setTop (mkF m 2 #[.val (.ref p0), .val (.int (1 : Int32))] [])) _
      refine XS.iloadN X350.here hx rfl (hb hby d6_2) rfl ?_
      show Steps p.tables e below (T350.setTop (mkF m 3 #[.val (.ref p0), .val (.int (1 : Int32))] [(.int (1 : Int32))])) _
      refine XS.aloadN X350.here hx rfl (hb hby d6_3) rfl rfl ?_
      exact kont
    obtain ⟨T353, X353, e353, st353⟩ := getF X350 hx hZ hown (host := "") (Or.inl (hw _ (List.mem_of_getElem? (i := 44) rfl))) Via.refl e350 f350_4 (g := (mkF m 4 #[.val (.ref p0), .val (.int (1 : Int32))] [(.ref p0), (.int (1 : Int32))])) rfl rfl (hb hby d6_4)
    have pre354 : ∀ t, Steps p.tables e below (T353.setTop (mkF m 7 #[.val (.ref p0), .val (.int (1 : Int32))] [(.int sz), (.int (1 : Int32))])) t → Steps p.tables e below (s₁.setTop (entryFrame m #[(.ref p0)] 2)) t := fun t kont => pre352 t (st353 _ kont)
    by_cases hc7' : (1 : Int32) < sz
    · have pre355 : ∀ t, Steps p.tables e below (T353.setTop (mkF m 11 #[.val (.ref p0), .val (.int (1 : Int32))] [(.ref p0)])) t → Steps p.tables e below (s₁.setTop (entryFrame m #[(.ref p0)] 2)) t := by
        intro t kont
        refine pre354 t ?_
        show Steps p.tables e below (T353.setTop (mkF m 7 #[.val (.ref p0), .val (.int (1 : Int32))] [(.int sz), (.int (1 : Int32))])) _
        refine XS.icmpNo X353.here hx rfl (hb hby d6_7) rfl (tlt hc7').2.1 ?_
        show Steps p.tables e below (T353.setTop (mkF m 10 #[.val (.ref p0), .val (.int (1 : Int32))] [])) _
        refine XS.aloadN X353.here hx rfl (hb hby d6_10) rfl rfl ?_
        exact kont
      obtain ⟨T356, X356, e356, st356⟩ := getF X353 hx hZ hown (host := "") (Or.inl (hw _ (List.mem_of_getElem? (i := 35) rfl))) Via.refl e353 f350_2 (g := (mkF m 11 #[.val (.ref p0), .val (.int (1 : Int32))] [(.ref p0)])) rfl rfl (hb hby d6_11)
      have pre357 : ∀ t, Steps p.tables e below (T356.setTop (mkF m 14 #[.val (.ref p0), .val (.int (1 : Int32))] [(.int (0 : Int32))])) t → Steps p.tables e below (s₁.setTop (entryFrame m #[(.ref p0)] 2)) t := fun t kont => pre355 t (st356 _ kont)
      have pre358 : ∀ t, Steps p.tables e below (T356.setTop (mkF m 33 #[.val (.ref p0), .val (.int (1 : Int32))] [(.ref p0)])) t → Steps p.tables e below (s₁.setTop (entryFrame m #[(.ref p0)] 2)) t := by
        intro t kont
        refine pre357 t ?_
        show Steps p.tables e below (T356.setTop (mkF m 14 #[.val (.ref p0), .val (.int (1 : Int32))] [(.int (0 : Int32))])) _
        refine XS.ifYes X356.here hx rfl (pc0 := 14) (pc' := 32) rfl (hb hby d6_14) rfl ((if0 _ _).trans (teq (by decide)).1) (by decide) (by decide) ?_
        show Steps p.tables e below (T356.setTop (mkF m 32 #[.val (.ref p0), .val (.int (1 : Int32))] [])) _
        refine XS.aloadN X356.here hx rfl (hb hby d6_32) rfl rfl ?_
        exact kont
      obtain ⟨T359, X359, e359, st359⟩ := getF X356 hx hZ hown (host := "") (Or.inl (hw _ (List.mem_of_getElem? (i := 20) rfl))) Via.refl e356 f350_7 (g := (mkF m 33 #[.val (.ref p0), .val (.int (1 : Int32))] [(.ref p0)])) rfl rfl (hb hby d6_33)
      have pre360 : ∀ t, Steps p.tables e below (T359.setTop (mkF m 36 #[.val (.ref p0), .val (.int (1 : Int32))] [(.ref ba)])) t → Steps p.tables e below (s₁.setTop (entryFrame m #[(.ref p0)] 2)) t := fun t kont => pre358 t (st359 _ kont)
      have pre361 : ∀ t, Steps p.tables e below (T359.setTop (mkF m 37 #[.val (.ref p0), .val (.int (1 : Int32))] [(.ref p0), (.ref ba)])) t → Steps p.tables e below (s₁.setTop (entryFrame m #[(.ref p0)] 2)) t := by
        intro t kont
        refine pre360 t ?_
        show Steps p.tables e below (T359.setTop (mkF m 36 #[.val (.ref p0), .val (.int (1 : Int32))] [(.ref ba)])) _
        refine XS.aloadN X359.here hx rfl (hb hby d6_36) rfl rfl ?_
        exact kont
      obtain ⟨T362, X362, e362, st362⟩ := getF X359 hx hZ hown (host := "") (Or.inl (hw _ (List.mem_of_getElem? (i := 26) rfl))) Via.refl e359 f350_9 (g := (mkF m 37 #[.val (.ref p0), .val (.int (1 : Int32))] [(.ref p0), (.ref ba)])) rfl rfl (hb hby d6_37)
      have pre363 : ∀ t, Steps p.tables e below (T362.setTop (mkF m 40 #[.val (.ref p0), .val (.int (1 : Int32))] [(.ref bf), (.ref ba)])) t → Steps p.tables e below (s₁.setTop (entryFrame m #[(.ref p0)] 2)) t := fun t kont => pre361 t (st362 _ kont)
      have pre364 : ∀ t, Steps p.tables e below (T362.setTop (mkF m 44 #[.val (.ref p0), .val (.int (1 : Int32))] [(.int (-2147483648 : Int32)), (.int (gf 1)), (.ref ba)])) t → Steps p.tables e below (s₁.setTop (entryFrame m #[(.ref p0)] 2)) t := by
        intro t kont
        refine pre363 t ?_
        show Steps p.tables e below (T362.setTop (mkF m 40 #[.val (.ref p0), .val (.int (1 : Int32))] [(.ref bf), (.ref ba)])) _
        refine XS.iloadN X362.here hx rfl (hb hby d6_40) rfl ?_
        show Steps p.tables e below (T362.setTop (mkF m 41 #[.val (.ref p0), .val (.int (1 : Int32))] [(.int (1 : Int32)), (.ref bf), (.ref ba)])) _
        refine own_ldI X362 hx hZ e362 f350_11 (k := 1) (by decide) (by decide) (by decide) (fr := (mkF m 41 #[.val (.ref p0), .val (.int (1 : Int32))] [(.int (1 : Int32)), (.ref bf), (.ref ba)])) rfl rfl (hb hby d6_41) _ ?_
        show Steps p.tables e below (T362.setTop (mkF m 42 #[.val (.ref p0), .val (.int (1 : Int32))] [(.int (gf 1)), (.ref ba)])) _
        refine X362.ldcInt hx hown (mvT hZ (hw _ (List.mem_of_getElem? (i := 15) rfl))) (g := (mkF m 42 #[.val (.ref p0), .val (.int (1 : Int32))] [(.int (gf 1)), (.ref ba)])) rfl (hb hby d6_42) _ ?_
        exact kont
      obtain ⟨T365, h365, X365, e365, W365, V365, st365⟩ := own_stI X362 hx hZ e362 f350_12 (k := (gf 1).toNatClampNeg) (hI.2.2 1 (own_iin hzn (by decide) (by decide) hc7')).1 rfl (hI.2.2 1 (own_iin hzn (by decide) (by decide) hc7')).2 (fr := (mkF m 44 #[.val (.ref p0), .val (.int (1 : Int32))] [(.int (-2147483648 : Int32)), (.int (gf 1)), (.ref ba)])) rfl rfl (hb hby d6_44)
      have f365_0 := Exa.wr W365 f350_0
      have f365_1 := Fld.other W365 f350_1 (Or.inl d1)
      have f365_2 := Fld.other W365 f350_2 (Or.inl d1)
      have f365_3 := Fld.other W365 f350_3 (Or.inl d1)
      have f365_4 := Fld.other W365 f350_4 (Or.inl d1)
      have f365_5 := Fld.other W365 f350_5 (Or.inl d1)
      have f365_6 := Fld.other W365 f350_6 (Or.inl d1)
      have f365_7 := Fld.other W365 f350_7 (Or.inl d1)
      have f365_8 := Fld.other W365 f350_8 (Or.inl d1)
      have f365_9 := Fld.other W365 f350_9 (Or.inl d1)
      have f365_10 := f350_10.other W365 d4
      have f365_11 := f350_11.other W365 (Ne.symm d8)
      have f365_12 := V350.other W365 (Ne.symm d7)
      obtain ⟨u44', hu44'⟩ : ∃ z : Nat → Int32, z = fun i => if i = (gf 1).toNatClampNeg then (-2147483648 : Int32) else u44 i := ⟨_, rfl⟩
      replace V365 : own_arr Z h365 ba .int 16 (fun i => .int (u44' i)) := by rw [hu44']; exact V365
      have Z365 : n0 ≤ h365.size := Nat.le_trans Z350 (Keep.of_wr W365).1
      have N365 := Fr.snoc X365 N350 g2
      have pre366 : ∀ t, Steps p.tables e below (T365.setTop (mkF m 45 #[.val (.ref p0), .val (.int (1 : Int32))] [])) t → Steps p.tables e below (s₁.setTop (entryFrame m #[(.ref p0)] 2)) t := fun t kont => pre364 t (st365 _ kont)
      have pre367 : ∀ t, Steps p.tables e below (T365.setTop (mkF m 46 #[.val (.ref p0), .val (.int (1 : Int32))] [(.ref p0)])) t → Steps p.tables e below (s₁.setTop (entryFrame m #[(.ref p0)] 2)) t := by
        intro t kont
        refine pre366 t ?_
        show Steps p.tables e below (T365.setTop (mkF m 45 #[.val (.ref p0), .val (.int (1 : Int32))] [])) _
        refine XS.aloadN X365.here hx rfl (hb hby d6_45) rfl rfl ?_
        exact kont
      obtain ⟨T368, X368, e368, st368⟩ := getF X365 hx hZ hown (host := "") (Or.inl (hw _ (List.mem_of_getElem? (i := 22) rfl))) Via.refl e365 f365_8 (g := (mkF m 46 #[.val (.ref p0), .val (.int (1 : Int32))] [(.ref p0)])) rfl rfl (hb hby d6_46)
      have pre369 : ∀ t, Steps p.tables e below (T368.setTop (mkF m 49 #[.val (.ref p0), .val (.int (1 : Int32))] [(.ref bn)])) t → Steps p.tables e below (s₁.setTop (entryFrame m #[(.ref p0)] 2)) t := fun t kont => pre367 t (st368 _ kont)
      have pre370 : ∀ t, Steps p.tables e below (T368.setTop (mkF m 50 #[.val (.ref p0), .val (.int (1 : Int32))] [(.ref p0), (.ref bn)])) t → Steps p.tables e below (s₁.setTop (entryFrame m #[(.ref p0)] 2)) t := by
        intro t kont
        refine pre369 t ?_
        show Steps p.tables e below (T368.setTop (mkF m 49 #[.val (.ref p0), .val (.int (1 : Int32))] [(.ref bn)])) _
        refine XS.aloadN X368.here hx rfl (hb hby d6_49) rfl rfl ?_
        exact kont
      obtain ⟨T371, X371, e371, st371⟩ := getF X368 hx hZ hown (host := "") (Or.inl (hw _ (List.mem_of_getElem? (i := 26) rfl))) Via.refl e368 f365_9 (g := (mkF m 50 #[.val (.ref p0), .val (.int (1 : Int32))] [(.ref p0), (.ref bn)])) rfl rfl (hb hby d6_50)
      have pre372 : ∀ t, Steps p.tables e below (T371.setTop (mkF m 53 #[.val (.ref p0), .val (.int (1 : Int32))] [(.ref bf), (.ref bn)])) t → Steps p.tables e below (s₁.setTop (entryFrame m #[(.ref p0)] 2)) t := fun t kont => pre370 t (st371 _ kont)
      have pre373 : ∀ t, Steps p.tables e below (T371.setTop (mkF m 56 #[.val (.ref p0), .val (.int (1 : Int32))] [(.int (0 : Int32)), (.int (gf 1)), (.ref bn)])) t → Steps p.tables e below (s₁.setTop (entryFrame m #[(.ref p0)] 2)) t := by
        intro t kont
        refine pre372 t ?_
        show Steps p.tables e below (T371.setTop (mkF m 53 #[.val (.ref p0), .val (.int (1 : Int32))] [(.ref bf), (.ref bn)])) _
        refine XS.iloadN X371.here hx rfl (hb hby d6_53) rfl ?_
        show Steps p.tables e below (T371.setTop (mkF m 54 #[.val (.ref p0), .val (.int (1 : Int32))] [(.int (1 : Int32)), (.ref bf), (.ref bn)])) _
        refine own_ldI X371 hx hZ e371 f365_11 (k := 1) (by decide) (by decide) (by decide) (fr := (mkF m 54 #[.val (.ref p0), .val (.int (1 : Int32))] [(.int (1 : Int32)), (.ref bf), (.ref bn)])) rfl rfl (hb hby d6_54) _ ?_
        show Steps p.tables e below (T371.setTop (mkF m 55 #[.val (.ref p0), .val (.int (1 : Int32))] [(.int (gf 1)), (.ref bn)])) _
        refine XS.iconst X371.here hx rfl (hb hby d6_55) ?_
        exact kont
      obtain ⟨T374, h374, X374, e374, W374, V374, st374⟩ := own_stI X371 hx hZ e371 f365_12 (k := (gf 1).toNatClampNeg) (hI.2.2 1 (own_iin hzn (by decide) (by decide) hc7')).1 rfl (hI.2.2 1 (own_iin hzn (by decide) (by decide) hc7')).2 (fr := (mkF m 56 #[.val (.ref p0), .val (.int (1 : Int32))] [(.int (0 : Int32)), (.int (gf 1)), (.ref bn)])) rfl rfl (hb hby d6_56)
      have f374_0 := Exa.wr W374 f365_0
      have f374_1 := Fld.other W374 f365_1 (Or.inl d2)
      have f374_2 := Fld.other W374 f365_2 (Or.inl d2)
      have f374_3 := Fld.other W374 f365_3 (Or.inl d2)
      have f374_4 := Fld.other W374 f365_4 (Or.inl d2)
      have f374_5 := Fld.other W374 f365_5 (Or.inl d2)
      have f374_6 := Fld.other W374 f365_6 (Or.inl d2)
      have f374_7 := Fld.other W374 f365_7 (Or.inl d2)
      have f374_8 := Fld.other W374 f365_8 (Or.inl d2)
      have f374_9 := Fld.other W374 f365_9 (Or.inl d2)
      have f374_10 := f365_10.other W374 d5
      have f374_11 := f365_11.other W374 (Ne.symm d9)
      have f374_12 := V365.other W374 d7
      obtain ⟨u56', hu56'⟩ : ∃ z : Nat → Int32, z = fun i => if i = (gf 1).toNatClampNeg then (0 : Int32) else u56 i := ⟨_, rfl⟩
      replace V374 : own_arr Z h374 bn .int 16 (fun i => .int (u56' i)) := by rw [hu56']; exact V374
      have Z374 : n0 ≤ h374.size := Nat.le_trans Z365 (Keep.of_wr W374).1
      have N374 := Fr.snoc X374 N365 g3
      have pre375 : ∀ t, Steps p.tables e below (T374.setTop (mkF m 57 #[.val (.ref p0), .val (.int (1 : Int32))] [])) t → Steps p.tables e below (s₁.setTop (entryFrame m #[(.ref p0)] 2)) t := fun t kont => pre373 t (st374 _ kont)
      have pre376 : ∀ t, Steps p.tables e below (T374.setTop (mkF m 4 #[.val (.ref p0), .val (.int (2 : Int32))] [(.ref p0), (.int (2 : Int32))])) t → Steps p.tables e below (s₁.setTop (entryFrame m #[(.ref p0)] 2)) t := by
        intro t kont
        refine pre375 t ?_
        show Steps p.tables e below (T374.setTop (mkF m 57 #[.val (.ref p0), .val (.int (1 : Int32))] [])) _
        refine XS.iinc X374.here hx rfl (hb hby d6_57) rfl (l' := #[.val (.ref p0), .val (.int (2 : Int32))]) rfl ?_
        show Steps p.tables e below (T374.setTop (mkF m 60 #[.val (.ref p0), .val (.int (2 : Int32))] [])) _
        refine XS.goto X374.here hx rfl (pc0 := 60) (pc' := 2) rfl (hb hby d6_60) (by decide) (by decide) ?_
        show Steps p.tables e below (T374.setTop (mkF m 2 #[.val (.ref p0), .val (.int (2 : Int32))] [])) _
        refine XS.iloadN X374.here hx rfl (hb hby d6_2) rfl ?_
        show Steps p.tables e below (T374.setTop (mkF m 3 #[.val (.ref p0), .val (.int (2 : Int32))] [(.int (2 : Int32))])) _
        refine XS.aloadN X374.here hx rfl (hb hby d6_3) rfl rfl ?_
        exact kont
      obtain ⟨T377, X377, e377, st377⟩ := getF X374 hx hZ hown (host := "") (Or.inl (hw _ (List.mem_of_getElem? (i := 44) rfl))) Via.refl e374 f374_4 (g := (mkF m 4 #[.val (.ref p0), .val (.int (2 : Int32))] [(.ref p0), (.int (2 : Int32))])) rfl rfl (hb hby d6_4)
      have pre378 : ∀ t, Steps p.tables e below (T377.setTop (mkF m 7 #[.val (.ref p0), .val (.int (2 : Int32))] [(.int sz), (.int (2 : Int32))])) t → Steps p.tables e below (s₁.setTop (entryFrame m #[(.ref p0)] 2)) t := fun t kont => pre376 t (st377 _ kont)
      by_cases hc7'' : (2 : Int32) < sz
      · have pre379 : ∀ t, Steps p.tables e below (T377.setTop (mkF m 11 #[.val (.ref p0), .val (.int (2 : Int32))] [(.ref p0)])) t → Steps p.tables e below (s₁.setTop (entryFrame m #[(.ref p0)] 2)) t := by
          intro t kont
          refine pre378 t ?_
          show Steps p.tables e below (T377.setTop (mkF m 7 #[.val (.ref p0), .val (.int (2 : Int32))] [(.int sz), (.int (2 : Int32))])) _
          refine XS.icmpNo X377.here hx rfl (hb hby d6_7) rfl (tlt hc7'').2.1 ?_
          show Steps p.tables e below (T377.setTop (mkF m 10 #[.val (.ref p0), .val (.int (2 : Int32))] [])) _
          refine XS.aloadN X377.here hx rfl (hb hby d6_10) rfl rfl ?_
          exact kont
        obtain ⟨T380, X380, e380, st380⟩ := getF X377 hx hZ hown (host := "") (Or.inl (hw _ (List.mem_of_getElem? (i := 35) rfl))) Via.refl e377 f374_2 (g := (mkF m 11 #[.val (.ref p0), .val (.int (2 : Int32))] [(.ref p0)])) rfl rfl (hb hby d6_11)
        have pre381 : ∀ t, Steps p.tables e below (T380.setTop (mkF m 14 #[.val (.ref p0), .val (.int (2 : Int32))] [(.int (0 : Int32))])) t → Steps p.tables e below (s₁.setTop (entryFrame m #[(.ref p0)] 2)) t := fun t kont => pre379 t (st380 _ kont)
        have pre382 : ∀ t, Steps p.tables e below (T380.setTop (mkF m 33 #[.val (.ref p0), .val (.int (2 : Int32))] [(.ref p0)])) t → Steps p.tables e below (s₁.setTop (entryFrame m #[(.ref p0)] 2)) t := by
          intro t kont
          refine pre381 t ?_
          show Steps p.tables e below (T380.setTop (mkF m 14 #[.val (.ref p0), .val (.int (2 : Int32))] [(.int (0 : Int32))])) _
          refine XS.ifYes X380.here hx rfl (pc0 := 14) (pc' := 32) rfl (hb hby d6_14) rfl ((if0 _ _).trans (teq (by decide)).1) (by decide) (by decide) ?_
          show Steps p.tables e below (T380.setTop (mkF m 32 #[.val (.ref p0), .val (.int (2 : Int32))] [])) _
          refine XS.aloadN X380.here hx rfl (hb hby d6_32) rfl rfl ?_
          exact kont
        obtain ⟨T383, X383, e383, st383⟩ := getF X380 hx hZ hown (host := "") (Or.inl (hw _ (List.mem_of_getElem? (i := 20) rfl))) Via.refl e380 f374_7 (g := (mkF m 33 #[.val (.ref p0), .val (.int (2 : Int32))] [(.ref p0)])) rfl rfl (hb hby d6_33)
        have pre384 : ∀ t, Steps p.tables e below (T383.setTop (mkF m 36 #[.val (.ref p0), .val (.int (2 : Int32))] [(.ref ba)])) t → Steps p.tables e below (s₁.setTop (entryFrame m #[(.ref p0)] 2)) t := fun t kont => pre382 t (st383 _ kont)
        have pre385 : ∀ t, Steps p.tables e below (T383.setTop (mkF m 37 #[.val (.ref p0), .val (.int (2 : Int32))] [(.ref p0), (.ref ba)])) t → Steps p.tables e below (s₁.setTop (entryFrame m #[(.ref p0)] 2)) t := by
          intro t kont
          refine pre384 t ?_
          show Steps p.tables e below (T383.setTop (mkF m 36 #[.val (.ref p0), .val (.int (2 : Int32))] [(.ref ba)])) _
          refine XS.aloadN X383.here hx rfl (hb hby d6_36) rfl rfl ?_
          exact kont
        obtain ⟨T386, X386, e386, st386⟩ := getF X383 hx hZ hown (host := "") (Or.inl (hw _ (List.mem_of_getElem? (i := 26) rfl))) Via.refl e383 f374_9 (g := (mkF m 37 #[.val (.ref p0), .val (.int (2 : Int32))] [(.ref p0), (.ref ba)])) rfl rfl (hb hby d6_37)
        have pre387 : ∀ t, Steps p.tables e below (T386.setTop (mkF m 40 #[.val (.ref p0), .val (.int (2 : Int32))] [(.ref bf), (.ref ba)])) t → Steps p.tables e below (s₁.setTop (entryFrame m #[(.ref p0)] 2)) t := fun t kont => pre385 t (st386 _ kont)
        have pre388 : ∀ t, Steps p.tables e below (T386.setTop (mkF m 44 #[.val (.ref p0), .val (.int (2 : Int32))] [(.int (-2147483648 : Int32)), (.int (gf 2)), (.ref ba)])) t → Steps p.tables e below (s₁.setTop (entryFrame m #[(.ref p0)] 2)) t := by
          intro t kont
          refine pre387 t ?_
          show Steps p.tables e below (T386.setTop (mkF m 40 #[.val (.ref p0), .val (.int (2 : Int32))] [(.ref bf), (.ref ba)])) _
          refine XS.iloadN X386.here hx rfl (hb hby d6_40) rfl ?_
          show Steps p.tables e below (T386.setTop (mkF m 41 #[.val (.ref p0), .val (.int (2 : Int32))] [(.int (2 : Int32)), (.ref bf), (.ref ba)])) _
          refine own_ldI X386 hx hZ e386 f374_11 (k := 2) (by decide) (by decide) (by decide) (fr := (mkF m 41 #[.val (.ref p0), .val (.int (2 : Int32))] [(.int (2 : Int32)), (.ref bf), (.ref ba)])) rfl rfl (hb hby d6_41) _ ?_
          show Steps p.tables e below (T386.setTop (mkF m 42 #[.val (.ref p0), .val (.int (2 : Int32))] [(.int (gf 2)), (.ref ba)])) _
          refine X386.ldcInt hx hown (mvT hZ (hw _ (List.mem_of_getElem? (i := 15) rfl))) (g := (mkF m 42 #[.val (.ref p0), .val (.int (2 : Int32))] [(.int (gf 2)), (.ref ba)])) rfl (hb hby d6_42) _ ?_
          exact kont
        obtain ⟨T389, h389, X389, e389, W389, V389, st389⟩ := own_stI X386 hx hZ e386 f374_12 (k := (gf 2).toNatClampNeg) (hI.2.2 2 (own_iin hzn (by decide) (by decide) hc7'')).1 rfl (hI.2.2 2 (own_iin hzn (by decide) (by decide) hc7'')).2 (fr := (mkF m 44 #[.val (.ref p0), .val (.int (2 : Int32))] [(.int (-2147483648 : Int32)), (.int (gf 2)), (.ref ba)])) rfl rfl (hb hby d6_44)
        have f389_0 := Exa.wr W389 f374_0
        have f389_1 := Fld.other W389 f374_1 (Or.inl d1)
        have f389_2 := Fld.other W389 f374_2 (Or.inl d1)
        have f389_3 := Fld.other W389 f374_3 (Or.inl d1)
        have f389_4 := Fld.other W389 f374_4 (Or.inl d1)
        have f389_5 := Fld.other W389 f374_5 (Or.inl d1)
        have f389_6 := Fld.other W389 f374_6 (Or.inl d1)
        have f389_7 := Fld.other W389 f374_7 (Or.inl d1)
        have f389_8 := Fld.other W389 f374_8 (Or.inl d1)
        have f389_9 := Fld.other W389 f374_9 (Or.inl d1)
        have f389_10 := f374_10.other W389 d4
        have f389_11 := f374_11.other W389 (Ne.symm d8)
        have f389_12 := V374.other W389 (Ne.symm d7)
        obtain ⟨u44'', hu44''⟩ : ∃ z : Nat → Int32, z = fun i => if i = (gf 2).toNatClampNeg then (-2147483648 : Int32) else u44' i := ⟨_, rfl⟩
        replace V389 : own_arr Z h389 ba .int 16 (fun i => .int (u44'' i)) := by rw [hu44'']; exact V389
        have Z389 : n0 ≤ h389.size := Nat.le_trans Z374 (Keep.of_wr W389).1
        have N389 := Fr.snoc X389 N374 g2
        have pre390 : ∀ t, Steps p.tables e below (T389.setTop (mkF m 45 #[.val (.ref p0), .val (.int (2 : Int32))] [])) t → Steps p.tables e below (s₁.setTop (entryFrame m #[(.ref p0)] 2)) t := fun t kont => pre388 t (st389 _ kont)
        have pre391 : ∀ t, Steps p.tables e below (T389.setTop (mkF m 46 #[.val (.ref p0), .val (.int (2 : Int32))] [(.ref p0)])) t → Steps p.tables e below (s₁.setTop (entryFrame m #[(.ref p0)] 2)) t := by
          intro t kont
          refine pre390 t ?_
          show Steps p.tables e below (T389.setTop (mkF m 45 #[.val (.ref p0), .val (.int (2 : Int32))] [])) _
          refine XS.aloadN X389.here hx rfl (hb hby d6_45) rfl rfl ?_
          exact kont
        obtain ⟨T392, X392, e392, st392⟩ := getF X389 hx hZ hown (host := "") (Or.inl (hw _ (List.mem_of_getElem? (i := 22) rfl))) Via.refl e389 f389_8 (g := (mkF m 46 #[.val (.ref p0), .val (.int (2 : Int32))] [(.ref p0)])) rfl rfl (hb hby d6_46)
        have pre393 : ∀ t, Steps p.tables e below (T392.setTop (mkF m 49 #[.val (.ref p0), .val (.int (2 : Int32))] [(.ref bn)])) t → Steps p.tables e below (s₁.setTop (entryFrame m #[(.ref p0)] 2)) t := fun t kont => pre391 t (st392 _ kont)
        have pre394 : ∀ t, Steps p.tables e below (T392.setTop (mkF m 50 #[.val (.ref p0), .val (.int (2 : Int32))] [(.ref p0), (.ref bn)])) t → Steps p.tables e below (s₁.setTop (entryFrame m #[(.ref p0)] 2)) t := by
          intro t kont
          refine pre393 t ?_
          show Steps p.tables e below (T392.setTop (mkF m 49 #[.val (.ref p0), .val (.int (2 : Int32))] [(.ref bn)])) _
          refine XS.aloadN X392.here hx rfl (hb hby d6_49) rfl rfl ?_
          exact kont
        obtain ⟨T395, X395, e395, st395⟩ := getF X392 hx hZ hown (host := "") (Or.inl (hw _ (List.mem_of_getElem? (i := 26) rfl))) Via.refl e392 f389_9 (g := (mkF m 50 #[.val (.ref p0), .val (.int (2 : Int32))] [(.ref p0), (.ref bn)])) rfl rfl (hb hby d6_50)
        have pre396 : ∀ t, Steps p.tables e below (T395.setTop (mkF m 53 #[.val (.ref p0), .val (.int (2 : Int32))] [(.ref bf), (.ref bn)])) t → Steps p.tables e below (s₁.setTop (entryFrame m #[(.ref p0)] 2)) t := fun t kont => pre394 t (st395 _ kont)
        have pre397 : ∀ t, Steps p.tables e below (T395.setTop (mkF m 56 #[.val (.ref p0), .val (.int (2 : Int32))] [(.int (0 : Int32)), (.int (gf 2)), (.ref bn)])) t → Steps p.tables e below (s₁.setTop (entryFrame m #[(.ref p0)] 2)) t := by
          intro t kont
          refine pre396 t ?_
          show Steps p.tables e below (T395.setTop (mkF m 53 #[.val (.ref p0), .val (.int (2 : Int32))] [(.ref bf), (.ref bn)])) _
          refine XS.iloadN X395.here hx rfl (hb hby d6_53) rfl ?_
          show Steps p.tables e below (T395.setTop (mkF m 54 #[.val (.ref p0), .val (.int (2 : Int32))] [(.int (2 : Int32)), (.ref bf), (.ref bn)])) _
          refine own_ldI X395 hx hZ e395 f389_11 (k := 2) (by decide) (by decide) (by decide) (fr := (mkF m 54 #[.val (.ref p0), .val (.int (2 : Int32))] [(.int (2 : Int32)), (.ref bf), (.ref bn)])) rfl rfl (hb hby d6_54) _ ?_
          show Steps p.tables e below (T395.setTop (mkF m 55 #[.val (.ref p0), .val (.int (2 : Int32))] [(.int (gf 2)), (.ref bn)])) _
          refine XS.iconst X395.here hx rfl (hb hby d6_55) ?_
          exact kont
        obtain ⟨T398, h398, X398, e398, W398, V398, st398⟩ := own_stI X395 hx hZ e395 f389_12 (k := (gf 2).toNatClampNeg) (hI.2.2 2 (own_iin hzn (by decide) (by decide) hc7'')).1 rfl (hI.2.2 2 (own_iin hzn (by decide) (by decide) hc7'')).2 (fr := (mkF m 56 #[.val (.ref p0), .val (.int (2 : Int32))] [(.int (0 : Int32)), (.int (gf 2)), (.ref bn)])) rfl rfl (hb hby d6_56)
        have f398_0 := Exa.wr W398 f389_0
        have f398_1 := Fld.other W398 f389_1 (Or.inl d2)
        have f398_2 := Fld.other W398 f389_2 (Or.inl d2)
        have f398_3 := Fld.other W398 f389_3 (Or.inl d2)
        have f398_4 := Fld.other W398 f389_4 (Or.inl d2)
        have f398_5 := Fld.other W398 f389_5 (Or.inl d2)
        have f398_6 := Fld.other W398 f389_6 (Or.inl d2)
        have f398_7 := Fld.other W398 f389_7 (Or.inl d2)
        have f398_8 := Fld.other W398 f389_8 (Or.inl d2)
        have f398_9 := Fld.other W398 f389_9 (Or.inl d2)
        have f398_10 := f389_10.other W398 d5
        have f398_11 := f389_11.other W398 (Ne.symm d9)
        have f398_12 := V389.other W398 d7
        obtain ⟨u56'', hu56''⟩ : ∃ z : Nat → Int32, z = fun i => if i = (gf 2).toNatClampNeg then (0 : Int32) else u56' i := ⟨_, rfl⟩
        replace V398 : own_arr Z h398 bn .int 16 (fun i => .int (u56'' i)) := by rw [hu56'']; exact V398
        have Z398 : n0 ≤ h398.size := Nat.le_trans Z389 (Keep.of_wr W398).1
        have N398 := Fr.snoc X398 N389 g3
        have pre399 : ∀ t, Steps p.tables e below (T398.setTop (mkF m 57 #[.val (.ref p0), .val (.int (2 : Int32))] [])) t → Steps p.tables e below (s₁.setTop (entryFrame m #[(.ref p0)] 2)) t := fun t kont => pre397 t (st398 _ kont)
        have pre400 : ∀ t, Steps p.tables e below (T398.setTop (mkF m 4 #[.val (.ref p0), .val (.int (3 : Int32))] [(.ref p0), (.int (3 : Int32))])) t → Steps p.tables e below (s₁.setTop (entryFrame m #[(.ref p0)] 2)) t := by
          intro t kont
          refine pre399 t ?_
          show Steps p.tables e below (T398.setTop (mkF m 57 #[.val (.ref p0), .val (.int (2 : Int32))] [])) _
          refine XS.iinc X398.here hx rfl (hb hby d6_57) rfl (l' := #[.val (.ref p0), .val (.int (3 : Int32))]) rfl ?_
          show Steps p.tables e below (T398.setTop (mkF m 60 #[.val (.ref p0), .val (.int (3 : Int32))] [])) _
          refine XS.goto X398.here hx rfl (pc0 := 60) (pc' := 2) rfl (hb hby d6_60) (by decide) (by decide) ?_
          show Steps p.tables e below (T398.setTop (mkF m 2 #[.val (.ref p0), .val (.int (3 : Int32))] [])) _
          refine XS.iloadN X398.here hx rfl (hb hby d6_2) rfl ?_
          show Steps p.tables e below (T398.setTop (mkF m 3 #[.val (.ref p0), .val (.int (3 : Int32))] [(.int (3 : Int32))])) _
          refine XS.aloadN X398.here hx rfl (hb hby d6_3) rfl rfl ?_
          exact kont
        obtain ⟨T401, X401, e401, st401⟩ := getF X398 hx hZ hown (host := "") (Or.inl (hw _ (List.mem_of_getElem? (i := 44) rfl))) Via.refl e398 f398_4 (g := (mkF m 4 #[.val (.ref p0), .val (.int (3 : Int32))] [(.ref p0), (.int (3 : Int32))])) rfl rfl (hb hby d6_4)
        have pre402 : ∀ t, Steps p.tables e below (T401.setTop (mkF m 7 #[.val (.ref p0), .val (.int (3 : Int32))] [(.int sz), (.int (3 : Int32))])) t → Steps p.tables e below (s₁.setTop (entryFrame m #[(.ref p0)] 2)) t := fun t kont => pre400 t (st401 _ kont)
        by_cases hc7''' : (3 : Int32) < sz
        · exfalso
          have q := own_iin (k := 3) hzn (by decide) (by decide) hc7'''
          exact absurd q (Nat.not_lt.mpr hn3)
        · have pre403 : ∀ t, Steps p.tables e below (T401.setTop (mkF m 65 #[.val (.ref p0), .val (.int (3 : Int32))] [(.int (0 : Int32)), (.ref p0)])) t → Steps p.tables e below (s₁.setTop (entryFrame m #[(.ref p0)] 2)) t := by
            intro t kont
            refine pre402 t ?_
            show Steps p.tables e below (T401.setTop (mkF m 7 #[.val (.ref p0), .val (.int (3 : Int32))] [(.int sz), (.int (3 : Int32))])) _
            refine XS.icmpYes X401.here hx rfl (pc0 := 7) (pc' := 63) rfl (hb hby d6_7) rfl (flt hc7''').2.1 (by decide) (by decide) ?_
            show Steps p.tables e below (T401.setTop (mkF m 63 #[.val (.ref p0), .val (.int (3 : Int32))] [])) _
            refine XS.aloadN X401.here hx rfl (hb hby d6_63) rfl rfl ?_
            show Steps p.tables e below (T401.setTop (mkF m 64 #[.val (.ref p0), .val (.int (3 : Int32))] [(.ref p0)])) _
            refine XS.iconst X401.here hx rfl (hb hby d6_64) ?_
            exact kont
          obtain ⟨T404, h404, X404, e404, W404, st404⟩ := putF X401 hx hZ hown (host := "") (Or.inl (hw _ (List.mem_of_getElem? (i := 44) rfl))) Via.refl e401 f398_4 f398_0 (Or.inl (hw _ (List.mem_of_getElem? (i := 45) rfl))) (hw _ (List.mem_of_getElem? (i := 1) rfl)) (ty := .int) (by decide) rfl rfl (g := (mkF m 65 #[.val (.ref p0), .val (.int (3 : Int32))] [(.int (0 : Int32)), (.ref p0)])) rfl rfl (hb hby d6_65)
          have f404_0 := Exa.wr W404 f398_0
          have f404_1 := Fld.other W404 f398_1 (Or.inr (slot_ne (Or.inr (hw _ (List.mem_of_getElem? (i := 29) rfl))) (Or.inl (hw _ (List.mem_of_getElem? (i := 45) rfl))) (by decide) (t := .int) (t' := .int) (by decide) (by decide)))
          have f404_2 := Fld.other W404 f398_2 (Or.inr (slot_ne (Or.inl (hw _ (List.mem_of_getElem? (i := 36) rfl))) (Or.inl (hw _ (List.mem_of_getElem? (i := 45) rfl))) (by decide) (t := .boolean) (t' := .int) (by decide) (by decide)))
          have f404_3 := Fld.other W404 f398_3 (Or.inr (slot_ne (Or.inl (hw _ (List.mem_of_getElem? (i := 38) rfl))) (Or.inl (hw _ (List.mem_of_getElem? (i := 45) rfl))) (by decide) (t := .int) (t' := .int) (by decide) (by decide)))
          have f404_4 := Fld.same W404 f398_4
          have f404_5 := Fld.other W404 f398_5 (Or.inr (slot_ne (Or.inl (hw _ (List.mem_of_getElem? (i := 25) rfl))) (Or.inl (hw _ (List.mem_of_getElem? (i := 45) rfl))) (by decide) (t := .int) (t' := .int) (by decide) (by decide)))
          have f404_6 := Fld.other W404 f398_6 (Or.inr (slot_ne (Or.inl (hw _ (List.mem_of_getElem? (i := 11) rfl))) (Or.inl (hw _ (List.mem_of_getElem? (i := 45) rfl))) (by decide) (t := (.array .int)) (t' := .int) (by decide) (by decide)))
          have f404_7 := Fld.other W404 f398_7 (Or.inr (slot_ne (Or.inl (hw _ (List.mem_of_getElem? (i := 21) rfl))) (Or.inl (hw _ (List.mem_of_getElem? (i := 45) rfl))) (by decide) (t := (.array .int)) (t' := .int) (by decide) (by decide)))
          have f404_8 := Fld.other W404 f398_8 (Or.inr (slot_ne (Or.inl (hw _ (List.mem_of_getElem? (i := 23) rfl))) (Or.inl (hw _ (List.mem_of_getElem? (i := 45) rfl))) (by decide) (t := (.array .int)) (t' := .int) (by decide) (by decide)))
          have f404_9 := Fld.other W404 f398_9 (Or.inr (slot_ne (Or.inl (hw _ (List.mem_of_getElem? (i := 27) rfl))) (Or.inl (hw _ (List.mem_of_getElem? (i := 45) rfl))) (by decide) (t := (.array .int)) (t' := .int) (by decide) (by decide)))
          have f404_10 := f398_10.other W404 (Ne.symm d0)
          have f404_11 := f398_11.other W404 (Ne.symm d3)
          have f404_12 := f398_12.other W404 (Ne.symm d1)
          have f404_13 := V398.other W404 (Ne.symm d2)
          have Z404 : n0 ≤ h404.size := Nat.le_trans Z398 (Keep.of_wr W404).1
          have N404 := Fr.snoc X404 N398 g0
          have pre405 : ∀ t, Steps p.tables e below (T404.setTop (mkF m 68 #[.val (.ref p0), .val (.int (3 : Int32))] [])) t → Steps p.tables e below (s₁.setTop (entryFrame m #[(.ref p0)] 2)) t := fun t kont => pre403 t (st404 _ kont)
          obtain ⟨fs, hr, hrun, hended, hW, hsame⟩ := X404.leave (v := none) (fun _ => rfl)
          refine ⟨_, _, pre405 _ ?_, hrun, hended, _, _, rfl, ?_, ⟨_, rfl⟩, hW, hsame.mono (by decide) (by decide)⟩
          · exact X404.returnOut hx Bd.returns (hb hby d6_68) hr
          · show Q6b Z p0 be ba bn bf dr lw sz ne ge ga gn gf zn h0 n0 _ T404.heap _
            rw [e404]
            exact ⟨rfl, N404, Z404, ⟨f404_0, f404_1, f404_2, f404_3, f404_4, f404_5, f404_6, f404_7, f404_8, f404_9, f404_10, (f404_12.to rfl (fun j hj => congrArg Value.int (by rw [hu44'', hu44', hu44]; exact own_more (g := ga) (x := (-2147483648 : Int32)) (m := 3) hI.1 (own_iout hzn (by decide) (by decide) hc7''') j hj))), (f404_13.to rfl (fun j hj => congrArg Value.int (by rw [hu56'', hu56', hu56]; exact own_more (g := gn) (x := 0) (m := 3) hI.2.1 (own_iout hzn (by decide) (by decide) hc7''') j hj))), f404_11, ⟨d0, d1, d2, d3, d4, d5, d6, d7, d8, d9⟩, ⟨g0, g1, g2, g3, g4⟩⟩⟩
      · have pre406 : ∀ t, Steps p.tables e below (T377.setTop (mkF m 65 #[.val (.ref p0), .val (.int (2 : Int32))] [(.int (0 : Int32)), (.ref p0)])) t → Steps p.tables e below (s₁.setTop (entryFrame m #[(.ref p0)] 2)) t := by
          intro t kont
          refine pre378 t ?_
          show Steps p.tables e below (T377.setTop (mkF m 7 #[.val (.ref p0), .val (.int (2 : Int32))] [(.int sz), (.int (2 : Int32))])) _
          refine XS.icmpYes X377.here hx rfl (pc0 := 7) (pc' := 63) rfl (hb hby d6_7) rfl (flt hc7'').2.1 (by decide) (by decide) ?_
          show Steps p.tables e below (T377.setTop (mkF m 63 #[.val (.ref p0), .val (.int (2 : Int32))] [])) _
          refine XS.aloadN X377.here hx rfl (hb hby d6_63) rfl rfl ?_
          show Steps p.tables e below (T377.setTop (mkF m 64 #[.val (.ref p0), .val (.int (2 : Int32))] [(.ref p0)])) _
          refine XS.iconst X377.here hx rfl (hb hby d6_64) ?_
          exact kont
        obtain ⟨T407, h407, X407, e407, W407, st407⟩ := putF X377 hx hZ hown (host := "") (Or.inl (hw _ (List.mem_of_getElem? (i := 44) rfl))) Via.refl e377 f374_4 f374_0 (Or.inl (hw _ (List.mem_of_getElem? (i := 45) rfl))) (hw _ (List.mem_of_getElem? (i := 1) rfl)) (ty := .int) (by decide) rfl rfl (g := (mkF m 65 #[.val (.ref p0), .val (.int (2 : Int32))] [(.int (0 : Int32)), (.ref p0)])) rfl rfl (hb hby d6_65)
        have f407_0 := Exa.wr W407 f374_0
        have f407_1 := Fld.other W407 f374_1 (Or.inr (slot_ne (Or.inr (hw _ (List.mem_of_getElem? (i := 29) rfl))) (Or.inl (hw _ (List.mem_of_getElem? (i := 45) rfl))) (by decide) (t := .int) (t' := .int) (by decide) (by decide)))
        have f407_2 := Fld.other W407 f374_2 (Or.inr (slot_ne (Or.inl (hw _ (List.mem_of_getElem? (i := 36) rfl))) (Or.inl (hw _ (List.mem_of_getElem? (i := 45) rfl))) (by decide) (t := .boolean) (t' := .int) (by decide) (by decide)))
        have f407_3 := Fld.other W407 f374_3 (Or.inr (slot_ne (Or.inl (hw _ (List.mem_of_getElem? (i := 38) rfl))) (Or.inl (hw _ (List.mem_of_getElem? (i := 45) rfl))) (by decide) (t := .int) (t' := .int) (by decide) (by decide)))
        have f407_4 := Fld.same W407 f374_4
        have f407_5 := Fld.other W407 f374_5 (Or.inr (slot_ne (Or.inl (hw _ (List.mem_of_getElem? (i := 25) rfl))) (Or.inl (hw _ (List.mem_of_getElem? (i := 45) rfl))) (by decide) (t := .int) (t' := .int) (by decide) (by decide)))
        have f407_6 := Fld.other W407 f374_6 (Or.inr (slot_ne (Or.inl (hw _ (List.mem_of_getElem? (i := 11) rfl))) (Or.inl (hw _ (List.mem_of_getElem? (i := 45) rfl))) (by decide) (t := (.array .int)) (t' := .int) (by decide) (by decide)))
        have f407_7 := Fld.other W407 f374_7 (Or.inr (slot_ne (Or.inl (hw _ (List.mem_of_getElem? (i := 21) rfl))) (Or.inl (hw _ (List.mem_of_getElem? (i := 45) rfl))) (by decide) (t := (.array .int)) (t' := .int) (by decide) (by decide)))
        have f407_8 := Fld.other W407 f374_8 (Or.inr (slot_ne (Or.inl (hw _ (List.mem_of_getElem? (i := 23) rfl))) (Or.inl (hw _ (List.mem_of_getElem? (i := 45) rfl))) (by decide) (t := (.array .int)) (t' := .int) (by decide) (by decide)))
        have f407_9 := Fld.other W407 f374_9 (Or.inr (slot_ne (Or.inl (hw _ (List.mem_of_getElem? (i := 27) rfl))) (Or.inl (hw _ (List.mem_of_getElem? (i := 45) rfl))) (by decide) (t := (.array .int)) (t' := .int) (by decide) (by decide)))
        have f407_10 := f374_10.other W407 (Ne.symm d0)
        have f407_11 := f374_11.other W407 (Ne.symm d3)
        have f407_12 := f374_12.other W407 (Ne.symm d1)
        have f407_13 := V374.other W407 (Ne.symm d2)
        have Z407 : n0 ≤ h407.size := Nat.le_trans Z374 (Keep.of_wr W407).1
        have N407 := Fr.snoc X407 N374 g0
        have pre408 : ∀ t, Steps p.tables e below (T407.setTop (mkF m 68 #[.val (.ref p0), .val (.int (2 : Int32))] [])) t → Steps p.tables e below (s₁.setTop (entryFrame m #[(.ref p0)] 2)) t := fun t kont => pre406 t (st407 _ kont)
        obtain ⟨fs, hr, hrun, hended, hW, hsame⟩ := X407.leave (v := none) (fun _ => rfl)
        refine ⟨_, _, pre408 _ ?_, hrun, hended, _, _, rfl, ?_, ⟨_, rfl⟩, hW, hsame.mono (by decide) (by decide)⟩
        · exact X407.returnOut hx Bd.returns (hb hby d6_68) hr
        · show Q6b Z p0 be ba bn bf dr lw sz ne ge ga gn gf zn h0 n0 _ T407.heap _
          rw [e407]
          exact ⟨rfl, N407, Z407, ⟨f407_0, f407_1, f407_2, f407_3, f407_4, f407_5, f407_6, f407_7, f407_8, f407_9, f407_10, (f407_12.to rfl (fun j hj => congrArg Value.int (by rw [hu44', hu44]; exact own_more (g := ga) (x := (-2147483648 : Int32)) (m := 2) hI.1 (own_iout hzn (by decide) (by decide) hc7'') j hj))), (f407_13.to rfl (fun j hj => congrArg Value.int (by rw [hu56', hu56]; exact own_more (g := gn) (x := 0) (m := 2) hI.2.1 (own_iout hzn (by decide) (by decide) hc7'') j hj))), f407_11, ⟨d0, d1, d2, d3, d4, d5, d6, d7, d8, d9⟩, ⟨g0, g1, g2, g3, g4⟩⟩⟩
    · have pre409 : ∀ t, Steps p.tables e below (T353.setTop (mkF m 65 #[.val (.ref p0), .val (.int (1 : Int32))] [(.int (0 : Int32)), (.ref p0)])) t → Steps p.tables e below (s₁.setTop (entryFrame m #[(.ref p0)] 2)) t := by
        intro t kont
        refine pre354 t ?_
        show Steps p.tables e below (T353.setTop (mkF m 7 #[.val (.ref p0), .val (.int (1 : Int32))] [(.int sz), (.int (1 : Int32))])) _
        refine XS.icmpYes X353.here hx rfl (pc0 := 7) (pc' := 63) rfl (hb hby d6_7) rfl (flt hc7').2.1 (by decide) (by decide) ?_
        show Steps p.tables e below (T353.setTop (mkF m 63 #[.val (.ref p0), .val (.int (1 : Int32))] [])) _
        refine XS.aloadN X353.here hx rfl (hb hby d6_63) rfl rfl ?_
        show Steps p.tables e below (T353.setTop (mkF m 64 #[.val (.ref p0), .val (.int (1 : Int32))] [(.ref p0)])) _
        refine XS.iconst X353.here hx rfl (hb hby d6_64) ?_
        exact kont
      obtain ⟨T410, h410, X410, e410, W410, st410⟩ := putF X353 hx hZ hown (host := "") (Or.inl (hw _ (List.mem_of_getElem? (i := 44) rfl))) Via.refl e353 f350_4 f350_0 (Or.inl (hw _ (List.mem_of_getElem? (i := 45) rfl))) (hw _ (List.mem_of_getElem? (i := 1) rfl)) (ty := .int) (by decide) rfl rfl (g := (mkF m 65 #[.val (.ref p0), .val (.int (1 : Int32))] [(.int (0 : Int32)), (.ref p0)])) rfl rfl (hb hby d6_65)
      have f410_0 := Exa.wr W410 f350_0
      have f410_1 := Fld.other W410 f350_1 (Or.inr (slot_ne (Or.inr (hw _ (List.mem_of_getElem? (i := 29) rfl))) (Or.inl (hw _ (List.mem_of_getElem? (i := 45) rfl))) (by decide) (t := .int) (t' := .int) (by decide) (by decide)))
      have f410_2 := Fld.other W410 f350_2 (Or.inr (slot_ne (Or.inl (hw _ (List.mem_of_getElem? (i := 36) rfl))) (Or.inl (hw _ (List.mem_of_getElem? (i := 45) rfl))) (by decide) (t := .boolean) (t' := .int) (by decide) (by decide)))
      have f410_3 := Fld.other W410 f350_3 (Or.inr (slot_ne (Or.inl (hw _ (List.mem_of_getElem? (i := 38) rfl))) (Or.inl (hw _ (List.mem_of_getElem? (i := 45) rfl))) (by decide) (t := .int) (t' := .int) (by decide) (by decide)))
      have f410_4 := Fld.same W410 f350_4
      have f410_5 := Fld.other W410 f350_5 (Or.inr (slot_ne (Or.inl (hw _ (List.mem_of_getElem? (i := 25) rfl))) (Or.inl (hw _ (List.mem_of_getElem? (i := 45) rfl))) (by decide) (t := .int) (t' := .int) (by decide) (by decide)))
      have f410_6 := Fld.other W410 f350_6 (Or.inr (slot_ne (Or.inl (hw _ (List.mem_of_getElem? (i := 11) rfl))) (Or.inl (hw _ (List.mem_of_getElem? (i := 45) rfl))) (by decide) (t := (.array .int)) (t' := .int) (by decide) (by decide)))
      have f410_7 := Fld.other W410 f350_7 (Or.inr (slot_ne (Or.inl (hw _ (List.mem_of_getElem? (i := 21) rfl))) (Or.inl (hw _ (List.mem_of_getElem? (i := 45) rfl))) (by decide) (t := (.array .int)) (t' := .int) (by decide) (by decide)))
      have f410_8 := Fld.other W410 f350_8 (Or.inr (slot_ne (Or.inl (hw _ (List.mem_of_getElem? (i := 23) rfl))) (Or.inl (hw _ (List.mem_of_getElem? (i := 45) rfl))) (by decide) (t := (.array .int)) (t' := .int) (by decide) (by decide)))
      have f410_9 := Fld.other W410 f350_9 (Or.inr (slot_ne (Or.inl (hw _ (List.mem_of_getElem? (i := 27) rfl))) (Or.inl (hw _ (List.mem_of_getElem? (i := 45) rfl))) (by decide) (t := (.array .int)) (t' := .int) (by decide) (by decide)))
      have f410_10 := f350_10.other W410 (Ne.symm d0)
      have f410_11 := f350_11.other W410 (Ne.symm d3)
      have f410_12 := f350_12.other W410 (Ne.symm d1)
      have f410_13 := V350.other W410 (Ne.symm d2)
      have Z410 : n0 ≤ h410.size := Nat.le_trans Z350 (Keep.of_wr W410).1
      have N410 := Fr.snoc X410 N350 g0
      have pre411 : ∀ t, Steps p.tables e below (T410.setTop (mkF m 68 #[.val (.ref p0), .val (.int (1 : Int32))] [])) t → Steps p.tables e below (s₁.setTop (entryFrame m #[(.ref p0)] 2)) t := fun t kont => pre409 t (st410 _ kont)
      obtain ⟨fs, hr, hrun, hended, hW, hsame⟩ := X410.leave (v := none) (fun _ => rfl)
      refine ⟨_, _, pre411 _ ?_, hrun, hended, _, _, rfl, ?_, ⟨_, rfl⟩, hW, hsame.mono (by decide) (by decide)⟩
      · exact X410.returnOut hx Bd.returns (hb hby d6_68) hr
      · show Q6b Z p0 be ba bn bf dr lw sz ne ge ga gn gf zn h0 n0 _ T410.heap _
        rw [e410]
        exact ⟨rfl, N410, Z410, ⟨f410_0, f410_1, f410_2, f410_3, f410_4, f410_5, f410_6, f410_7, f410_8, f410_9, f410_10, (f410_12.to rfl (fun j hj => congrArg Value.int (by rw [hu44]; exact own_more (g := ga) (x := (-2147483648 : Int32)) (m := 1) hI.1 (own_iout hzn (by decide) (by decide) hc7') j hj))), (f410_13.to rfl (fun j hj => congrArg Value.int (by rw [hu56]; exact own_more (g := gn) (x := 0) (m := 1) hI.2.1 (own_iout hzn (by decide) (by decide) hc7') j hj))), f410_11, ⟨d0, d1, d2, d3, d4, d5, d6, d7, d8, d9⟩, ⟨g0, g1, g2, g3, g4⟩⟩⟩
  · have pre412 : ∀ t, Steps p.tables e below (T329.setTop (mkF m 65 #[.val (.ref p0), .val (.int (0 : Int32))] [(.int (0 : Int32)), (.ref p0)])) t → Steps p.tables e below (s₁.setTop (entryFrame m #[(.ref p0)] 2)) t := by
      intro t kont
      refine pre330 t ?_
      show Steps p.tables e below (T329.setTop (mkF m 7 #[.val (.ref p0), .val (.int (0 : Int32))] [(.int sz), (.int (0 : Int32))])) _
      refine XS.icmpYes X329.here hx rfl (pc0 := 7) (pc' := 63) rfl (hb hby d6_7) rfl (flt hc7).2.1 (by decide) (by decide) ?_
      show Steps p.tables e below (T329.setTop (mkF m 63 #[.val (.ref p0), .val (.int (0 : Int32))] [])) _
      refine XS.aloadN X329.here hx rfl (hb hby d6_63) rfl rfl ?_
      show Steps p.tables e below (T329.setTop (mkF m 64 #[.val (.ref p0), .val (.int (0 : Int32))] [(.ref p0)])) _
      refine XS.iconst X329.here hx rfl (hb hby d6_64) ?_
      exact kont
    obtain ⟨T413, h413, X413, e413, W413, st413⟩ := putF X329 hx hZ hown (host := "") (Or.inl (hw _ (List.mem_of_getElem? (i := 44) rfl))) Via.refl e329 q_size qE (Or.inl (hw _ (List.mem_of_getElem? (i := 45) rfl))) (hw _ (List.mem_of_getElem? (i := 1) rfl)) (ty := .int) (by decide) rfl rfl (g := (mkF m 65 #[.val (.ref p0), .val (.int (0 : Int32))] [(.int (0 : Int32)), (.ref p0)])) rfl rfl (hb hby d6_65)
    have f413_0 := Exa.wr W413 qE
    have f413_1 := Fld.other W413 q_direct (Or.inr (slot_ne (Or.inr (hw _ (List.mem_of_getElem? (i := 29) rfl))) (Or.inl (hw _ (List.mem_of_getElem? (i := 45) rfl))) (by decide) (t := .int) (t' := .int) (by decide) (by decide)))
    have f413_2 := Fld.other W413 q_ownSlots (Or.inr (slot_ne (Or.inl (hw _ (List.mem_of_getElem? (i := 36) rfl))) (Or.inl (hw _ (List.mem_of_getElem? (i := 45) rfl))) (by decide) (t := .boolean) (t' := .int) (by decide) (by decide)))
    have f413_3 := Fld.other W413 q_lowest (Or.inr (slot_ne (Or.inl (hw _ (List.mem_of_getElem? (i := 38) rfl))) (Or.inl (hw _ (List.mem_of_getElem? (i := 45) rfl))) (by decide) (t := .int) (t' := .int) (by decide) (by decide)))
    have f413_4 := Fld.same W413 q_size
    have f413_5 := Fld.other W413 q_shift (Or.inr (slot_ne (Or.inl (hw _ (List.mem_of_getElem? (i := 25) rfl))) (Or.inl (hw _ (List.mem_of_getElem? (i := 45) rfl))) (by decide) (t := .int) (t' := .int) (by decide) (by decide)))
    have f413_6 := Fld.other W413 q_endsByAlignment (Or.inr (slot_ne (Or.inl (hw _ (List.mem_of_getElem? (i := 11) rfl))) (Or.inl (hw _ (List.mem_of_getElem? (i := 45) rfl))) (by decide) (t := (.array .int)) (t' := .int) (by decide) (by decide)))
    have f413_7 := Fld.other W413 q_alignments (Or.inr (slot_ne (Or.inl (hw _ (List.mem_of_getElem? (i := 21) rfl))) (Or.inl (hw _ (List.mem_of_getElem? (i := 45) rfl))) (by decide) (t := (.array .int)) (t' := .int) (by decide) (by decide)))
    have f413_8 := Fld.other W413 q_ends (Or.inr (slot_ne (Or.inl (hw _ (List.mem_of_getElem? (i := 23) rfl))) (Or.inl (hw _ (List.mem_of_getElem? (i := 45) rfl))) (by decide) (t := (.array .int)) (t' := .int) (by decide) (by decide)))
    have f413_9 := Fld.other W413 q_filled (Or.inr (slot_ne (Or.inl (hw _ (List.mem_of_getElem? (i := 27) rfl))) (Or.inl (hw _ (List.mem_of_getElem? (i := 45) rfl))) (by decide) (t := (.array .int)) (t' := .int) (by decide) (by decide)))
    have f413_10 := Ve.other W413 (Ne.symm d0)
    have f413_11 := Va.other W413 (Ne.symm d1)
    have f413_12 := Vn.other W413 (Ne.symm d2)
    have f413_13 := Vf.other W413 (Ne.symm d3)
    have Z413 : n0 ≤ h413.size := Nat.le_trans Z0 (Keep.of_wr W413).1
    have N413 := Fr.snoc X413 N0 g0
    have pre414 : ∀ t, Steps p.tables e below (T413.setTop (mkF m 68 #[.val (.ref p0), .val (.int (0 : Int32))] [])) t → Steps p.tables e below (s₁.setTop (entryFrame m #[(.ref p0)] 2)) t := fun t kont => pre412 t (st413 _ kont)
    obtain ⟨fs, hr, hrun, hended, hW, hsame⟩ := X413.leave (v := none) (fun _ => rfl)
    refine ⟨_, _, pre414 _ ?_, hrun, hended, _, _, rfl, ?_, ⟨_, rfl⟩, hW, hsame.mono (by decide) (by decide)⟩
    · exact X413.returnOut hx Bd.returns (hb hby d6_68) hr
    · show Q6b Z p0 be ba bn bf dr lw sz ne ge ga gn gf zn h0 n0 _ T413.heap _
      rw [e413]
      exact ⟨rfl, N413, Z413, ⟨f413_0, f413_1, f413_2, f413_3, f413_4, f413_5, f413_6, f413_7, f413_8, f413_9, f413_10, (f413_11.to rfl (fun j hj => congrArg Value.int (by exact own_more (g := ga) (x := (-2147483648 : Int32)) (m := 0) hI.1 (own_iout hzn (by decide) (by decide) hc7) j hj))), (f413_12.to rfl (fun j hj => congrArg Value.int (by exact own_more (g := gn) (x := 0) (m := 0) hI.2.1 (own_iout hzn (by decide) (by decide) hc7) j hj))), f413_13, ⟨d0, d1, d2, d3, d4, d5, d6, d7, d8, d9⟩, ⟨g0, g1, g2, g3, g4⟩⟩⟩
theorem own_15 (x : Int32) : 0 ≤ (x &&& (15 : Int32)).toInt ∧ (x &&& (15 : Int32)).toInt < 16 := by
  have e := c_mask x 15 4 (by decide) (by decide)
  omega
theorem own_n4 (x : Int32) : (x &&& (3 : Int32)) = 0 ∨ (x &&& (3 : Int32)) = 1 ∨ (x &&& (3 : Int32)) = 2 ∨ (x &&& (3 : Int32)) = 3 := by
  have e := c_mask x 3 2 (by decide) (by decide)
  simp only [← Int32.toInt_inj, Int32.reduceToInt]; omega
theorem own_xv (a b : Int32) : ((a.toInt64 + b.toInt64) + (1 : Int64)).toInt = a.toInt + b.toInt + 1 := by
  have h1 := c_ladd a.toInt64 b.toInt64
  have h2 := c_ladd (a.toInt64 + b.toInt64) 1
  have r1 := rng64 (a.toInt64 + b.toInt64)
  have r2 := rng64 (a.toInt64 + b.toInt64 + 1)
  have ra := rng32 a
  have rb := rng32 b
  rw [c_i2l, c_i2l] at h1
  have o : (1 : Int64).toInt = 1 := rfl
  rw [o] at h2
  omega
theorem own_cn (a b : Int32) (ha : 0 ≤ a.toInt ∧ a.toInt < 16) (hb : 0 ≤ b.toInt ∧ b.toInt < 16) : ((a + b) + (1 : Int32)).toInt = a.toInt + b.toInt + 1 := by
  have h1 := c_iadd a b
  have h2 := c_iadd (a + b) 1
  have r1 := rng32 (a + b)
  have r2 := rng32 (a + b + 1)
  have o : (1 : Int32).toInt = 1 := rfl
  rw [o] at h2
  omega
theorem own_inv1z (ne : Nat) (gf : Nat → Int32) : own_inv1 ne 0 (fun _ => (0 : Int32)) gf := ⟨fun _ _ h => absurd rfl h, fun i hi => absurd hi (by omega)⟩
theorem own_inv0z (gf : Nat → Int32) : own_inv0 0 (fun _ => (-2147483648 : Int32)) (fun _ => (0 : Int32)) gf := ⟨fun _ _ h => absurd rfl h, fun _ _ h => absurd rfl h, fun i hi => absurd hi (by omega)⟩
theorem pd_4 : parseMethodDescriptor "(I)V" = some ⟨[.int], none⟩ := by decide +kernel
theorem pd_5 : parseMethodDescriptor "(II)V" = some ⟨[.int, .int], none⟩ := by decide +kernel
theorem pd_6 : parseMethodDescriptor "()V" = some ⟨[], none⟩ := by decide +kernel
theorem pd_7 : parseMethodDescriptor "(Lcom/example/impronta/impronta/engine/Alignments;III)V" = some ⟨[(.object "com/example/impronta/impronta/engine/Alignments"), .int, .int, .int], none⟩ := by decide +kernel
theorem ef_0 (m : MethodId) (x0 : Int32) (x1 : Int32) (x2 : Int32) (x3 : Int32) (x4 : Int32) (x5 : Int32) : entryFrame m #[(.int x0), (.int x1), (.int x2), (.int x3), (.int x4), (.int x5)] maxLocals = mkF m 0 #[.val (.int x0), .val (.int x1), .val (.int x2), .val (.int x3), .val (.int x4), .val (.int x5), .unset, .unset, .unset, .unset, .unset, .unset, .unset, .unset] [] := by first | (simp [entryFrame, mkF, argsToLocals, Value.category, maxLocals]; done) | rfl
def Q0 (Z : State) (p0 : Int32) (p1 : Int32) (p2 : Int32) (p3 : Int32) (p4 : Int32) (p5 : Int32) (h0 : Heap) (n0 : Nat) (v : Option Value) (h : Heap) (L : List Loc) : Prop := v = some (.int (1 : Int32)) ∧ Fr n0 L
set_option maxRecDepth 65536 in
set_option maxHeartbeats 40000000 in
theorem rm0 (l : Launch) (Z : State) (a0 : Array Value) (hw : ∀ d ∈ tables_1, d.before a0 Z = true) (ws : List Jvm.Cond) (p0 : Int32) (p1 : Int32) (p2 : Int32) (p3 : Int32) (p4 : Int32) (p5 : Int32) (h0 : Heap) (n0 : Nat) (Z0 : n0 ≤ h0.size) :
    MetFree l x (head1 (Jvm.Cond.code x code maxLocals ret :: ws) room_1) (fun a U => a = #[(.int p0), (.int p1), (.int p2), (.int p3), (.int p4), (.int p5)] ∧ Z.Warmed39 U.vm ∧ U.heap = h0) (fun _ _ _ _ _ => True) (fun _ U o U' => ∃ v L, o = .returned v ∧ Q0 Z p0 p1 p2 p3 p4 p5 h0 n0 v U'.heap L ∧ FrameEnd U o U' L room_1.cells room_1.slots) := by
  refine MetFree.of_bodySF (plainFor_of_name pn_9) hisR ?_
  intro p e s m args below meth c s₁ Bd hml0 hP hK
  obtain ⟨rfl, hZ, hh⟩ := hP
  have hx := Bd.exec
  have hby := Bd.bytes
  have hml : c.maxLocals = 14 := hml0
  have hown : s.vm.findClass "com/example/impronta/impronta/engine/AlignmentsClearPinLaw" = some m.cls := findClass_of_methodNamed Bd.named
  have hnm := (name_of_methodNamed Bd.named Bd.method).1
  have X0 : Stand p l e room_1 s m #[(.int p0), (.int p1), (.int p2), (.int p3), (.int p4), (.int p5)] below meth c s₁ [] 0 0 := Stand.of_body Bd
  have e0 : s₁.heap = h0 := by rw [← hh, Bd.state]; rfl
  have N0 := Fr.nil n0
  have pre0 : ∀ t, Steps p.tables e below (s₁.setTop (mkF m 0 #[.val (.int p0), .val (.int p1), .val (.int p2), .val (.int p3), .val (.int p4), .val (.int p5), .unset, .unset, .unset, .unset, .unset, .unset, .unset, .unset] [])) t → Steps p.tables e below (s₁.setTop (entryFrame m #[(.int p0), (.int p1), (.int p2), (.int p3), (.int p4), (.int p5)] maxLocals)) t := fun t k => castTop (ef_0 m p0 p1 p2 p3 p4 p5) k
  have pre415 : ∀ t, Steps p.tables e below (s₁.setTop (mkF m 31 #[.val (.int p0), .val (.int p1), .val (.int p2), .val (.int p3), .val (.int p4), .val (.int p5), .val (.int (p1 &&& (15 : Int32))), .val (.int (((p1.toUInt32 >>> ((4 : Int32) &&& 31).toUInt32).toInt32) &&& (15 : Int32))), .val (.int (((p1.toUInt32 >>> ((8 : Int32) &&& 31).toUInt32).toInt32) &&& (3 : Int32))), .val (.int (((p1 &&& (15 : Int32)) + (((p1.toUInt32 >>> ((4 : Int32) &&& 31).toUInt32).toInt32) &&& (15 : Int32))) + (1 : Int32))), .unset, .unset, .unset, .unset] [])) t → Steps p.tables e below (s₁.setTop (entryFrame m #[(.int p0), (.int p1), (.int p2), (.int p3), (.int p4), (.int p5)] maxLocals)) t := by
    intro t kont
    refine pre0 t ?_
    show Steps p.tables e below (s₁.setTop (mkF m 0 #[.val (.int p0), .val (.int p1), .val (.int p2), .val (.int p3), .val (.int p4), .val (.int p5), .unset, .unset, .unset, .unset, .unset, .unset, .unset, .unset] [])) _
    refine XS.iloadN X0.here hx rfl (hb hby at_0) rfl ?_
    show Steps p.tables e below (s₁.setTop (mkF m 1 #[.val (.int p0), .val (.int p1), .val (.int p2), .val (.int p3), .val (.int p4), .val (.int p5), .unset, .unset, .unset, .unset, .unset, .unset, .unset, .unset] [(.int p1)])) _
    refine XS.bipush X0.here hx rfl (hb hby at_1) ?_
    show Steps p.tables e below (s₁.setTop (mkF m 3 #[.val (.int p0), .val (.int p1), .val (.int p2), .val (.int p3), .val (.int p4), .val (.int p5), .unset, .unset, .unset, .unset, .unset, .unset, .unset, .unset] [(.int (15 : Int32)), (.int p1)])) _
    refine XS.iand X0.here hx rfl (hb hby at_3) rfl ?_
    show Steps p.tables e below (s₁.setTop (mkF m 4 #[.val (.int p0), .val (.int p1), .val (.int p2), .val (.int p3), .val (.int p4), .val (.int p5), .unset, .unset, .unset, .unset, .unset, .unset, .unset, .unset] [(.int (p1 &&& (15 : Int32)))])) _
    refine XS.istore X0.here hx rfl (hb hby at_4) rfl (l' := #[.val (.int p0), .val (.int p1), .val (.int p2), .val (.int p3), .val (.int p4), .val (.int p5), .val (.int (p1 &&& (15 : Int32))), .unset, .unset, .unset, .unset, .unset, .unset, .unset]) rfl ?_
    show Steps p.tables e below (s₁.setTop (mkF m 6 #[.val (.int p0), .val (.int p1), .val (.int p2), .val (.int p3), .val (.int p4), .val (.int p5), .val (.int (p1 &&& (15 : Int32))), .unset, .unset, .unset, .unset, .unset, .unset, .unset] [])) _
    refine XS.iloadN X0.here hx rfl (hb hby at_6) rfl ?_
    show Steps p.tables e below (s₁.setTop (mkF m 7 #[.val (.int p0), .val (.int p1), .val (.int p2), .val (.int p3), .val (.int p4), .val (.int p5), .val (.int (p1 &&& (15 : Int32))), .unset, .unset, .unset, .unset, .unset, .unset, .unset] [(.int p1)])) _
    refine XS.iconst X0.here hx rfl (hb hby at_7) ?_
    show Steps p.tables e below (s₁.setTop (mkF m 8 #[.val (.int p0), .val (.int p1), .val (.int p2), .val (.int p3), .val (.int p4), .val (.int p5), .val (.int (p1 &&& (15 : Int32))), .unset, .unset, .unset, .unset, .unset, .unset, .unset] [(.int (4 : Int32)), (.int p1)])) _
    refine XS.iushr X0.here hx rfl (hb hby at_8) rfl ?_
    show Steps p.tables e below (s₁.setTop (mkF m 9 #[.val (.int p0), .val (.int p1), .val (.int p2), .val (.int p3), .val (.int p4), .val (.int p5), .val (.int (p1 &&& (15 : Int32))), .unset, .unset, .unset, .unset, .unset, .unset, .unset] [(.int ((p1.toUInt32 >>> ((4 : Int32) &&& 31).toUInt32).toInt32))])) _
    refine XS.bipush X0.here hx rfl (hb hby at_9) ?_
    show Steps p.tables e below (s₁.setTop (mkF m 11 #[.val (.int p0), .val (.int p1), .val (.int p2), .val (.int p3), .val (.int p4), .val (.int p5), .val (.int (p1 &&& (15 : Int32))), .unset, .unset, .unset, .unset, .unset, .unset, .unset] [(.int (15 : Int32)), (.int ((p1.toUInt32 >>> ((4 : Int32) &&& 31).toUInt32).toInt32))])) _
    refine XS.iand X0.here hx rfl (hb hby at_11) rfl ?_
    show Steps p.tables e below (s₁.setTop (mkF m 12 #[.val (.int p0), .val (.int p1), .val (.int p2), .val (.int p3), .val (.int p4), .val (.int p5), .val (.int (p1 &&& (15 : Int32))), .unset, .unset, .unset, .unset, .unset, .unset, .unset] [(.int (((p1.toUInt32 >>> ((4 : Int32) &&& 31).toUInt32).toInt32) &&& (15 : Int32)))])) _
    refine XS.istore X0.here hx rfl (hb hby at_12) rfl (l' := #[.val (.int p0), .val (.int p1), .val (.int p2), .val (.int p3), .val (.int p4), .val (.int p5), .val (.int (p1 &&& (15 : Int32))), .val (.int (((p1.toUInt32 >>> ((4 : Int32) &&& 31).toUInt32).toInt32) &&& (15 : Int32))), .unset, .unset, .unset, .unset, .unset, .unset]) rfl ?_
    show Steps p.tables e below (s₁.setTop (mkF m 14 #[.val (.int p0), .val (.int p1), .val (.int p2), .val (.int p3), .val (.int p4), .val (.int p5), .val (.int (p1 &&& (15 : Int32))), .val (.int (((p1.toUInt32 >>> ((4 : Int32) &&& 31).toUInt32).toInt32) &&& (15 : Int32))), .unset, .unset, .unset, .unset, .unset, .unset] [])) _
    refine XS.iloadN X0.here hx rfl (hb hby at_14) rfl ?_
    show Steps p.tables e below (s₁.setTop (mkF m 15 #[.val (.int p0), .val (.int p1), .val (.int p2), .val (.int p3), .val (.int p4), .val (.int p5), .val (.int (p1 &&& (15 : Int32))), .val (.int (((p1.toUInt32 >>> ((4 : Int32) &&& 31).toUInt32).toInt32) &&& (15 : Int32))), .unset, .unset, .unset, .unset, .unset, .unset] [(.int p1)])) _
    refine XS.bipush X0.here hx rfl (hb hby at_15) ?_
    show Steps p.tables e below (s₁.setTop (mkF m 17 #[.val (.int p0), .val (.int p1), .val (.int p2), .val (.int p3), .val (.int p4), .val (.int p5), .val (.int (p1 &&& (15 : Int32))), .val (.int (((p1.toUInt32 >>> ((4 : Int32) &&& 31).toUInt32).toInt32) &&& (15 : Int32))), .unset, .unset, .unset, .unset, .unset, .unset] [(.int (8 : Int32)), (.int p1)])) _
    refine XS.iushr X0.here hx rfl (hb hby at_17) rfl ?_
    show Steps p.tables e below (s₁.setTop (mkF m 18 #[.val (.int p0), .val (.int p1), .val (.int p2), .val (.int p3), .val (.int p4), .val (.int p5), .val (.int (p1 &&& (15 : Int32))), .val (.int (((p1.toUInt32 >>> ((4 : Int32) &&& 31).toUInt32).toInt32) &&& (15 : Int32))), .unset, .unset, .unset, .unset, .unset, .unset] [(.int ((p1.toUInt32 >>> ((8 : Int32) &&& 31).toUInt32).toInt32))])) _
    refine XS.iconst X0.here hx rfl (hb hby at_18) ?_
    show Steps p.tables e below (s₁.setTop (mkF m 19 #[.val (.int p0), .val (.int p1), .val (.int p2), .val (.int p3), .val (.int p4), .val (.int p5), .val (.int (p1 &&& (15 : Int32))), .val (.int (((p1.toUInt32 >>> ((4 : Int32) &&& 31).toUInt32).toInt32) &&& (15 : Int32))), .unset, .unset, .unset, .unset, .unset, .unset] [(.int (3 : Int32)), (.int ((p1.toUInt32 >>> ((8 : Int32) &&& 31).toUInt32).toInt32))])) _
    refine XS.iand X0.here hx rfl (hb hby at_19) rfl ?_
    show Steps p.tables e below (s₁.setTop (mkF m 20 #[.val (.int p0), .val (.int p1), .val (.int p2), .val (.int p3), .val (.int p4), .val (.int p5), .val (.int (p1 &&& (15 : Int32))), .val (.int (((p1.toUInt32 >>> ((4 : Int32) &&& 31).toUInt32).toInt32) &&& (15 : Int32))), .unset, .unset, .unset, .unset, .unset, .unset] [(.int (((p1.toUInt32 >>> ((8 : Int32) &&& 31).toUInt32).toInt32) &&& (3 : Int32)))])) _
    refine XS.istore X0.here hx rfl (hb hby at_20) rfl (l' := #[.val (.int p0), .val (.int p1), .val (.int p2), .val (.int p3), .val (.int p4), .val (.int p5), .val (.int (p1 &&& (15 : Int32))), .val (.int (((p1.toUInt32 >>> ((4 : Int32) &&& 31).toUInt32).toInt32) &&& (15 : Int32))), .val (.int (((p1.toUInt32 >>> ((8 : Int32) &&& 31).toUInt32).toInt32) &&& (3 : Int32))), .unset, .unset, .unset, .unset, .unset]) rfl ?_
    show Steps p.tables e below (s₁.setTop (mkF m 22 #[.val (.int p0), .val (.int p1), .val (.int p2), .val (.int p3), .val (.int p4), .val (.int p5), .val (.int (p1 &&& (15 : Int32))), .val (.int (((p1.toUInt32 >>> ((4 : Int32) &&& 31).toUInt32).toInt32) &&& (15 : Int32))), .val (.int (((p1.toUInt32 >>> ((8 : Int32) &&& 31).toUInt32).toInt32) &&& (3 : Int32))), .unset, .unset, .unset, .unset, .unset] [])) _
    refine XS.iload X0.here hx rfl (hb hby at_22) rfl ?_
    show Steps p.tables e below (s₁.setTop (mkF m 24 #[.val (.int p0), .val (.int p1), .val (.int p2), .val (.int p3), .val (.int p4), .val (.int p5), .val (.int (p1 &&& (15 : Int32))), .val (.int (((p1.toUInt32 >>> ((4 : Int32) &&& 31).toUInt32).toInt32) &&& (15 : Int32))), .val (.int (((p1.toUInt32 >>> ((8 : Int32) &&& 31).toUInt32).toInt32) &&& (3 : Int32))), .unset, .unset, .unset, .unset, .unset] [(.int (p1 &&& (15 : Int32)))])) _
    refine XS.iload X0.here hx rfl (hb hby at_24) rfl ?_
    show Steps p.tables e below (s₁.setTop (mkF m 26 #[.val (.int p0), .val (.int p1), .val (.int p2), .val (.int p3), .val (.int p4), .val (.int p5), .val (.int (p1 &&& (15 : Int32))), .val (.int (((p1.toUInt32 >>> ((4 : Int32) &&& 31).toUInt32).toInt32) &&& (15 : Int32))), .val (.int (((p1.toUInt32 >>> ((8 : Int32) &&& 31).toUInt32).toInt32) &&& (3 : Int32))), .unset, .unset, .unset, .unset, .unset] [(.int (((p1.toUInt32 >>> ((4 : Int32) &&& 31).toUInt32).toInt32) &&& (15 : Int32))), (.int (p1 &&& (15 : Int32)))])) _
    refine XS.iadd X0.here hx rfl (hb hby at_26) rfl ?_
    show Steps p.tables e below (s₁.setTop (mkF m 27 #[.val (.int p0), .val (.int p1), .val (.int p2), .val (.int p3), .val (.int p4), .val (.int p5), .val (.int (p1 &&& (15 : Int32))), .val (.int (((p1.toUInt32 >>> ((4 : Int32) &&& 31).toUInt32).toInt32) &&& (15 : Int32))), .val (.int (((p1.toUInt32 >>> ((8 : Int32) &&& 31).toUInt32).toInt32) &&& (3 : Int32))), .unset, .unset, .unset, .unset, .unset] [(.int ((p1 &&& (15 : Int32)) + (((p1.toUInt32 >>> ((4 : Int32) &&& 31).toUInt32).toInt32) &&& (15 : Int32))))])) _
    refine XS.iconst X0.here hx rfl (hb hby at_27) ?_
    show Steps p.tables e below (s₁.setTop (mkF m 28 #[.val (.int p0), .val (.int p1), .val (.int p2), .val (.int p3), .val (.int p4), .val (.int p5), .val (.int (p1 &&& (15 : Int32))), .val (.int (((p1.toUInt32 >>> ((4 : Int32) &&& 31).toUInt32).toInt32) &&& (15 : Int32))), .val (.int (((p1.toUInt32 >>> ((8 : Int32) &&& 31).toUInt32).toInt32) &&& (3 : Int32))), .unset, .unset, .unset, .unset, .unset] [(.int (1 : Int32)), (.int ((p1 &&& (15 : Int32)) + (((p1.toUInt32 >>> ((4 : Int32) &&& 31).toUInt32).toInt32) &&& (15 : Int32))))])) _
    refine XS.iadd X0.here hx rfl (hb hby at_28) rfl ?_
    show Steps p.tables e below (s₁.setTop (mkF m 29 #[.val (.int p0), .val (.int p1), .val (.int p2), .val (.int p3), .val (.int p4), .val (.int p5), .val (.int (p1 &&& (15 : Int32))), .val (.int (((p1.toUInt32 >>> ((4 : Int32) &&& 31).toUInt32).toInt32) &&& (15 : Int32))), .val (.int (((p1.toUInt32 >>> ((8 : Int32) &&& 31).toUInt32).toInt32) &&& (3 : Int32))), .unset, .unset, .unset, .unset, .unset] [(.int (((p1 &&& (15 : Int32)) + (((p1.toUInt32 >>> ((4 : Int32) &&& 31).toUInt32).toInt32) &&& (15 : Int32))) + (1 : Int32)))])) _
    refine XS.istore X0.here hx rfl (hb hby at_29) rfl (l' := #[.val (.int p0), .val (.int p1), .val (.int p2), .val (.int p3), .val (.int p4), .val (.int p5), .val (.int (p1 &&& (15 : Int32))), .val (.int (((p1.toUInt32 >>> ((4 : Int32) &&& 31).toUInt32).toInt32) &&& (15 : Int32))), .val (.int (((p1.toUInt32 >>> ((8 : Int32) &&& 31).toUInt32).toInt32) &&& (3 : Int32))), .val (.int (((p1 &&& (15 : Int32)) + (((p1.toUInt32 >>> ((4 : Int32) &&& 31).toUInt32).toInt32) &&& (15 : Int32))) + (1 : Int32))), .unset, .unset, .unset, .unset]) rfl ?_
    exact kont
  obtain ⟨sA, hsA⟩ : ∃ z : Int32, z = (p1 &&& (15 : Int32)) := ⟨_, rfl⟩
  rw [← hsA] at pre415
  obtain ⟨sB, hsB⟩ : ∃ z : Int32, z = (((p1.toUInt32 >>> ((4 : Int32) &&& 31).toUInt32).toInt32) &&& (15 : Int32)) := ⟨_, rfl⟩
  rw [← hsB] at pre415
  obtain ⟨nn, hnn⟩ : ∃ z : Int32, z = (((p1.toUInt32 >>> ((8 : Int32) &&& 31).toUInt32).toInt32) &&& (3 : Int32)) := ⟨_, rfl⟩
  rw [← hnn] at pre415
  obtain ⟨cn, hcn⟩ : ∃ z : Int32, z = ((sA + sB) + (1 : Int32)) := ⟨_, rfl⟩
  rw [← hcn] at pre415
  have qA := own_15 p1
  rw [← hsA] at qA
  have qB : 0 ≤ sB.toInt ∧ sB.toInt < 16 := by rw [hsB]; exact own_15 _
  have hcv : cn.toInt = sA.toInt + sB.toInt + 1 := by rw [hcn]; exact own_cn sA sB qA qB
  have hX1 : 1 ≤ (((sA.toInt64 + sB.toInt64) + (1 : Int64))).toInt := by rw [own_xv]; omega
  have hcap : ¬ (p0.toInt64 < ((sA.toInt64 + sB.toInt64) + (1 : Int64))) → (((sA.toInt64 + sB.toInt64) + (1 : Int64))).toInt ≤ (31 : Nat) := fun _ => by rw [own_xv]; omega
  have pre416 : ∀ t, Steps p.tables e below (s₁.setTop (mkF m 34 #[.val (.int p0), .val (.int p1), .val (.int p2), .val (.int p3), .val (.int p4), .val (.int p5), .val (.int sA), .val (.int sB), .val (.int nn), .val (.int cn), .unset, .unset, .unset, .unset] [(.int p0), (.int cn)])) t → Steps p.tables e below (s₁.setTop (entryFrame m #[(.int p0), (.int p1), (.int p2), (.int p3), (.int p4), (.int p5)] maxLocals)) t := by
    intro t kont
    refine pre415 t ?_
    show Steps p.tables e below (s₁.setTop (mkF m 31 #[.val (.int p0), .val (.int p1), .val (.int p2), .val (.int p3), .val (.int p4), .val (.int p5), .val (.int sA), .val (.int sB), .val (.int nn), .val (.int cn), .unset, .unset, .unset, .unset] [])) _
    refine XS.iload X0.here hx rfl (hb hby at_31) rfl ?_
    show Steps p.tables e below (s₁.setTop (mkF m 33 #[.val (.int p0), .val (.int p1), .val (.int p2), .val (.int p3), .val (.int p4), .val (.int p5), .val (.int sA), .val (.int sB), .val (.int nn), .val (.int cn), .unset, .unset, .unset, .unset] [(.int cn)])) _
    refine XS.iloadN X0.here hx rfl (hb hby at_33) rfl ?_
    exact kont
  by_cases hc34 : p0 < cn
  · have pre417 : ∀ t, Steps p.tables e below (s₁.setTop (mkF m 44 #[.val (.int p0), .val (.int p1), .val (.int p2), .val (.int p3), .val (.int p4), .val (.int p5), .val (.int sA), .val (.int sB), .val (.int nn), .val (.int cn), .val (.int (0 : Int32)), .unset, .unset, .unset] [])) t → Steps p.tables e below (s₁.setTop (entryFrame m #[(.int p0), (.int p1), (.int p2), (.int p3), (.int p4), (.int p5)] maxLocals)) t := by
      intro t kont
      refine pre416 t ?_
      show Steps p.tables e below (s₁.setTop (mkF m 34 #[.val (.int p0), .val (.int p1), .val (.int p2), .val (.int p3), .val (.int p4), .val (.int p5), .val (.int sA), .val (.int sB), .val (.int nn), .val (.int cn), .unset, .unset, .unset, .unset] [(.int p0), (.int cn)])) _
      refine XS.icmpYes X0.here hx rfl (pc0 := 34) (pc' := 41) rfl (hb hby at_34) rfl (tlt hc34).2.2.1 (by decide) (by decide) ?_
      show Steps p.tables e below (s₁.setTop (mkF m 41 #[.val (.int p0), .val (.int p1), .val (.int p2), .val (.int p3), .val (.int p4), .val (.int p5), .val (.int sA), .val (.int sB), .val (.int nn), .val (.int cn), .unset, .unset, .unset, .unset] [])) _
      refine XS.iconst X0.here hx rfl (hb hby at_41) ?_
      show Steps p.tables e below (s₁.setTop (mkF m 42 #[.val (.int p0), .val (.int p1), .val (.int p2), .val (.int p3), .val (.int p4), .val (.int p5), .val (.int sA), .val (.int sB), .val (.int nn), .val (.int cn), .unset, .unset, .unset, .unset] [(.int (0 : Int32))])) _
      refine XS.istore X0.here hx rfl (hb hby at_42) rfl (l' := #[.val (.int p0), .val (.int p1), .val (.int p2), .val (.int p3), .val (.int p4), .val (.int p5), .val (.int sA), .val (.int sB), .val (.int nn), .val (.int cn), .val (.int (0 : Int32)), .unset, .unset, .unset]) rfl ?_
      exact kont
    obtain ⟨T418, h418, X418, e418, E418, A418, D418, -, st418⟩ := newO X0 hx hZ hown (hw _ (List.mem_of_getElem? (i := 0) rfl)) (hw _ (List.mem_of_getElem? (i := 1) rfl)) (hw _ (List.mem_of_getElem? (i := 2) rfl)) e0 (g := (mkF m 44 #[.val (.int p0), .val (.int p1), .val (.int p2), .val (.int p3), .val (.int p4), .val (.int p5), .val (.int sA), .val (.int sB), .val (.int nn), .val (.int cn), .val (.int (0 : Int32)), .unset, .unset, .unset] [])) rfl (hb hby at_44) (by decide) (by decide)
    obtain ⟨b44, g418⟩ : ∃ z, z = h0.size := ⟨_, rfl⟩
    rw [← g418] at A418 D418 st418
    have g_b44 : n0 ≤ b44 := Nat.le_trans Z0 (Nat.le_of_eq g418.symm)
    have F418_endsByAlignment : Fld Z h418 b44 "com/example/impronta/impronta/engine/Alignments" "endsByAlignment" "[I" .null := D418 (Or.inl (hw _ (List.mem_of_getElem? (i := 11) rfl))) (ty := (.array .int)) (by decide)
    have F418_alignments : Fld Z h418 b44 "com/example/impronta/impronta/engine/Alignments" "alignments" "[I" .null := D418 (Or.inl (hw _ (List.mem_of_getElem? (i := 21) rfl))) (ty := (.array .int)) (by decide)
    have F418_ends : Fld Z h418 b44 "com/example/impronta/impronta/engine/Alignments" "ends" "[I" .null := D418 (Or.inl (hw _ (List.mem_of_getElem? (i := 23) rfl))) (ty := (.array .int)) (by decide)
    have F418_shift : Fld Z h418 b44 "com/example/impronta/impronta/engine/Alignments" "shift" "I" (.int (0 : Int32)) := D418 (Or.inl (hw _ (List.mem_of_getElem? (i := 25) rfl))) (ty := .int) (by decide)
    have F418_filled : Fld Z h418 b44 "com/example/impronta/impronta/engine/Alignments" "filled" "[I" .null := D418 (Or.inl (hw _ (List.mem_of_getElem? (i := 27) rfl))) (ty := (.array .int)) (by decide)
    have F418_direct : Fld Z h418 b44 "com/example/impronta/impronta/engine/Alignments" "direct" "I" (.int (0 : Int32)) := D418 (Or.inr (hw _ (List.mem_of_getElem? (i := 29) rfl))) (ty := .int) (by decide)
    have F418_ownSlots : Fld Z h418 b44 "com/example/impronta/impronta/engine/Alignments" "ownSlots" "Z" (.int (0 : Int32)) := D418 (Or.inl (hw _ (List.mem_of_getElem? (i := 36) rfl))) (ty := .boolean) (by decide)
    have F418_lowest : Fld Z h418 b44 "com/example/impronta/impronta/engine/Alignments" "lowest" "I" (.int (0 : Int32)) := D418 (Or.inl (hw _ (List.mem_of_getElem? (i := 38) rfl))) (ty := .int) (by decide)
    have F418_size : Fld Z h418 b44 "com/example/impronta/impronta/engine/Alignments" "size" "I" (.int (0 : Int32)) := D418 (Or.inl (hw _ (List.mem_of_getElem? (i := 45) rfl))) (ty := .int) (by decide)
    have Z418 : n0 ≤ h418.size := Nat.le_trans Z0 E418.1
    have pre419 : ∀ t, Steps p.tables e below (T418.setTop (mkF m 47 #[.val (.int p0), .val (.int p1), .val (.int p2), .val (.int p3), .val (.int p4), .val (.int p5), .val (.int sA), .val (.int sB), .val (.int nn), .val (.int cn), .val (.int (0 : Int32)), .unset, .unset, .unset] [(.ref b44)])) t → Steps p.tables e below (s₁.setTop (entryFrame m #[(.int p0), (.int p1), (.int p2), (.int p3), (.int p4), (.int p5)] maxLocals)) t := fun t kont => pre417 t (st418 _ kont)
    have pre420 : ∀ t, Steps p.tables e below (T418.setTop (mkF m 49 #[.val (.int p0), .val (.int p1), .val (.int p2), .val (.int p3), .val (.int p4), .val (.int p5), .val (.int sA), .val (.int sB), .val (.int nn), .val (.int cn), .val (.int (0 : Int32)), .unset, .unset, .unset] [(.int p0), (.ref b44), (.ref b44)])) t → Steps p.tables e below (s₁.setTop (entryFrame m #[(.int p0), (.int p1), (.int p2), (.int p3), (.int p4), (.int p5)] maxLocals)) t := by
      intro t kont
      refine pre419 t ?_
      show Steps p.tables e below (T418.setTop (mkF m 47 #[.val (.int p0), .val (.int p1), .val (.int p2), .val (.int p3), .val (.int p4), .val (.int p5), .val (.int sA), .val (.int sB), .val (.int nn), .val (.int cn), .val (.int (0 : Int32)), .unset, .unset, .unset] [(.ref b44)])) _
      refine XS.dup X418.here hx rfl (hb hby at_47) rfl rfl ?_
      show Steps p.tables e below (T418.setTop (mkF m 48 #[.val (.int p0), .val (.int p1), .val (.int p2), .val (.int p3), .val (.int p4), .val (.int p5), .val (.int sA), .val (.int sB), .val (.int nn), .val (.int cn), .val (.int (0 : Int32)), .unset, .unset, .unset] [(.ref b44), (.ref b44)])) _
      refine XS.iloadN X418.here hx rfl (hb hby at_48) rfl ?_
      exact kont
    obtain ⟨_, _, ⟨T421, L421, k421, n421⟩, -, X421, ⟨Lc421, hQ421, l421, y421, z421⟩, st421⟩ := X418.specialBack hx (y := (⟨"com/example/impronta/impronta/engine/Alignments", "<init>", "(I)V"⟩ : MethodName)) rfl hown (mvT hZ (hw _ (List.mem_of_getElem? (i := 3) rfl))) (mvT hZ (hw _ (List.mem_of_getElem? (i := 4) rfl))) (mvT hZ (hw _ (List.mem_of_getElem? (i := 5) rfl))) (by decide) (backOf (W := 1) (rm1 l Z a0 hw [] b44 p0  h418 n0 Z418 A418 F418_direct F418_ownSlots F418_lowest F418_size F418_shift F418_endsByAlignment F418_alignments F418_ends F418_filled g_b44) hZ (hw _ (List.mem_of_getElem? (i := 5) rfl)) (hw _ (List.mem_of_getElem? (i := 2) rfl)) (by decide) (by decide)) (g := (mkF m 49 #[.val (.int p0), .val (.int p1), .val (.int p2), .val (.int p3), .val (.int p4), .val (.int p5), .val (.int sA), .val (.int sB), .val (.int nn), .val (.int cn), .val (.int (0 : Int32)), .unset, .unset, .unset] [(.int p0), (.ref b44), (.ref b44)])) rfl (by rw [hml]; rfl) (Steps.refl _) (a := b44) (argsL := [(.int p0)]) (rest := [(.ref b44)]) (lenOf pd_4 rfl) rfl (by show 2 * 0 + _ ≤ _; exact Nat.le_of_eq rfl) (hb hby at_49) (fun _ _ => ⟨rfl, e418, (by decide : 1 + 4 ≤ _), (by decide : 9 + 40 ≤ _)⟩)
    dsimp only [Pt.U, Pt.locs, Pt.cells, Pt.slots] at X421 l421 y421 z421 st421 hQ421
    subst l421 y421 z421
    obtain ⟨rfl, N421q, Z421, be, ba, bn, bf, H421⟩ := hQ421
    have N421 := Fr.app N0 N421q
    have pre422 : ∀ t, Steps p.tables e below (T421.setTop (mkF m 52 #[.val (.int p0), .val (.int p1), .val (.int p2), .val (.int p3), .val (.int p4), .val (.int p5), .val (.int sA), .val (.int sB), .val (.int nn), .val (.int cn), .val (.int (0 : Int32)), .unset, .unset, .unset] [(.ref b44)])) t → Steps p.tables e below (s₁.setTop (entryFrame m #[(.int p0), (.int p1), (.int p2), (.int p3), (.int p4), (.int p5)] maxLocals)) t := fun t kont => pre420 t (st421.trans kont)
    have pre423 : ∀ t, Steps p.tables e below (T421.setTop (mkF m 60 #[.val (.int p0), .val (.int p1), .val (.int p2), .val (.int p3), .val (.int p4), .val (.int p5), .val (.int sA), .val (.int sB), .val (.int nn), .val (.int cn), .val (.int (0 : Int32)), .val (.ref b44), .unset, .unset] [(.int sB), (.int sA), (.ref b44)])) t → Steps p.tables e below (s₁.setTop (entryFrame m #[(.int p0), (.int p1), (.int p2), (.int p3), (.int p4), (.int p5)] maxLocals)) t := by
      intro t kont
      refine pre422 t ?_
      show Steps p.tables e below (T421.setTop (mkF m 52 #[.val (.int p0), .val (.int p1), .val (.int p2), .val (.int p3), .val (.int p4), .val (.int p5), .val (.int sA), .val (.int sB), .val (.int nn), .val (.int cn), .val (.int (0 : Int32)), .unset, .unset, .unset] [(.ref b44)])) _
      refine XS.astore X421.here hx rfl (hb hby at_52) rfl rfl (l' := #[.val (.int p0), .val (.int p1), .val (.int p2), .val (.int p3), .val (.int p4), .val (.int p5), .val (.int sA), .val (.int sB), .val (.int nn), .val (.int cn), .val (.int (0 : Int32)), .val (.ref b44), .unset, .unset]) rfl ?_
      show Steps p.tables e below (T421.setTop (mkF m 54 #[.val (.int p0), .val (.int p1), .val (.int p2), .val (.int p3), .val (.int p4), .val (.int p5), .val (.int sA), .val (.int sB), .val (.int nn), .val (.int cn), .val (.int (0 : Int32)), .val (.ref b44), .unset, .unset] [])) _
      refine XS.aload X421.here hx rfl (hb hby at_54) rfl rfl ?_
      show Steps p.tables e below (T421.setTop (mkF m 56 #[.val (.int p0), .val (.int p1), .val (.int p2), .val (.int p3), .val (.int p4), .val (.int p5), .val (.int sA), .val (.int sB), .val (.int nn), .val (.int cn), .val (.int (0 : Int32)), .val (.ref b44), .unset, .unset] [(.ref b44)])) _
      refine XS.iload X421.here hx rfl (hb hby at_56) rfl ?_
      show Steps p.tables e below (T421.setTop (mkF m 58 #[.val (.int p0), .val (.int p1), .val (.int p2), .val (.int p3), .val (.int p4), .val (.int p5), .val (.int sA), .val (.int sB), .val (.int nn), .val (.int cn), .val (.int (0 : Int32)), .val (.ref b44), .unset, .unset] [(.int sA), (.ref b44)])) _
      refine XS.iload X421.here hx rfl (hb hby at_58) rfl ?_
      exact kont
    obtain ⟨cq424, kq424, q424a, q424b, q424c⟩ := isOf hZ rfl (H421).1
    obtain ⟨_, _, ⟨T424, L424, k424, n424⟩, -, X424, ⟨Lc424, hQ424, l424, y424, z424⟩, st424⟩ := X421.virtualBack hx (y := (⟨"com/example/impronta/impronta/engine/Alignments", "start", "(II)V"⟩ : MethodName)) (z := (⟨"com/example/impronta/impronta/engine/Alignments", "start", "(II)V"⟩ : MethodName)) hown (mvT hZ (hw _ (List.mem_of_getElem? (i := 30) rfl))) (mvT hZ (hw _ (List.mem_of_getElem? (i := 31) rfl))) (notFace_of_selects (args := #[]) (mvT hZ (hw _ (List.mem_of_getElem? (i := 33) rfl)))) (mvT hZ (hw _ (List.mem_of_getElem? (i := 33) rfl))) (mvT hZ (hw _ (List.mem_of_getElem? (i := 32) rfl))) (by decide) (backOf (W := 0) (rm5 l Z a0 hw [] b44 sA sB be ba bn bf p0 (0 : Int32) (0 : Int32) (0 : Int32) 0 (fun _ => (-2147483648 : Int32)) (fun _ => (0 : Int32)) (fun _ => (0 : Int32))  T421.heap n0 Z421 H421 (by decide) hX1 hcap) hZ (hw _ (List.mem_of_getElem? (i := 34) rfl)) (hw _ (List.mem_of_getElem? (i := 2) rfl)) (by decide) (by decide)) q424a q424c (g := (mkF m 60 #[.val (.int p0), .val (.int p1), .val (.int p2), .val (.int p3), .val (.int p4), .val (.int p5), .val (.int sA), .val (.int sB), .val (.int nn), .val (.int cn), .val (.int (0 : Int32)), .val (.ref b44), .unset, .unset] [(.int sB), (.int sA), (.ref b44)])) rfl (by rw [hml]; rfl) (Steps.refl _) (argsL := [(.int sA), (.int sB)]) (rest := []) (lenOf pd_5 rfl) rfl (by show 2 * 0 + _ ≤ _; exact Nat.le_of_eq rfl) (hb hby at_60) (fun _ _ => ⟨rfl, rfl, (by decide : 5 + 1 ≤ _), (by decide : 49 + 31 ≤ _)⟩)
    dsimp only [Pt.U, Pt.locs, Pt.cells, Pt.slots] at X424 l424 y424 z424 st424 hQ424
    subst l424 y424 z424
    obtain ⟨rfl, N424q, Z424, be424, ne424, M424, G424, H424⟩ := hQ424
    have N424 := Fr.app N421 N424q
    have pre425 : ∀ t, Steps p.tables e below (T424.setTop (mkF m 63 #[.val (.int p0), .val (.int p1), .val (.int p2), .val (.int p3), .val (.int p4), .val (.int p5), .val (.int sA), .val (.int sB), .val (.int nn), .val (.int cn), .val (.int (0 : Int32)), .val (.ref b44), .unset, .unset] [])) t → Steps p.tables e below (s₁.setTop (entryFrame m #[(.int p0), (.int p1), (.int p2), (.int p3), (.int p4), (.int p5)] maxLocals)) t := fun t kont => pre423 t (st424.trans kont)
    have hno : p0.toInt64 < ((sA.toInt64 + sB.toInt64) + (1 : Int64)) := by rw [Int64.lt_iff_toInt_lt, c_i2l, own_xv]; rw [Int32.lt_iff_toInt_lt] at hc34; omega
    rw [if_pos hno] at H424
    have hcc : 1 ≤ cn.toInt ∧ cn.toInt ≤ 31 := ⟨by omega, by omega⟩
    have hI0 := own_inv0z (fun _ => (0 : Int32))
    have hn4 := own_n4 ((p1.toUInt32 >>> ((8 : Int32) &&& 31).toUInt32).toInt32)
    rw [← hnn] at hn4
    rcases hn4 with hn4 | hn4 | hn4 | hn4
    · rw [hn4] at pre425
      have pre426 : ∀ t, Steps p.tables e below (T424.setTop (mkF m 114 #[.val (.int p0), .val (.int p1), .val (.int p2), .val (.int p3), .val (.int p4), .val (.int p5), .val (.int sA), .val (.int sB), .val (.int (0 : Int32)), .val (.int cn), .val (.int (0 : Int32)), .val (.ref b44), .unset, .unset] [(.ref b44)])) t → Steps p.tables e below (s₁.setTop (entryFrame m #[(.int p0), (.int p1), (.int p2), (.int p3), (.int p4), (.int p5)] maxLocals)) t := by
        intro t kont
        refine pre425 t ?_
        show Steps p.tables e below (T424.setTop (mkF m 63 #[.val (.int p0), .val (.int p1), .val (.int p2), .val (.int p3), .val (.int p4), .val (.int p5), .val (.int sA), .val (.int sB), .val (.int (0 : Int32)), .val (.int cn), .val (.int (0 : Int32)), .val (.ref b44), .unset, .unset] [])) _
        refine XS.iload X424.here hx rfl (hb hby at_63) rfl ?_
        show Steps p.tables e below (T424.setTop (mkF m 65 #[.val (.int p0), .val (.int p1), .val (.int p2), .val (.int p3), .val (.int p4), .val (.int p5), .val (.int sA), .val (.int sB), .val (.int (0 : Int32)), .val (.int cn), .val (.int (0 : Int32)), .val (.ref b44), .unset, .unset] [(.int (0 : Int32))])) _
        refine XS.iconst X424.here hx rfl (hb hby at_65) ?_
        show Steps p.tables e below (T424.setTop (mkF m 66 #[.val (.int p0), .val (.int p1), .val (.int p2), .val (.int p3), .val (.int p4), .val (.int p5), .val (.int sA), .val (.int sB), .val (.int (0 : Int32)), .val (.int cn), .val (.int (0 : Int32)), .val (.ref b44), .unset, .unset] [(.int (1 : Int32)), (.int (0 : Int32))])) _
        refine XS.icmpYes X424.here hx rfl (pc0 := 66) (pc' := 79) rfl (hb hby at_66) rfl (tlt (by decide)).1 (by decide) (by decide) ?_
        show Steps p.tables e below (T424.setTop (mkF m 79 #[.val (.int p0), .val (.int p1), .val (.int p2), .val (.int p3), .val (.int p4), .val (.int p5), .val (.int sA), .val (.int sB), .val (.int (0 : Int32)), .val (.int cn), .val (.int (0 : Int32)), .val (.ref b44), .unset, .unset] [])) _
        refine XS.iload X424.here hx rfl (hb hby at_79) rfl ?_
        show Steps p.tables e below (T424.setTop (mkF m 81 #[.val (.int p0), .val (.int p1), .val (.int p2), .val (.int p3), .val (.int p4), .val (.int p5), .val (.int sA), .val (.int sB), .val (.int (0 : Int32)), .val (.int cn), .val (.int (0 : Int32)), .val (.ref b44), .unset, .unset] [(.int (0 : Int32))])) _
        refine XS.iconst X424.here hx rfl (hb hby at_81) ?_
        show Steps p.tables e below (T424.setTop (mkF m 82 #[.val (.int p0), .val (.int p1), .val (.int p2), .val (.int p3), .val (.int p4), .val (.int p5), .val (.int sA), .val (.int sB), .val (.int (0 : Int32)), .val (.int cn), .val (.int (0 : Int32)), .val (.ref b44), .unset, .unset] [(.int (2 : Int32)), (.int (0 : Int32))])) _
        refine XS.icmpYes X424.here hx rfl (pc0 := 82) (pc' := 95) rfl (hb hby at_82) rfl (tlt (by decide)).1 (by decide) (by decide) ?_
        show Steps p.tables e below (T424.setTop (mkF m 95 #[.val (.int p0), .val (.int p1), .val (.int p2), .val (.int p3), .val (.int p4), .val (.int p5), .val (.int sA), .val (.int sB), .val (.int (0 : Int32)), .val (.int cn), .val (.int (0 : Int32)), .val (.ref b44), .unset, .unset] [])) _
        refine XS.iload X424.here hx rfl (hb hby at_95) rfl ?_
        show Steps p.tables e below (T424.setTop (mkF m 97 #[.val (.int p0), .val (.int p1), .val (.int p2), .val (.int p3), .val (.int p4), .val (.int p5), .val (.int sA), .val (.int sB), .val (.int (0 : Int32)), .val (.int cn), .val (.int (0 : Int32)), .val (.ref b44), .unset, .unset] [(.int (0 : Int32))])) _
        refine XS.iconst X424.here hx rfl (hb hby at_97) ?_
        show Steps p.tables e below (T424.setTop (mkF m 98 #[.val (.int p0), .val (.int p1), .val (.int p2), .val (.int p3), .val (.int p4), .val (.int p5), .val (.int sA), .val (.int sB), .val (.int (0 : Int32)), .val (.int cn), .val (.int (0 : Int32)), .val (.ref b44), .unset, .unset] [(.int (3 : Int32)), (.int (0 : Int32))])) _
        refine XS.icmpYes X424.here hx rfl (pc0 := 98) (pc' := 112) rfl (hb hby at_98) rfl (tlt (by decide)).1 (by decide) (by decide) ?_
        show Steps p.tables e below (T424.setTop (mkF m 112 #[.val (.int p0), .val (.int p1), .val (.int p2), .val (.int p3), .val (.int p4), .val (.int p5), .val (.int sA), .val (.int sB), .val (.int (0 : Int32)), .val (.int cn), .val (.int (0 : Int32)), .val (.ref b44), .unset, .unset] [])) _
        refine XS.aload X424.here hx rfl (hb hby at_112) rfl rfl ?_
        exact kont
      obtain ⟨cq427, kq427, q427a, q427b, q427c⟩ := isOf hZ rfl (H424).1
      obtain ⟨_, _, ⟨T427, L427, k427, n427⟩, -, X427, ⟨Lc427, hQ427, l427, y427, z427⟩, st427⟩ := X424.virtualBack hx (y := (⟨"com/example/impronta/impronta/engine/Alignments", "clear", "()V"⟩ : MethodName)) (z := (⟨"com/example/impronta/impronta/engine/Alignments", "clear", "()V"⟩ : MethodName)) hown (mvT hZ (hw _ (List.mem_of_getElem? (i := 39) rfl))) (mvT hZ (hw _ (List.mem_of_getElem? (i := 40) rfl))) (notFace_of_selects (args := #[]) (mvT hZ (hw _ (List.mem_of_getElem? (i := 42) rfl)))) (mvT hZ (hw _ (List.mem_of_getElem? (i := 42) rfl))) (mvT hZ (hw _ (List.mem_of_getElem? (i := 41) rfl))) (by decide) (backOf (W := 0) (rm6b l Z a0 hw [] b44 be424 ba bn bf p0 (-sA) (0 : Int32) ne424 (fun _ => (0 : Int32)) (fun _ => (-2147483648 : Int32)) (fun _ => (0 : Int32)) (fun _ => (0 : Int32)) 0  T424.heap n0 Z424 H424 hI0 (by decide) (by decide)) hZ (hw _ (List.mem_of_getElem? (i := 43) rfl)) (hw _ (List.mem_of_getElem? (i := 2) rfl)) (by decide) (by decide)) q427a q427c (g := (mkF m 114 #[.val (.int p0), .val (.int p1), .val (.int p2), .val (.int p3), .val (.int p4), .val (.int p5), .val (.int sA), .val (.int sB), .val (.int (0 : Int32)), .val (.int cn), .val (.int (0 : Int32)), .val (.ref b44), .unset, .unset] [(.ref b44)])) rfl (by rw [hml]; rfl) (Steps.refl _) (argsL := []) (rest := []) (lenOf pd_6 rfl) rfl (by show 2 * 0 + _ ≤ _; exact Nat.le_of_eq rfl) (hb hby at_114) (fun _ _ => ⟨rfl, rfl, (by decide : 6 + 0 ≤ _), (by decide : 80 + 0 ≤ _)⟩)
      dsimp only [Pt.U, Pt.locs, Pt.cells, Pt.slots] at X427 l427 y427 z427 st427 hQ427
      subst l427 y427 z427
      obtain ⟨rfl, N427q, Z427, H427⟩ := hQ427
      have N427 := Fr.app N424 N427q
      have pre428 : ∀ t, Steps p.tables e below (T427.setTop (mkF m 117 #[.val (.int p0), .val (.int p1), .val (.int p2), .val (.int p3), .val (.int p4), .val (.int p5), .val (.int sA), .val (.int sB), .val (.int (0 : Int32)), .val (.int cn), .val (.int (0 : Int32)), .val (.ref b44), .unset, .unset] [])) t → Steps p.tables e below (s₁.setTop (entryFrame m #[(.int p0), (.int p1), (.int p2), (.int p3), (.int p4), (.int p5)] maxLocals)) t := fun t kont => pre426 t (st427.trans kont)
      have pre429 : ∀ t, Steps p.tables e below (T427.setTop (mkF m 171 #[.val (.int p0), .val (.int p1), .val (.int p2), .val (.int p3), .val (.int p4), .val (.int p5), .val (.int sA), .val (.int sB), .val (.int (0 : Int32)), .val (.int cn), .val (.int (0 : Int32)), .val (.ref b44), .unset, .unset] [(.int p5), (.ref b44)])) t → Steps p.tables e below (s₁.setTop (entryFrame m #[(.int p0), (.int p1), (.int p2), (.int p3), (.int p4), (.int p5)] maxLocals)) t := by
        intro t kont
        refine pre428 t ?_
        show Steps p.tables e below (T427.setTop (mkF m 117 #[.val (.int p0), .val (.int p1), .val (.int p2), .val (.int p3), .val (.int p4), .val (.int p5), .val (.int sA), .val (.int sB), .val (.int (0 : Int32)), .val (.int cn), .val (.int (0 : Int32)), .val (.ref b44), .unset, .unset] [])) _
        refine XS.iload X427.here hx rfl (hb hby at_117) rfl ?_
        show Steps p.tables e below (T427.setTop (mkF m 119 #[.val (.int p0), .val (.int p1), .val (.int p2), .val (.int p3), .val (.int p4), .val (.int p5), .val (.int sA), .val (.int sB), .val (.int (0 : Int32)), .val (.int cn), .val (.int (0 : Int32)), .val (.ref b44), .unset, .unset] [(.int (0 : Int32))])) _
        refine XS.ifYes X427.here hx rfl (pc0 := 119) (pc' := 167) rfl (hb hby at_119) rfl ((if0 _ _).trans (teq (by decide)).1) (by decide) (by decide) ?_
        show Steps p.tables e below (T427.setTop (mkF m 167 #[.val (.int p0), .val (.int p1), .val (.int p2), .val (.int p3), .val (.int p4), .val (.int p5), .val (.int sA), .val (.int sB), .val (.int (0 : Int32)), .val (.int cn), .val (.int (0 : Int32)), .val (.ref b44), .unset, .unset] [])) _
        refine XS.aload X427.here hx rfl (hb hby at_167) rfl rfl ?_
        show Steps p.tables e below (T427.setTop (mkF m 169 #[.val (.int p0), .val (.int p1), .val (.int p2), .val (.int p3), .val (.int p4), .val (.int p5), .val (.int sA), .val (.int sB), .val (.int (0 : Int32)), .val (.int cn), .val (.int (0 : Int32)), .val (.ref b44), .unset, .unset] [(.ref b44)])) _
        refine XS.iload X427.here hx rfl (hb hby at_169) rfl ?_
        exact kont
      obtain ⟨cq430, kq430, q430a, q430b, q430c⟩ := isOf hZ rfl (H427).1
      obtain ⟨_, _, ⟨T430, L430, k430, n430⟩, -, X430, ⟨Lc430, hQ430, l430, y430, z430⟩, st430⟩ := X427.virtualBack hx (y := (⟨"com/example/impronta/impronta/engine/Alignments", "slot", "(I)I"⟩ : MethodName)) (z := (⟨"com/example/impronta/impronta/engine/Alignments", "slot", "(I)I"⟩ : MethodName)) hown (mvT hZ (hw _ (List.mem_of_getElem? (i := 46) rfl))) (mvT hZ (hw _ (List.mem_of_getElem? (i := 47) rfl))) (notFace_of_selects (args := #[]) (mvT hZ (hw _ (List.mem_of_getElem? (i := 49) rfl)))) (mvT hZ (hw _ (List.mem_of_getElem? (i := 49) rfl))) (mvT hZ (hw _ (List.mem_of_getElem? (i := 48) rfl))) (by decide) (backOf (W := 0) (rm7 l Z a0 hw [] b44 p5 be424 ba bn bf p0 (0 : Int32) (-sA) (0 : Int32) ne424 (fun _ => (0 : Int32)) (fun _ => (-2147483648 : Int32)) (fun _ => (0 : Int32)) (fun _ => (0 : Int32))  T427.heap n0 Z427 H427 (fun _ => Or.inl rfl)) hZ (hw _ (List.mem_of_getElem? (i := 50) rfl)) (hw _ (List.mem_of_getElem? (i := 2) rfl)) (by decide) (by decide)) q430a q430c (g := (mkF m 171 #[.val (.int p0), .val (.int p1), .val (.int p2), .val (.int p3), .val (.int p4), .val (.int p5), .val (.int sA), .val (.int sB), .val (.int (0 : Int32)), .val (.int cn), .val (.int (0 : Int32)), .val (.ref b44), .unset, .unset] [(.int p5), (.ref b44)])) rfl (by rw [hml]; rfl) (Steps.refl _) (argsL := [(.int p5)]) (rest := []) (lenOf pd_2 rfl) rfl (by show 2 * 0 + _ ≤ _; exact Nat.le_of_eq rfl) (hb hby at_171) (fun _ _ => ⟨rfl, rfl, (by decide : 6 + 0 ≤ _), (by decide : 80 + 0 ≤ _)⟩)
      dsimp only [Pt.U, Pt.locs, Pt.cells, Pt.slots] at X430 l430 y430 z430 st430 hQ430
      subst l430 y430 z430
      obtain ⟨rfl, N430q, e430⟩ := hQ430
      have N430 := Fr.app N427 N430q
      have pre431 : ∀ t, Steps p.tables e below (T430.setTop (mkF m 174 #[.val (.int p0), .val (.int p1), .val (.int p2), .val (.int p3), .val (.int p4), .val (.int p5), .val (.int sA), .val (.int sB), .val (.int (0 : Int32)), .val (.int cn), .val (.int (0 : Int32)), .val (.ref b44), .unset, .unset] [(.int (own_slot (0 : Int32) (-sA) (fun _ => (-2147483648 : Int32)) p5))])) t → Steps p.tables e below (s₁.setTop (entryFrame m #[(.int p0), (.int p1), (.int p2), (.int p3), (.int p4), (.int p5)] maxLocals)) t := fun t kont => pre429 t (st430.trans kont)
      have rq432 : (own_slot (0 : Int32) (-sA) (fun _ => (-2147483648 : Int32)) p5) = (((p5 * (-1640531527 : Int32)).toUInt32 >>> ((28 : Int32) &&& 31).toUInt32).toInt32) := own_sB _ _
      rw [rq432] at pre431
      have pre433 : ∀ t, Steps p.tables e below (T430.setTop (mkF m 190 #[.val (.int p0), .val (.int p1), .val (.int p2), .val (.int p3), .val (.int p4), .val (.int p5), .val (.int sA), .val (.int sB), .val (.int (0 : Int32)), .val (.int cn), .val (.int (0 : Int32)), .val (.ref b44), .val (.int (((p5 * (-1640531527 : Int32)).toUInt32 >>> ((28 : Int32) &&& 31).toUInt32).toInt32)), .val (.int (((p5 * (-1640531527 : Int32)).toUInt32 >>> ((28 : Int32) &&& 31).toUInt32).toInt32))] [(.int (((p5 * (-1640531527 : Int32)).toUInt32 >>> ((28 : Int32) &&& 31).toUInt32).toInt32)), (.int (((p5 * (-1640531527 : Int32)).toUInt32 >>> ((28 : Int32) &&& 31).toUInt32).toInt32))])) t → Steps p.tables e below (s₁.setTop (entryFrame m #[(.int p0), (.int p1), (.int p2), (.int p3), (.int p4), (.int p5)] maxLocals)) t := by
        intro t kont
        refine pre431 t ?_
        show Steps p.tables e below (T430.setTop (mkF m 174 #[.val (.int p0), .val (.int p1), .val (.int p2), .val (.int p3), .val (.int p4), .val (.int p5), .val (.int sA), .val (.int sB), .val (.int (0 : Int32)), .val (.int cn), .val (.int (0 : Int32)), .val (.ref b44), .unset, .unset] [(.int (((p5 * (-1640531527 : Int32)).toUInt32 >>> ((28 : Int32) &&& 31).toUInt32).toInt32))])) _
        refine XS.istore X430.here hx rfl (hb hby at_174) rfl (l' := #[.val (.int p0), .val (.int p1), .val (.int p2), .val (.int p3), .val (.int p4), .val (.int p5), .val (.int sA), .val (.int sB), .val (.int (0 : Int32)), .val (.int cn), .val (.int (0 : Int32)), .val (.ref b44), .val (.int (((p5 * (-1640531527 : Int32)).toUInt32 >>> ((28 : Int32) &&& 31).toUInt32).toInt32)), .unset]) rfl ?_
        show Steps p.tables e below (T430.setTop (mkF m 176 #[.val (.int p0), .val (.int p1), .val (.int p2), .val (.int p3), .val (.int p4), .val (.int p5), .val (.int sA), .val (.int sB), .val (.int (0 : Int32)), .val (.int cn), .val (.int (0 : Int32)), .val (.ref b44), .val (.int (((p5 * (-1640531527 : Int32)).toUInt32 >>> ((28 : Int32) &&& 31).toUInt32).toInt32)), .unset] [])) _
        refine XS.iload X430.here hx rfl (hb hby at_176) rfl ?_
        show Steps p.tables e below (T430.setTop (mkF m 178 #[.val (.int p0), .val (.int p1), .val (.int p2), .val (.int p3), .val (.int p4), .val (.int p5), .val (.int sA), .val (.int sB), .val (.int (0 : Int32)), .val (.int cn), .val (.int (0 : Int32)), .val (.ref b44), .val (.int (((p5 * (-1640531527 : Int32)).toUInt32 >>> ((28 : Int32) &&& 31).toUInt32).toInt32)), .unset] [(.int p5)])) _
        refine X430.ldcInt hx hown (mvT hZ (hw _ (List.mem_of_getElem? (i := 52) rfl))) (g := (mkF m 178 #[.val (.int p0), .val (.int p1), .val (.int p2), .val (.int p3), .val (.int p4), .val (.int p5), .val (.int sA), .val (.int sB), .val (.int (0 : Int32)), .val (.int cn), .val (.int (0 : Int32)), .val (.ref b44), .val (.int (((p5 * (-1640531527 : Int32)).toUInt32 >>> ((28 : Int32) &&& 31).toUInt32).toInt32)), .unset] [(.int p5)])) rfl (hb hby at_178) _ ?_
        show Steps p.tables e below (T430.setTop (mkF m 180 #[.val (.int p0), .val (.int p1), .val (.int p2), .val (.int p3), .val (.int p4), .val (.int p5), .val (.int sA), .val (.int sB), .val (.int (0 : Int32)), .val (.int cn), .val (.int (0 : Int32)), .val (.ref b44), .val (.int (((p5 * (-1640531527 : Int32)).toUInt32 >>> ((28 : Int32) &&& 31).toUInt32).toInt32)), .unset] [(.int (-1640531527 : Int32)), (.int p5)])) _
        refine XS.imul X430.here hx rfl (hb hby at_180) rfl ?_
        show Steps p.tables e below (T430.setTop (mkF m 181 #[.val (.int p0), .val (.int p1), .val (.int p2), .val (.int p3), .val (.int p4), .val (.int p5), .val (.int sA), .val (.int sB), .val (.int (0 : Int32)), .val (.int cn), .val (.int (0 : Int32)), .val (.ref b44), .val (.int (((p5 * (-1640531527 : Int32)).toUInt32 >>> ((28 : Int32) &&& 31).toUInt32).toInt32)), .unset] [(.int (p5 * (-1640531527 : Int32)))])) _
        refine XS.bipush X430.here hx rfl (hb hby at_181) ?_
        show Steps p.tables e below (T430.setTop (mkF m 183 #[.val (.int p0), .val (.int p1), .val (.int p2), .val (.int p3), .val (.int p4), .val (.int p5), .val (.int sA), .val (.int sB), .val (.int (0 : Int32)), .val (.int cn), .val (.int (0 : Int32)), .val (.ref b44), .val (.int (((p5 * (-1640531527 : Int32)).toUInt32 >>> ((28 : Int32) &&& 31).toUInt32).toInt32)), .unset] [(.int (28 : Int32)), (.int (p5 * (-1640531527 : Int32)))])) _
        refine XS.iushr X430.here hx rfl (hb hby at_183) rfl ?_
        show Steps p.tables e below (T430.setTop (mkF m 184 #[.val (.int p0), .val (.int p1), .val (.int p2), .val (.int p3), .val (.int p4), .val (.int p5), .val (.int sA), .val (.int sB), .val (.int (0 : Int32)), .val (.int cn), .val (.int (0 : Int32)), .val (.ref b44), .val (.int (((p5 * (-1640531527 : Int32)).toUInt32 >>> ((28 : Int32) &&& 31).toUInt32).toInt32)), .unset] [(.int (((p5 * (-1640531527 : Int32)).toUInt32 >>> ((28 : Int32) &&& 31).toUInt32).toInt32))])) _
        refine XS.istore X430.here hx rfl (hb hby at_184) rfl (l' := #[.val (.int p0), .val (.int p1), .val (.int p2), .val (.int p3), .val (.int p4), .val (.int p5), .val (.int sA), .val (.int sB), .val (.int (0 : Int32)), .val (.int cn), .val (.int (0 : Int32)), .val (.ref b44), .val (.int (((p5 * (-1640531527 : Int32)).toUInt32 >>> ((28 : Int32) &&& 31).toUInt32).toInt32)), .val (.int (((p5 * (-1640531527 : Int32)).toUInt32 >>> ((28 : Int32) &&& 31).toUInt32).toInt32))]) rfl ?_
        show Steps p.tables e below (T430.setTop (mkF m 186 #[.val (.int p0), .val (.int p1), .val (.int p2), .val (.int p3), .val (.int p4), .val (.int p5), .val (.int sA), .val (.int sB), .val (.int (0 : Int32)), .val (.int cn), .val (.int (0 : Int32)), .val (.ref b44), .val (.int (((p5 * (-1640531527 : Int32)).toUInt32 >>> ((28 : Int32) &&& 31).toUInt32).toInt32)), .val (.int (((p5 * (-1640531527 : Int32)).toUInt32 >>> ((28 : Int32) &&& 31).toUInt32).toInt32))] [])) _
        refine XS.iload X430.here hx rfl (hb hby at_186) rfl ?_
        show Steps p.tables e below (T430.setTop (mkF m 188 #[.val (.int p0), .val (.int p1), .val (.int p2), .val (.int p3), .val (.int p4), .val (.int p5), .val (.int sA), .val (.int sB), .val (.int (0 : Int32)), .val (.int cn), .val (.int (0 : Int32)), .val (.ref b44), .val (.int (((p5 * (-1640531527 : Int32)).toUInt32 >>> ((28 : Int32) &&& 31).toUInt32).toInt32)), .val (.int (((p5 * (-1640531527 : Int32)).toUInt32 >>> ((28 : Int32) &&& 31).toUInt32).toInt32))] [(.int (((p5 * (-1640531527 : Int32)).toUInt32 >>> ((28 : Int32) &&& 31).toUInt32).toInt32))])) _
        refine XS.iload X430.here hx rfl (hb hby at_188) rfl ?_
        exact kont
      by_cases hc190 : (((p5 * (-1640531527 : Int32)).toUInt32 >>> ((28 : Int32) &&& 31).toUInt32).toInt32) = (((p5 * (-1640531527 : Int32)).toUInt32 >>> ((28 : Int32) &&& 31).toUInt32).toInt32)
      · have pre434 : ∀ t, Steps p.tables e below (T430.setTop (mkF m 197 #[.val (.int p0), .val (.int p1), .val (.int p2), .val (.int p3), .val (.int p4), .val (.int p5), .val (.int sA), .val (.int sB), .val (.int (0 : Int32)), .val (.int cn), .val (.int (0 : Int32)), .val (.ref b44), .val (.int (((p5 * (-1640531527 : Int32)).toUInt32 >>> ((28 : Int32) &&& 31).toUInt32).toInt32)), .val (.int (((p5 * (-1640531527 : Int32)).toUInt32 >>> ((28 : Int32) &&& 31).toUInt32).toInt32))] [(.int (((p5 * (-1640531527 : Int32)).toUInt32 >>> ((28 : Int32) &&& 31).toUInt32).toInt32)), (.ref b44)])) t → Steps p.tables e below (s₁.setTop (entryFrame m #[(.int p0), (.int p1), (.int p2), (.int p3), (.int p4), (.int p5)] maxLocals)) t := by
          intro t kont
          refine pre433 t ?_
          show Steps p.tables e below (T430.setTop (mkF m 190 #[.val (.int p0), .val (.int p1), .val (.int p2), .val (.int p3), .val (.int p4), .val (.int p5), .val (.int sA), .val (.int sB), .val (.int (0 : Int32)), .val (.int cn), .val (.int (0 : Int32)), .val (.ref b44), .val (.int (((p5 * (-1640531527 : Int32)).toUInt32 >>> ((28 : Int32) &&& 31).toUInt32).toInt32)), .val (.int (((p5 * (-1640531527 : Int32)).toUInt32 >>> ((28 : Int32) &&& 31).toUInt32).toInt32))] [(.int (((p5 * (-1640531527 : Int32)).toUInt32 >>> ((28 : Int32) &&& 31).toUInt32).toInt32)), (.int (((p5 * (-1640531527 : Int32)).toUInt32 >>> ((28 : Int32) &&& 31).toUInt32).toInt32))])) _
          refine XS.icmpNo X430.here hx rfl (hb hby at_190) rfl (teq hc190).2 ?_
          show Steps p.tables e below (T430.setTop (mkF m 193 #[.val (.int p0), .val (.int p1), .val (.int p2), .val (.int p3), .val (.int p4), .val (.int p5), .val (.int sA), .val (.int sB), .val (.int (0 : Int32)), .val (.int cn), .val (.int (0 : Int32)), .val (.ref b44), .val (.int (((p5 * (-1640531527 : Int32)).toUInt32 >>> ((28 : Int32) &&& 31).toUInt32).toInt32)), .val (.int (((p5 * (-1640531527 : Int32)).toUInt32 >>> ((28 : Int32) &&& 31).toUInt32).toInt32))] [])) _
          refine XS.aload X430.here hx rfl (hb hby at_193) rfl rfl ?_
          show Steps p.tables e below (T430.setTop (mkF m 195 #[.val (.int p0), .val (.int p1), .val (.int p2), .val (.int p3), .val (.int p4), .val (.int p5), .val (.int sA), .val (.int sB), .val (.int (0 : Int32)), .val (.int cn), .val (.int (0 : Int32)), .val (.ref b44), .val (.int (((p5 * (-1640531527 : Int32)).toUInt32 >>> ((28 : Int32) &&& 31).toUInt32).toInt32)), .val (.int (((p5 * (-1640531527 : Int32)).toUInt32 >>> ((28 : Int32) &&& 31).toUInt32).toInt32))] [(.ref b44)])) _
          refine XS.iload X430.here hx rfl (hb hby at_195) rfl ?_
          exact kont
        obtain ⟨cq435, kq435, q435a, q435b, q435c⟩ := isOf hZ e430 (H427).1
        obtain ⟨_, _, ⟨T435, L435, k435, n435⟩, -, X435, ⟨Lc435, hQ435, l435, y435, z435⟩, st435⟩ := X430.virtualBack hx (y := (⟨"com/example/impronta/impronta/engine/Alignments", "end", "(I)I"⟩ : MethodName)) (z := (⟨"com/example/impronta/impronta/engine/Alignments", "end", "(I)I"⟩ : MethodName)) hown (mvT hZ (hw _ (List.mem_of_getElem? (i := 53) rfl))) (mvT hZ (hw _ (List.mem_of_getElem? (i := 54) rfl))) (notFace_of_selects (args := #[]) (mvT hZ (hw _ (List.mem_of_getElem? (i := 56) rfl)))) (mvT hZ (hw _ (List.mem_of_getElem? (i := 56) rfl))) (mvT hZ (hw _ (List.mem_of_getElem? (i := 55) rfl))) (by decide) (backOf (W := 0) (rm8 l Z a0 hw [] b44 (((p5 * (-1640531527 : Int32)).toUInt32 >>> ((28 : Int32) &&& 31).toUInt32).toInt32) be424 ba bn bf p0 (0 : Int32) (-sA) (0 : Int32) ne424 (fun _ => (0 : Int32)) (fun _ => (-2147483648 : Int32)) (fun _ => (0 : Int32)) (fun _ => (0 : Int32)) (((p5 * (-1640531527 : Int32)).toUInt32 >>> ((28 : Int32) &&& 31).toUInt32).toInt32).toNatClampNeg  T427.heap n0 Z427 H427 (own_home p5).1 rfl (fun _ => (own_home p5).2) (fun q => absurd rfl q)) hZ (hw _ (List.mem_of_getElem? (i := 57) rfl)) (hw _ (List.mem_of_getElem? (i := 2) rfl)) (by decide) (by decide)) q435a q435c (g := (mkF m 197 #[.val (.int p0), .val (.int p1), .val (.int p2), .val (.int p3), .val (.int p4), .val (.int p5), .val (.int sA), .val (.int sB), .val (.int (0 : Int32)), .val (.int cn), .val (.int (0 : Int32)), .val (.ref b44), .val (.int (((p5 * (-1640531527 : Int32)).toUInt32 >>> ((28 : Int32) &&& 31).toUInt32).toInt32)), .val (.int (((p5 * (-1640531527 : Int32)).toUInt32 >>> ((28 : Int32) &&& 31).toUInt32).toInt32))] [(.int (((p5 * (-1640531527 : Int32)).toUInt32 >>> ((28 : Int32) &&& 31).toUInt32).toInt32)), (.ref b44)])) rfl (by rw [hml]; rfl) (Steps.refl _) (argsL := [(.int (((p5 * (-1640531527 : Int32)).toUInt32 >>> ((28 : Int32) &&& 31).toUInt32).toInt32))]) (rest := []) (lenOf pd_2 rfl) rfl (by show 2 * 0 + _ ≤ _; exact Nat.le_of_eq rfl) (hb hby at_197) (fun _ _ => ⟨rfl, e430, (by decide : 6 + 0 ≤ _), (by decide : 80 + 0 ≤ _)⟩)
        dsimp only [Pt.U, Pt.locs, Pt.cells, Pt.slots] at X435 l435 y435 z435 st435 hQ435
        subst l435 y435 z435
        obtain ⟨rfl, N435q, e435⟩ := hQ435
        have N435 := Fr.app N430 N435q
        have pre436 : ∀ t, Steps p.tables e below (T435.setTop (mkF m 200 #[.val (.int p0), .val (.int p1), .val (.int p2), .val (.int p3), .val (.int p4), .val (.int p5), .val (.int sA), .val (.int sB), .val (.int (0 : Int32)), .val (.int cn), .val (.int (0 : Int32)), .val (.ref b44), .val (.int (((p5 * (-1640531527 : Int32)).toUInt32 >>> ((28 : Int32) &&& 31).toUInt32).toInt32)), .val (.int (((p5 * (-1640531527 : Int32)).toUInt32 >>> ((28 : Int32) &&& 31).toUInt32).toInt32))] [(.int (own_end (0 : Int32) (fun _ => (0 : Int32)) (fun _ => (0 : Int32)) (((p5 * (-1640531527 : Int32)).toUInt32 >>> ((28 : Int32) &&& 31).toUInt32).toInt32).toNatClampNeg))])) t → Steps p.tables e below (s₁.setTop (entryFrame m #[(.int p0), (.int p1), (.int p2), (.int p3), (.int p4), (.int p5)] maxLocals)) t := fun t kont => pre434 t (st435.trans kont)
        have rq437 : (own_end (0 : Int32) (fun _ => (0 : Int32)) (fun _ => (0 : Int32)) (((p5 * (-1640531527 : Int32)).toUInt32 >>> ((28 : Int32) &&& 31).toUInt32).toInt32).toNatClampNeg) = (0 : Int32) := own_end0 _ _ _
        rw [rq437] at pre436
        have pre438 : ∀ t, Steps p.tables e below (T435.setTop (mkF m 208 #[.val (.int p0), .val (.int p1), .val (.int p2), .val (.int p3), .val (.int p4), .val (.int p5), .val (.int sA), .val (.int sB), .val (.int (0 : Int32)), .val (.int cn), .val (.int (0 : Int32)), .val (.ref b44), .val (.int (((p5 * (-1640531527 : Int32)).toUInt32 >>> ((28 : Int32) &&& 31).toUInt32).toInt32)), .val (.int (((p5 * (-1640531527 : Int32)).toUInt32 >>> ((28 : Int32) &&& 31).toUInt32).toInt32))] [(.int (1 : Int32))])) t → Steps p.tables e below (s₁.setTop (entryFrame m #[(.int p0), (.int p1), (.int p2), (.int p3), (.int p4), (.int p5)] maxLocals)) t := by
          intro t kont
          refine pre436 t ?_
          show Steps p.tables e below (T435.setTop (mkF m 200 #[.val (.int p0), .val (.int p1), .val (.int p2), .val (.int p3), .val (.int p4), .val (.int p5), .val (.int sA), .val (.int sB), .val (.int (0 : Int32)), .val (.int cn), .val (.int (0 : Int32)), .val (.ref b44), .val (.int (((p5 * (-1640531527 : Int32)).toUInt32 >>> ((28 : Int32) &&& 31).toUInt32).toInt32)), .val (.int (((p5 * (-1640531527 : Int32)).toUInt32 >>> ((28 : Int32) &&& 31).toUInt32).toInt32))] [(.int (0 : Int32))])) _
          refine XS.ifNo X435.here hx rfl (hb hby at_200) rfl ((if0 _ _).trans (teq (by decide)).2) ?_
          show Steps p.tables e below (T435.setTop (mkF m 203 #[.val (.int p0), .val (.int p1), .val (.int p2), .val (.int p3), .val (.int p4), .val (.int p5), .val (.int sA), .val (.int sB), .val (.int (0 : Int32)), .val (.int cn), .val (.int (0 : Int32)), .val (.ref b44), .val (.int (((p5 * (-1640531527 : Int32)).toUInt32 >>> ((28 : Int32) &&& 31).toUInt32).toInt32)), .val (.int (((p5 * (-1640531527 : Int32)).toUInt32 >>> ((28 : Int32) &&& 31).toUInt32).toInt32))] [])) _
          refine XS.iconst X435.here hx rfl (hb hby at_203) ?_
          show Steps p.tables e below (T435.setTop (mkF m 204 #[.val (.int p0), .val (.int p1), .val (.int p2), .val (.int p3), .val (.int p4), .val (.int p5), .val (.int sA), .val (.int sB), .val (.int (0 : Int32)), .val (.int cn), .val (.int (0 : Int32)), .val (.ref b44), .val (.int (((p5 * (-1640531527 : Int32)).toUInt32 >>> ((28 : Int32) &&& 31).toUInt32).toInt32)), .val (.int (((p5 * (-1640531527 : Int32)).toUInt32 >>> ((28 : Int32) &&& 31).toUInt32).toInt32))] [(.int (1 : Int32))])) _
          refine XS.goto X435.here hx rfl (pc0 := 204) (pc' := 208) rfl (hb hby at_204) (by decide) (by decide) ?_
          exact kont
        obtain ⟨fs, hr, hrun, hended, hW, hsame⟩ := X435.leave (v := some (.int (1 : Int32))) (fun h => by rw [Bd.returns] at h; cases h)
        refine ⟨_, _, pre438 _ ?_, hrun, hended, _, _, rfl, ?_, ⟨_, rfl⟩, hW, hsame.mono (by decide) (by decide)⟩
        · exact retN X435 hx (t := .boolean) Bd.returns (by simp) (hb hby at_208) hr
        · show Q0 Z p0 p1 p2 p3 p4 p5 h0 n0 _ T435.heap _
          rw [e435]
          exact ⟨rfl, N435⟩
      · exfalso
        first | exact hc200 rfl | exact hc190 rfl
    · rw [hn4] at pre425
      have pre439 : ∀ t, Steps p.tables e below (T424.setTop (mkF m 76 #[.val (.int p0), .val (.int p1), .val (.int p2), .val (.int p3), .val (.int p4), .val (.int p5), .val (.int sA), .val (.int sB), .val (.int (1 : Int32)), .val (.int cn), .val (.int (0 : Int32)), .val (.ref b44), .unset, .unset] [(.int p2), (.int cn), (.int sA), (.ref b44)])) t → Steps p.tables e below (s₁.setTop (entryFrame m #[(.int p0), (.int p1), (.int p2), (.int p3), (.int p4), (.int p5)] maxLocals)) t := by
        intro t kont
        refine pre425 t ?_
        show Steps p.tables e below (T424.setTop (mkF m 63 #[.val (.int p0), .val (.int p1), .val (.int p2), .val (.int p3), .val (.int p4), .val (.int p5), .val (.int sA), .val (.int sB), .val (.int (1 : Int32)), .val (.int cn), .val (.int (0 : Int32)), .val (.ref b44), .unset, .unset] [])) _
        refine XS.iload X424.here hx rfl (hb hby at_63) rfl ?_
        show Steps p.tables e below (T424.setTop (mkF m 65 #[.val (.int p0), .val (.int p1), .val (.int p2), .val (.int p3), .val (.int p4), .val (.int p5), .val (.int sA), .val (.int sB), .val (.int (1 : Int32)), .val (.int cn), .val (.int (0 : Int32)), .val (.ref b44), .unset, .unset] [(.int (1 : Int32))])) _
        refine XS.iconst X424.here hx rfl (hb hby at_65) ?_
        show Steps p.tables e below (T424.setTop (mkF m 66 #[.val (.int p0), .val (.int p1), .val (.int p2), .val (.int p3), .val (.int p4), .val (.int p5), .val (.int sA), .val (.int sB), .val (.int (1 : Int32)), .val (.int cn), .val (.int (0 : Int32)), .val (.ref b44), .unset, .unset] [(.int (1 : Int32)), (.int (1 : Int32))])) _
        refine XS.icmpNo X424.here hx rfl (hb hby at_66) rfl (flt (by decide)).1 ?_
        show Steps p.tables e below (T424.setTop (mkF m 69 #[.val (.int p0), .val (.int p1), .val (.int p2), .val (.int p3), .val (.int p4), .val (.int p5), .val (.int sA), .val (.int sB), .val (.int (1 : Int32)), .val (.int cn), .val (.int (0 : Int32)), .val (.ref b44), .unset, .unset] [])) _
        refine XS.aload X424.here hx rfl (hb hby at_69) rfl rfl ?_
        show Steps p.tables e below (T424.setTop (mkF m 71 #[.val (.int p0), .val (.int p1), .val (.int p2), .val (.int p3), .val (.int p4), .val (.int p5), .val (.int sA), .val (.int sB), .val (.int (1 : Int32)), .val (.int cn), .val (.int (0 : Int32)), .val (.ref b44), .unset, .unset] [(.ref b44)])) _
        refine XS.iload X424.here hx rfl (hb hby at_71) rfl ?_
        show Steps p.tables e below (T424.setTop (mkF m 73 #[.val (.int p0), .val (.int p1), .val (.int p2), .val (.int p3), .val (.int p4), .val (.int p5), .val (.int sA), .val (.int sB), .val (.int (1 : Int32)), .val (.int cn), .val (.int (0 : Int32)), .val (.ref b44), .unset, .unset] [(.int sA), (.ref b44)])) _
        refine XS.iload X424.here hx rfl (hb hby at_73) rfl ?_
        show Steps p.tables e below (T424.setTop (mkF m 75 #[.val (.int p0), .val (.int p1), .val (.int p2), .val (.int p3), .val (.int p4), .val (.int p5), .val (.int sA), .val (.int sB), .val (.int (1 : Int32)), .val (.int cn), .val (.int (0 : Int32)), .val (.ref b44), .unset, .unset] [(.int cn), (.int sA), (.ref b44)])) _
        refine XS.iloadN X424.here hx rfl (hb hby at_75) rfl ?_
        exact kont
      obtain ⟨_, _, ⟨T440, L440, k440, n440⟩, -, X440, ⟨Lc440, hQ440, l440, y440, z440⟩, st440⟩ := Jvm.LawKit.callS X424 hx (y := (⟨"com/example/impronta/impronta/engine/AlignmentsClearPinLaw", "putOne", "(Lcom/example/impronta/impronta/engine/Alignments;III)V"⟩ : MethodName)) hown (mvT hZ (hw _ (List.mem_of_getElem? (i := 59) rfl))) (mvT hZ (hw _ (List.mem_of_getElem? (i := 60) rfl))) (mvT hZ (hw _ (List.mem_of_getElem? (i := 61) rfl))) (mvT hZ (hw _ (List.mem_of_getElem? (i := 62) rfl))) (by decide) (backOf (W := 0) (rm9b l Z a0 hw [] b44 sA cn p2 be424 ba bn bf p0 (0 : Int32) ne424 (fun _ => (0 : Int32)) (fun _ => (-2147483648 : Int32)) (fun _ => (0 : Int32)) (fun _ => (0 : Int32)) 0  T424.heap n0 Z424 H424 hI0 (by decide) (by decide) (by decide) hcc) hZ (hw _ (List.mem_of_getElem? (i := 62) rfl)) (hw _ (List.mem_of_getElem? (i := 61) rfl)) (by decide) (by decide)) (g := (mkF m 76 #[.val (.int p0), .val (.int p1), .val (.int p2), .val (.int p3), .val (.int p4), .val (.int p5), .val (.int sA), .val (.int sB), .val (.int (1 : Int32)), .val (.int cn), .val (.int (0 : Int32)), .val (.ref b44), .unset, .unset] [(.int p2), (.int cn), (.int sA), (.ref b44)])) rfl (by rw [hml]; rfl) (argsL := [(.ref b44), (.int sA), (.int cn), (.int p2)]) (rest := []) (lenOf pd_7 rfl) rfl (by show 2 * 0 + _ ≤ _; exact Nat.le_of_eq rfl) (hb hby at_76) (fun _ _ => ⟨rfl, rfl, (by decide : 6 + 0 ≤ _), (by decide : 80 + 0 ≤ _)⟩)
      dsimp only [Pt.U, Pt.locs, Pt.cells, Pt.slots] at X440 l440 y440 z440 st440 hQ440
      subst l440 y440 z440
      obtain ⟨rfl, N440q, Z440, sz440, zn440, ge440, ga440, gn440, gf440, ww440, hz0440, hzn440, hI440, H440⟩ := hQ440
      have N440 := Fr.app N424 N440q
      have pre441 : ∀ t, Steps p.tables e below (T440.setTop (mkF m 79 #[.val (.int p0), .val (.int p1), .val (.int p2), .val (.int p3), .val (.int p4), .val (.int p5), .val (.int sA), .val (.int sB), .val (.int (1 : Int32)), .val (.int cn), .val (.int (0 : Int32)), .val (.ref b44), .unset, .unset] [])) t → Steps p.tables e below (s₁.setTop (entryFrame m #[(.int p0), (.int p1), (.int p2), (.int p3), (.int p4), (.int p5)] maxLocals)) t := fun t kont => pre439 t (st440 _ kont)
      have pre442 : ∀ t, Steps p.tables e below (T440.setTop (mkF m 114 #[.val (.int p0), .val (.int p1), .val (.int p2), .val (.int p3), .val (.int p4), .val (.int p5), .val (.int sA), .val (.int sB), .val (.int (1 : Int32)), .val (.int cn), .val (.int (0 : Int32)), .val (.ref b44), .unset, .unset] [(.ref b44)])) t → Steps p.tables e below (s₁.setTop (entryFrame m #[(.int p0), (.int p1), (.int p2), (.int p3), (.int p4), (.int p5)] maxLocals)) t := by
        intro t kont
        refine pre441 t ?_
        show Steps p.tables e below (T440.setTop (mkF m 79 #[.val (.int p0), .val (.int p1), .val (.int p2), .val (.int p3), .val (.int p4), .val (.int p5), .val (.int sA), .val (.int sB), .val (.int (1 : Int32)), .val (.int cn), .val (.int (0 : Int32)), .val (.ref b44), .unset, .unset] [])) _
        refine XS.iload X440.here hx rfl (hb hby at_79) rfl ?_
        show Steps p.tables e below (T440.setTop (mkF m 81 #[.val (.int p0), .val (.int p1), .val (.int p2), .val (.int p3), .val (.int p4), .val (.int p5), .val (.int sA), .val (.int sB), .val (.int (1 : Int32)), .val (.int cn), .val (.int (0 : Int32)), .val (.ref b44), .unset, .unset] [(.int (1 : Int32))])) _
        refine XS.iconst X440.here hx rfl (hb hby at_81) ?_
        show Steps p.tables e below (T440.setTop (mkF m 82 #[.val (.int p0), .val (.int p1), .val (.int p2), .val (.int p3), .val (.int p4), .val (.int p5), .val (.int sA), .val (.int sB), .val (.int (1 : Int32)), .val (.int cn), .val (.int (0 : Int32)), .val (.ref b44), .unset, .unset] [(.int (2 : Int32)), (.int (1 : Int32))])) _
        refine XS.icmpYes X440.here hx rfl (pc0 := 82) (pc' := 95) rfl (hb hby at_82) rfl (tlt (by decide)).1 (by decide) (by decide) ?_
        show Steps p.tables e below (T440.setTop (mkF m 95 #[.val (.int p0), .val (.int p1), .val (.int p2), .val (.int p3), .val (.int p4), .val (.int p5), .val (.int sA), .val (.int sB), .val (.int (1 : Int32)), .val (.int cn), .val (.int (0 : Int32)), .val (.ref b44), .unset, .unset] [])) _
        refine XS.iload X440.here hx rfl (hb hby at_95) rfl ?_
        show Steps p.tables e below (T440.setTop (mkF m 97 #[.val (.int p0), .val (.int p1), .val (.int p2), .val (.int p3), .val (.int p4), .val (.int p5), .val (.int sA), .val (.int sB), .val (.int (1 : Int32)), .val (.int cn), .val (.int (0 : Int32)), .val (.ref b44), .unset, .unset] [(.int (1 : Int32))])) _
        refine XS.iconst X440.here hx rfl (hb hby at_97) ?_
        show Steps p.tables e below (T440.setTop (mkF m 98 #[.val (.int p0), .val (.int p1), .val (.int p2), .val (.int p3), .val (.int p4), .val (.int p5), .val (.int sA), .val (.int sB), .val (.int (1 : Int32)), .val (.int cn), .val (.int (0 : Int32)), .val (.ref b44), .unset, .unset] [(.int (3 : Int32)), (.int (1 : Int32))])) _
        refine XS.icmpYes X440.here hx rfl (pc0 := 98) (pc' := 112) rfl (hb hby at_98) rfl (tlt (by decide)).1 (by decide) (by decide) ?_
        show Steps p.tables e below (T440.setTop (mkF m 112 #[.val (.int p0), .val (.int p1), .val (.int p2), .val (.int p3), .val (.int p4), .val (.int p5), .val (.int sA), .val (.int sB), .val (.int (1 : Int32)), .val (.int cn), .val (.int (0 : Int32)), .val (.ref b44), .unset, .unset] [])) _
        refine XS.aload X440.here hx rfl (hb hby at_112) rfl rfl ?_
        exact kont
      obtain ⟨cq443, kq443, q443a, q443b, q443c⟩ := isOf hZ rfl (H440).1
      obtain ⟨_, _, ⟨T443, L443, k443, n443⟩, -, X443, ⟨Lc443, hQ443, l443, y443, z443⟩, st443⟩ := X440.virtualBack hx (y := (⟨"com/example/impronta/impronta/engine/Alignments", "clear", "()V"⟩ : MethodName)) (z := (⟨"com/example/impronta/impronta/engine/Alignments", "clear", "()V"⟩ : MethodName)) hown (mvT hZ (hw _ (List.mem_of_getElem? (i := 39) rfl))) (mvT hZ (hw _ (List.mem_of_getElem? (i := 40) rfl))) (notFace_of_selects (args := #[]) (mvT hZ (hw _ (List.mem_of_getElem? (i := 42) rfl)))) (mvT hZ (hw _ (List.mem_of_getElem? (i := 42) rfl))) (mvT hZ (hw _ (List.mem_of_getElem? (i := 41) rfl))) (by decide) (backOf (W := 0) (rm6b l Z a0 hw [] b44 be424 ba bn bf p0 (-sA) sz440 ne424 ge440 ga440 gn440 gf440 zn440  T440.heap n0 Z440 H440 hI440 hzn440 (by omega)) hZ (hw _ (List.mem_of_getElem? (i := 43) rfl)) (hw _ (List.mem_of_getElem? (i := 2) rfl)) (by decide) (by decide)) q443a q443c (g := (mkF m 114 #[.val (.int p0), .val (.int p1), .val (.int p2), .val (.int p3), .val (.int p4), .val (.int p5), .val (.int sA), .val (.int sB), .val (.int (1 : Int32)), .val (.int cn), .val (.int (0 : Int32)), .val (.ref b44), .unset, .unset] [(.ref b44)])) rfl (by rw [hml]; rfl) (Steps.refl _) (argsL := []) (rest := []) (lenOf pd_6 rfl) rfl (by show 2 * 0 + _ ≤ _; exact Nat.le_of_eq rfl) (hb hby at_114) (fun _ _ => ⟨rfl, rfl, (by decide : 6 + 0 ≤ _), (by decide : 80 + 0 ≤ _)⟩)
      dsimp only [Pt.U, Pt.locs, Pt.cells, Pt.slots] at X443 l443 y443 z443 st443 hQ443
      subst l443 y443 z443
      obtain ⟨rfl, N443q, Z443, H443⟩ := hQ443
      have N443 := Fr.app N440 N443q
      have pre444 : ∀ t, Steps p.tables e below (T443.setTop (mkF m 117 #[.val (.int p0), .val (.int p1), .val (.int p2), .val (.int p3), .val (.int p4), .val (.int p5), .val (.int sA), .val (.int sB), .val (.int (1 : Int32)), .val (.int cn), .val (.int (0 : Int32)), .val (.ref b44), .unset, .unset] [])) t → Steps p.tables e below (s₁.setTop (entryFrame m #[(.int p0), (.int p1), (.int p2), (.int p3), (.int p4), (.int p5)] maxLocals)) t := fun t kont => pre442 t (st443.trans kont)
      have pre445 : ∀ t, Steps p.tables e below (T443.setTop (mkF m 171 #[.val (.int p0), .val (.int p1), .val (.int p2), .val (.int p3), .val (.int p4), .val (.int p5), .val (.int sA), .val (.int sB), .val (.int (1 : Int32)), .val (.int cn), .val (.int (0 : Int32)), .val (.ref b44), .unset, .unset] [(.int p5), (.ref b44)])) t → Steps p.tables e below (s₁.setTop (entryFrame m #[(.int p0), (.int p1), (.int p2), (.int p3), (.int p4), (.int p5)] maxLocals)) t := by
        intro t kont
        refine pre444 t ?_
        show Steps p.tables e below (T443.setTop (mkF m 117 #[.val (.int p0), .val (.int p1), .val (.int p2), .val (.int p3), .val (.int p4), .val (.int p5), .val (.int sA), .val (.int sB), .val (.int (1 : Int32)), .val (.int cn), .val (.int (0 : Int32)), .val (.ref b44), .unset, .unset] [])) _
        refine XS.iload X443.here hx rfl (hb hby at_117) rfl ?_
        show Steps p.tables e below (T443.setTop (mkF m 119 #[.val (.int p0), .val (.int p1), .val (.int p2), .val (.int p3), .val (.int p4), .val (.int p5), .val (.int sA), .val (.int sB), .val (.int (1 : Int32)), .val (.int cn), .val (.int (0 : Int32)), .val (.ref b44), .unset, .unset] [(.int (0 : Int32))])) _
        refine XS.ifYes X443.here hx rfl (pc0 := 119) (pc' := 167) rfl (hb hby at_119) rfl ((if0 _ _).trans (teq (by decide)).1) (by decide) (by decide) ?_
        show Steps p.tables e below (T443.setTop (mkF m 167 #[.val (.int p0), .val (.int p1), .val (.int p2), .val (.int p3), .val (.int p4), .val (.int p5), .val (.int sA), .val (.int sB), .val (.int (1 : Int32)), .val (.int cn), .val (.int (0 : Int32)), .val (.ref b44), .unset, .unset] [])) _
        refine XS.aload X443.here hx rfl (hb hby at_167) rfl rfl ?_
        show Steps p.tables e below (T443.setTop (mkF m 169 #[.val (.int p0), .val (.int p1), .val (.int p2), .val (.int p3), .val (.int p4), .val (.int p5), .val (.int sA), .val (.int sB), .val (.int (1 : Int32)), .val (.int cn), .val (.int (0 : Int32)), .val (.ref b44), .unset, .unset] [(.ref b44)])) _
        refine XS.iload X443.here hx rfl (hb hby at_169) rfl ?_
        exact kont
      obtain ⟨cq446, kq446, q446a, q446b, q446c⟩ := isOf hZ rfl (H443).1
      obtain ⟨_, _, ⟨T446, L446, k446, n446⟩, -, X446, ⟨Lc446, hQ446, l446, y446, z446⟩, st446⟩ := X443.virtualBack hx (y := (⟨"com/example/impronta/impronta/engine/Alignments", "slot", "(I)I"⟩ : MethodName)) (z := (⟨"com/example/impronta/impronta/engine/Alignments", "slot", "(I)I"⟩ : MethodName)) hown (mvT hZ (hw _ (List.mem_of_getElem? (i := 46) rfl))) (mvT hZ (hw _ (List.mem_of_getElem? (i := 47) rfl))) (notFace_of_selects (args := #[]) (mvT hZ (hw _ (List.mem_of_getElem? (i := 49) rfl)))) (mvT hZ (hw _ (List.mem_of_getElem? (i := 49) rfl))) (mvT hZ (hw _ (List.mem_of_getElem? (i := 48) rfl))) (by decide) (backOf (W := 0) (rm7 l Z a0 hw [] b44 p5 be424 ba bn bf p0 (0 : Int32) (-sA) (0 : Int32) ne424 ge440 (fun _ => (-2147483648 : Int32)) (fun _ => (0 : Int32)) gf440  T443.heap n0 Z443 H443 (fun _ => Or.inl rfl)) hZ (hw _ (List.mem_of_getElem? (i := 50) rfl)) (hw _ (List.mem_of_getElem? (i := 2) rfl)) (by decide) (by decide)) q446a q446c (g := (mkF m 171 #[.val (.int p0), .val (.int p1), .val (.int p2), .val (.int p3), .val (.int p4), .val (.int p5), .val (.int sA), .val (.int sB), .val (.int (1 : Int32)), .val (.int cn), .val (.int (0 : Int32)), .val (.ref b44), .unset, .unset] [(.int p5), (.ref b44)])) rfl (by rw [hml]; rfl) (Steps.refl _) (argsL := [(.int p5)]) (rest := []) (lenOf pd_2 rfl) rfl (by show 2 * 0 + _ ≤ _; exact Nat.le_of_eq rfl) (hb hby at_171) (fun _ _ => ⟨rfl, rfl, (by decide : 6 + 0 ≤ _), (by decide : 80 + 0 ≤ _)⟩)
      dsimp only [Pt.U, Pt.locs, Pt.cells, Pt.slots] at X446 l446 y446 z446 st446 hQ446
      subst l446 y446 z446
      obtain ⟨rfl, N446q, e446⟩ := hQ446
      have N446 := Fr.app N443 N446q
      have pre447 : ∀ t, Steps p.tables e below (T446.setTop (mkF m 174 #[.val (.int p0), .val (.int p1), .val (.int p2), .val (.int p3), .val (.int p4), .val (.int p5), .val (.int sA), .val (.int sB), .val (.int (1 : Int32)), .val (.int cn), .val (.int (0 : Int32)), .val (.ref b44), .unset, .unset] [(.int (own_slot (0 : Int32) (-sA) (fun _ => (-2147483648 : Int32)) p5))])) t → Steps p.tables e below (s₁.setTop (entryFrame m #[(.int p0), (.int p1), (.int p2), (.int p3), (.int p4), (.int p5)] maxLocals)) t := fun t kont => pre445 t (st446.trans kont)
      have rq448 : (own_slot (0 : Int32) (-sA) (fun _ => (-2147483648 : Int32)) p5) = (((p5 * (-1640531527 : Int32)).toUInt32 >>> ((28 : Int32) &&& 31).toUInt32).toInt32) := own_sB _ _
      rw [rq448] at pre447
      have pre449 : ∀ t, Steps p.tables e below (T446.setTop (mkF m 190 #[.val (.int p0), .val (.int p1), .val (.int p2), .val (.int p3), .val (.int p4), .val (.int p5), .val (.int sA), .val (.int sB), .val (.int (1 : Int32)), .val (.int cn), .val (.int (0 : Int32)), .val (.ref b44), .val (.int (((p5 * (-1640531527 : Int32)).toUInt32 >>> ((28 : Int32) &&& 31).toUInt32).toInt32)), .val (.int (((p5 * (-1640531527 : Int32)).toUInt32 >>> ((28 : Int32) &&& 31).toUInt32).toInt32))] [(.int (((p5 * (-1640531527 : Int32)).toUInt32 >>> ((28 : Int32) &&& 31).toUInt32).toInt32)), (.int (((p5 * (-1640531527 : Int32)).toUInt32 >>> ((28 : Int32) &&& 31).toUInt32).toInt32))])) t → Steps p.tables e below (s₁.setTop (entryFrame m #[(.int p0), (.int p1), (.int p2), (.int p3), (.int p4), (.int p5)] maxLocals)) t := by
        intro t kont
        refine pre447 t ?_
        show Steps p.tables e below (T446.setTop (mkF m 174 #[.val (.int p0), .val (.int p1), .val (.int p2), .val (.int p3), .val (.int p4), .val (.int p5), .val (.int sA), .val (.int sB), .val (.int (1 : Int32)), .val (.int cn), .val (.int (0 : Int32)), .val (.ref b44), .unset, .unset] [(.int (((p5 * (-1640531527 : Int32)).toUInt32 >>> ((28 : Int32) &&& 31).toUInt32).toInt32))])) _
        refine XS.istore X446.here hx rfl (hb hby at_174) rfl (l' := #[.val (.int p0), .val (.int p1), .val (.int p2), .val (.int p3), .val (.int p4), .val (.int p5), .val (.int sA), .val (.int sB), .val (.int (1 : Int32)), .val (.int cn), .val (.int (0 : Int32)), .val (.ref b44), .val (.int (((p5 * (-1640531527 : Int32)).toUInt32 >>> ((28 : Int32) &&& 31).toUInt32).toInt32)), .unset]) rfl ?_
        show Steps p.tables e below (T446.setTop (mkF m 176 #[.val (.int p0), .val (.int p1), .val (.int p2), .val (.int p3), .val (.int p4), .val (.int p5), .val (.int sA), .val (.int sB), .val (.int (1 : Int32)), .val (.int cn), .val (.int (0 : Int32)), .val (.ref b44), .val (.int (((p5 * (-1640531527 : Int32)).toUInt32 >>> ((28 : Int32) &&& 31).toUInt32).toInt32)), .unset] [])) _
        refine XS.iload X446.here hx rfl (hb hby at_176) rfl ?_
        show Steps p.tables e below (T446.setTop (mkF m 178 #[.val (.int p0), .val (.int p1), .val (.int p2), .val (.int p3), .val (.int p4), .val (.int p5), .val (.int sA), .val (.int sB), .val (.int (1 : Int32)), .val (.int cn), .val (.int (0 : Int32)), .val (.ref b44), .val (.int (((p5 * (-1640531527 : Int32)).toUInt32 >>> ((28 : Int32) &&& 31).toUInt32).toInt32)), .unset] [(.int p5)])) _
        refine X446.ldcInt hx hown (mvT hZ (hw _ (List.mem_of_getElem? (i := 52) rfl))) (g := (mkF m 178 #[.val (.int p0), .val (.int p1), .val (.int p2), .val (.int p3), .val (.int p4), .val (.int p5), .val (.int sA), .val (.int sB), .val (.int (1 : Int32)), .val (.int cn), .val (.int (0 : Int32)), .val (.ref b44), .val (.int (((p5 * (-1640531527 : Int32)).toUInt32 >>> ((28 : Int32) &&& 31).toUInt32).toInt32)), .unset] [(.int p5)])) rfl (hb hby at_178) _ ?_
        show Steps p.tables e below (T446.setTop (mkF m 180 #[.val (.int p0), .val (.int p1), .val (.int p2), .val (.int p3), .val (.int p4), .val (.int p5), .val (.int sA), .val (.int sB), .val (.int (1 : Int32)), .val (.int cn), .val (.int (0 : Int32)), .val (.ref b44), .val (.int (((p5 * (-1640531527 : Int32)).toUInt32 >>> ((28 : Int32) &&& 31).toUInt32).toInt32)), .unset] [(.int (-1640531527 : Int32)), (.int p5)])) _
        refine XS.imul X446.here hx rfl (hb hby at_180) rfl ?_
        show Steps p.tables e below (T446.setTop (mkF m 181 #[.val (.int p0), .val (.int p1), .val (.int p2), .val (.int p3), .val (.int p4), .val (.int p5), .val (.int sA), .val (.int sB), .val (.int (1 : Int32)), .val (.int cn), .val (.int (0 : Int32)), .val (.ref b44), .val (.int (((p5 * (-1640531527 : Int32)).toUInt32 >>> ((28 : Int32) &&& 31).toUInt32).toInt32)), .unset] [(.int (p5 * (-1640531527 : Int32)))])) _
        refine XS.bipush X446.here hx rfl (hb hby at_181) ?_
        show Steps p.tables e below (T446.setTop (mkF m 183 #[.val (.int p0), .val (.int p1), .val (.int p2), .val (.int p3), .val (.int p4), .val (.int p5), .val (.int sA), .val (.int sB), .val (.int (1 : Int32)), .val (.int cn), .val (.int (0 : Int32)), .val (.ref b44), .val (.int (((p5 * (-1640531527 : Int32)).toUInt32 >>> ((28 : Int32) &&& 31).toUInt32).toInt32)), .unset] [(.int (28 : Int32)), (.int (p5 * (-1640531527 : Int32)))])) _
        refine XS.iushr X446.here hx rfl (hb hby at_183) rfl ?_
        show Steps p.tables e below (T446.setTop (mkF m 184 #[.val (.int p0), .val (.int p1), .val (.int p2), .val (.int p3), .val (.int p4), .val (.int p5), .val (.int sA), .val (.int sB), .val (.int (1 : Int32)), .val (.int cn), .val (.int (0 : Int32)), .val (.ref b44), .val (.int (((p5 * (-1640531527 : Int32)).toUInt32 >>> ((28 : Int32) &&& 31).toUInt32).toInt32)), .unset] [(.int (((p5 * (-1640531527 : Int32)).toUInt32 >>> ((28 : Int32) &&& 31).toUInt32).toInt32))])) _
        refine XS.istore X446.here hx rfl (hb hby at_184) rfl (l' := #[.val (.int p0), .val (.int p1), .val (.int p2), .val (.int p3), .val (.int p4), .val (.int p5), .val (.int sA), .val (.int sB), .val (.int (1 : Int32)), .val (.int cn), .val (.int (0 : Int32)), .val (.ref b44), .val (.int (((p5 * (-1640531527 : Int32)).toUInt32 >>> ((28 : Int32) &&& 31).toUInt32).toInt32)), .val (.int (((p5 * (-1640531527 : Int32)).toUInt32 >>> ((28 : Int32) &&& 31).toUInt32).toInt32))]) rfl ?_
        show Steps p.tables e below (T446.setTop (mkF m 186 #[.val (.int p0), .val (.int p1), .val (.int p2), .val (.int p3), .val (.int p4), .val (.int p5), .val (.int sA), .val (.int sB), .val (.int (1 : Int32)), .val (.int cn), .val (.int (0 : Int32)), .val (.ref b44), .val (.int (((p5 * (-1640531527 : Int32)).toUInt32 >>> ((28 : Int32) &&& 31).toUInt32).toInt32)), .val (.int (((p5 * (-1640531527 : Int32)).toUInt32 >>> ((28 : Int32) &&& 31).toUInt32).toInt32))] [])) _
        refine XS.iload X446.here hx rfl (hb hby at_186) rfl ?_
        show Steps p.tables e below (T446.setTop (mkF m 188 #[.val (.int p0), .val (.int p1), .val (.int p2), .val (.int p3), .val (.int p4), .val (.int p5), .val (.int sA), .val (.int sB), .val (.int (1 : Int32)), .val (.int cn), .val (.int (0 : Int32)), .val (.ref b44), .val (.int (((p5 * (-1640531527 : Int32)).toUInt32 >>> ((28 : Int32) &&& 31).toUInt32).toInt32)), .val (.int (((p5 * (-1640531527 : Int32)).toUInt32 >>> ((28 : Int32) &&& 31).toUInt32).toInt32))] [(.int (((p5 * (-1640531527 : Int32)).toUInt32 >>> ((28 : Int32) &&& 31).toUInt32).toInt32))])) _
        refine XS.iload X446.here hx rfl (hb hby at_188) rfl ?_
        exact kont
      by_cases hc190 : (((p5 * (-1640531527 : Int32)).toUInt32 >>> ((28 : Int32) &&& 31).toUInt32).toInt32) = (((p5 * (-1640531527 : Int32)).toUInt32 >>> ((28 : Int32) &&& 31).toUInt32).toInt32)
      · have pre450 : ∀ t, Steps p.tables e below (T446.setTop (mkF m 197 #[.val (.int p0), .val (.int p1), .val (.int p2), .val (.int p3), .val (.int p4), .val (.int p5), .val (.int sA), .val (.int sB), .val (.int (1 : Int32)), .val (.int cn), .val (.int (0 : Int32)), .val (.ref b44), .val (.int (((p5 * (-1640531527 : Int32)).toUInt32 >>> ((28 : Int32) &&& 31).toUInt32).toInt32)), .val (.int (((p5 * (-1640531527 : Int32)).toUInt32 >>> ((28 : Int32) &&& 31).toUInt32).toInt32))] [(.int (((p5 * (-1640531527 : Int32)).toUInt32 >>> ((28 : Int32) &&& 31).toUInt32).toInt32)), (.ref b44)])) t → Steps p.tables e below (s₁.setTop (entryFrame m #[(.int p0), (.int p1), (.int p2), (.int p3), (.int p4), (.int p5)] maxLocals)) t := by
          intro t kont
          refine pre449 t ?_
          show Steps p.tables e below (T446.setTop (mkF m 190 #[.val (.int p0), .val (.int p1), .val (.int p2), .val (.int p3), .val (.int p4), .val (.int p5), .val (.int sA), .val (.int sB), .val (.int (1 : Int32)), .val (.int cn), .val (.int (0 : Int32)), .val (.ref b44), .val (.int (((p5 * (-1640531527 : Int32)).toUInt32 >>> ((28 : Int32) &&& 31).toUInt32).toInt32)), .val (.int (((p5 * (-1640531527 : Int32)).toUInt32 >>> ((28 : Int32) &&& 31).toUInt32).toInt32))] [(.int (((p5 * (-1640531527 : Int32)).toUInt32 >>> ((28 : Int32) &&& 31).toUInt32).toInt32)), (.int (((p5 * (-1640531527 : Int32)).toUInt32 >>> ((28 : Int32) &&& 31).toUInt32).toInt32))])) _
          refine XS.icmpNo X446.here hx rfl (hb hby at_190) rfl (teq hc190).2 ?_
          show Steps p.tables e below (T446.setTop (mkF m 193 #[.val (.int p0), .val (.int p1), .val (.int p2), .val (.int p3), .val (.int p4), .val (.int p5), .val (.int sA), .val (.int sB), .val (.int (1 : Int32)), .val (.int cn), .val (.int (0 : Int32)), .val (.ref b44), .val (.int (((p5 * (-1640531527 : Int32)).toUInt32 >>> ((28 : Int32) &&& 31).toUInt32).toInt32)), .val (.int (((p5 * (-1640531527 : Int32)).toUInt32 >>> ((28 : Int32) &&& 31).toUInt32).toInt32))] [])) _
          refine XS.aload X446.here hx rfl (hb hby at_193) rfl rfl ?_
          show Steps p.tables e below (T446.setTop (mkF m 195 #[.val (.int p0), .val (.int p1), .val (.int p2), .val (.int p3), .val (.int p4), .val (.int p5), .val (.int sA), .val (.int sB), .val (.int (1 : Int32)), .val (.int cn), .val (.int (0 : Int32)), .val (.ref b44), .val (.int (((p5 * (-1640531527 : Int32)).toUInt32 >>> ((28 : Int32) &&& 31).toUInt32).toInt32)), .val (.int (((p5 * (-1640531527 : Int32)).toUInt32 >>> ((28 : Int32) &&& 31).toUInt32).toInt32))] [(.ref b44)])) _
          refine XS.iload X446.here hx rfl (hb hby at_195) rfl ?_
          exact kont
        obtain ⟨cq451, kq451, q451a, q451b, q451c⟩ := isOf hZ e446 (H443).1
        obtain ⟨_, _, ⟨T451, L451, k451, n451⟩, -, X451, ⟨Lc451, hQ451, l451, y451, z451⟩, st451⟩ := X446.virtualBack hx (y := (⟨"com/example/impronta/impronta/engine/Alignments", "end", "(I)I"⟩ : MethodName)) (z := (⟨"com/example/impronta/impronta/engine/Alignments", "end", "(I)I"⟩ : MethodName)) hown (mvT hZ (hw _ (List.mem_of_getElem? (i := 53) rfl))) (mvT hZ (hw _ (List.mem_of_getElem? (i := 54) rfl))) (notFace_of_selects (args := #[]) (mvT hZ (hw _ (List.mem_of_getElem? (i := 56) rfl)))) (mvT hZ (hw _ (List.mem_of_getElem? (i := 56) rfl))) (mvT hZ (hw _ (List.mem_of_getElem? (i := 55) rfl))) (by decide) (backOf (W := 0) (rm8 l Z a0 hw [] b44 (((p5 * (-1640531527 : Int32)).toUInt32 >>> ((28 : Int32) &&& 31).toUInt32).toInt32) be424 ba bn bf p0 (0 : Int32) (-sA) (0 : Int32) ne424 ge440 (fun _ => (-2147483648 : Int32)) (fun _ => (0 : Int32)) gf440 (((p5 * (-1640531527 : Int32)).toUInt32 >>> ((28 : Int32) &&& 31).toUInt32).toInt32).toNatClampNeg  T443.heap n0 Z443 H443 (own_home p5).1 rfl (fun _ => (own_home p5).2) (fun q => absurd rfl q)) hZ (hw _ (List.mem_of_getElem? (i := 57) rfl)) (hw _ (List.mem_of_getElem? (i := 2) rfl)) (by decide) (by decide)) q451a q451c (g := (mkF m 197 #[.val (.int p0), .val (.int p1), .val (.int p2), .val (.int p3), .val (.int p4), .val (.int p5), .val (.int sA), .val (.int sB), .val (.int (1 : Int32)), .val (.int cn), .val (.int (0 : Int32)), .val (.ref b44), .val (.int (((p5 * (-1640531527 : Int32)).toUInt32 >>> ((28 : Int32) &&& 31).toUInt32).toInt32)), .val (.int (((p5 * (-1640531527 : Int32)).toUInt32 >>> ((28 : Int32) &&& 31).toUInt32).toInt32))] [(.int (((p5 * (-1640531527 : Int32)).toUInt32 >>> ((28 : Int32) &&& 31).toUInt32).toInt32)), (.ref b44)])) rfl (by rw [hml]; rfl) (Steps.refl _) (argsL := [(.int (((p5 * (-1640531527 : Int32)).toUInt32 >>> ((28 : Int32) &&& 31).toUInt32).toInt32))]) (rest := []) (lenOf pd_2 rfl) rfl (by show 2 * 0 + _ ≤ _; exact Nat.le_of_eq rfl) (hb hby at_197) (fun _ _ => ⟨rfl, e446, (by decide : 6 + 0 ≤ _), (by decide : 80 + 0 ≤ _)⟩)
        dsimp only [Pt.U, Pt.locs, Pt.cells, Pt.slots] at X451 l451 y451 z451 st451 hQ451
        subst l451 y451 z451
        obtain ⟨rfl, N451q, e451⟩ := hQ451
        have N451 := Fr.app N446 N451q
        have pre452 : ∀ t, Steps p.tables e below (T451.setTop (mkF m 200 #[.val (.int p0), .val (.int p1), .val (.int p2), .val (.int p3), .val (.int p4), .val (.int p5), .val (.int sA), .val (.int sB), .val (.int (1 : Int32)), .val (.int cn), .val (.int (0 : Int32)), .val (.ref b44), .val (.int (((p5 * (-1640531527 : Int32)).toUInt32 >>> ((28 : Int32) &&& 31).toUInt32).toInt32)), .val (.int (((p5 * (-1640531527 : Int32)).toUInt32 >>> ((28 : Int32) &&& 31).toUInt32).toInt32))] [(.int (own_end (0 : Int32) ge440 (fun _ => (0 : Int32)) (((p5 * (-1640531527 : Int32)).toUInt32 >>> ((28 : Int32) &&& 31).toUInt32).toInt32).toNatClampNeg))])) t → Steps p.tables e below (s₁.setTop (entryFrame m #[(.int p0), (.int p1), (.int p2), (.int p3), (.int p4), (.int p5)] maxLocals)) t := fun t kont => pre450 t (st451.trans kont)
        have rq453 : (own_end (0 : Int32) ge440 (fun _ => (0 : Int32)) (((p5 * (-1640531527 : Int32)).toUInt32 >>> ((28 : Int32) &&& 31).toUInt32).toInt32).toNatClampNeg) = (0 : Int32) := own_end0 _ _ _
        rw [rq453] at pre452
        have pre454 : ∀ t, Steps p.tables e below (T451.setTop (mkF m 208 #[.val (.int p0), .val (.int p1), .val (.int p2), .val (.int p3), .val (.int p4), .val (.int p5), .val (.int sA), .val (.int sB), .val (.int (1 : Int32)), .val (.int cn), .val (.int (0 : Int32)), .val (.ref b44), .val (.int (((p5 * (-1640531527 : Int32)).toUInt32 >>> ((28 : Int32) &&& 31).toUInt32).toInt32)), .val (.int (((p5 * (-1640531527 : Int32)).toUInt32 >>> ((28 : Int32) &&& 31).toUInt32).toInt32))] [(.int (1 : Int32))])) t → Steps p.tables e below (s₁.setTop (entryFrame m #[(.int p0), (.int p1), (.int p2), (.int p3), (.int p4), (.int p5)] maxLocals)) t := by
          intro t kont
          refine pre452 t ?_
          show Steps p.tables e below (T451.setTop (mkF m 200 #[.val (.int p0), .val (.int p1), .val (.int p2), .val (.int p3), .val (.int p4), .val (.int p5), .val (.int sA), .val (.int sB), .val (.int (1 : Int32)), .val (.int cn), .val (.int (0 : Int32)), .val (.ref b44), .val (.int (((p5 * (-1640531527 : Int32)).toUInt32 >>> ((28 : Int32) &&& 31).toUInt32).toInt32)), .val (.int (((p5 * (-1640531527 : Int32)).toUInt32 >>> ((28 : Int32) &&& 31).toUInt32).toInt32))] [(.int (0 : Int32))])) _
          refine XS.ifNo X451.here hx rfl (hb hby at_200) rfl ((if0 _ _).trans (teq (by decide)).2) ?_
          show Steps p.tables e below (T451.setTop (mkF m 203 #[.val (.int p0), .val (.int p1), .val (.int p2), .val (.int p3), .val (.int p4), .val (.int p5), .val (.int sA), .val (.int sB), .val (.int (1 : Int32)), .val (.int cn), .val (.int (0 : Int32)), .val (.ref b44), .val (.int (((p5 * (-1640531527 : Int32)).toUInt32 >>> ((28 : Int32) &&& 31).toUInt32).toInt32)), .val (.int (((p5 * (-1640531527 : Int32)).toUInt32 >>> ((28 : Int32) &&& 31).toUInt32).toInt32))] [])) _
          refine XS.iconst X451.here hx rfl (hb hby at_203) ?_
          show Steps p.tables e below (T451.setTop (mkF m 204 #[.val (.int p0), .val (.int p1), .val (.int p2), .val (.int p3), .val (.int p4), .val (.int p5), .val (.int sA), .val (.int sB), .val (.int (1 : Int32)), .val (.int cn), .val (.int (0 : Int32)), .val (.ref b44), .val (.int (((p5 * (-1640531527 : Int32)).toUInt32 >>> ((28 : Int32) &&& 31).toUInt32).toInt32)), .val (.int (((p5 * (-1640531527 : Int32)).toUInt32 >>> ((28 : Int32) &&& 31).toUInt32).toInt32))] [(.int (1 : Int32))])) _
          refine XS.goto X451.here hx rfl (pc0 := 204) (pc' := 208) rfl (hb hby at_204) (by decide) (by decide) ?_
          exact kont
        obtain ⟨fs, hr, hrun, hended, hW, hsame⟩ := X451.leave (v := some (.int (1 : Int32))) (fun h => by rw [Bd.returns] at h; cases h)
        refine ⟨_, _, pre454 _ ?_, hrun, hended, _, _, rfl, ?_, ⟨_, rfl⟩, hW, hsame.mono (by decide) (by decide)⟩
        · exact retN X451 hx (t := .boolean) Bd.returns (by simp) (hb hby at_208) hr
        · show Q0 Z p0 p1 p2 p3 p4 p5 h0 n0 _ T451.heap _
          rw [e451]
          exact ⟨rfl, N451⟩
      · exfalso
        first | exact hc200 rfl | exact hc190 rfl
    · rw [hn4] at pre425
      have pre455 : ∀ t, Steps p.tables e below (T424.setTop (mkF m 76 #[.val (.int p0), .val (.int p1), .val (.int p2), .val (.int p3), .val (.int p4), .val (.int p5), .val (.int sA), .val (.int sB), .val (.int (2 : Int32)), .val (.int cn), .val (.int (0 : Int32)), .val (.ref b44), .unset, .unset] [(.int p2), (.int cn), (.int sA), (.ref b44)])) t → Steps p.tables e below (s₁.setTop (entryFrame m #[(.int p0), (.int p1), (.int p2), (.int p3), (.int p4), (.int p5)] maxLocals)) t := by
        intro t kont
        refine pre425 t ?_
        show Steps p.tables e below (T424.setTop (mkF m 63 #[.val (.int p0), .val (.int p1), .val (.int p2), .val (.int p3), .val (.int p4), .val (.int p5), .val (.int sA), .val (.int sB), .val (.int (2 : Int32)), .val (.int cn), .val (.int (0 : Int32)), .val (.ref b44), .unset, .unset] [])) _
        refine XS.iload X424.here hx rfl (hb hby at_63) rfl ?_
        show Steps p.tables e below (T424.setTop (mkF m 65 #[.val (.int p0), .val (.int p1), .val (.int p2), .val (.int p3), .val (.int p4), .val (.int p5), .val (.int sA), .val (.int sB), .val (.int (2 : Int32)), .val (.int cn), .val (.int (0 : Int32)), .val (.ref b44), .unset, .unset] [(.int (2 : Int32))])) _
        refine XS.iconst X424.here hx rfl (hb hby at_65) ?_
        show Steps p.tables e below (T424.setTop (mkF m 66 #[.val (.int p0), .val (.int p1), .val (.int p2), .val (.int p3), .val (.int p4), .val (.int p5), .val (.int sA), .val (.int sB), .val (.int (2 : Int32)), .val (.int cn), .val (.int (0 : Int32)), .val (.ref b44), .unset, .unset] [(.int (1 : Int32)), (.int (2 : Int32))])) _
        refine XS.icmpNo X424.here hx rfl (hb hby at_66) rfl (flt (by decide)).1 ?_
        show Steps p.tables e below (T424.setTop (mkF m 69 #[.val (.int p0), .val (.int p1), .val (.int p2), .val (.int p3), .val (.int p4), .val (.int p5), .val (.int sA), .val (.int sB), .val (.int (2 : Int32)), .val (.int cn), .val (.int (0 : Int32)), .val (.ref b44), .unset, .unset] [])) _
        refine XS.aload X424.here hx rfl (hb hby at_69) rfl rfl ?_
        show Steps p.tables e below (T424.setTop (mkF m 71 #[.val (.int p0), .val (.int p1), .val (.int p2), .val (.int p3), .val (.int p4), .val (.int p5), .val (.int sA), .val (.int sB), .val (.int (2 : Int32)), .val (.int cn), .val (.int (0 : Int32)), .val (.ref b44), .unset, .unset] [(.ref b44)])) _
        refine XS.iload X424.here hx rfl (hb hby at_71) rfl ?_
        show Steps p.tables e below (T424.setTop (mkF m 73 #[.val (.int p0), .val (.int p1), .val (.int p2), .val (.int p3), .val (.int p4), .val (.int p5), .val (.int sA), .val (.int sB), .val (.int (2 : Int32)), .val (.int cn), .val (.int (0 : Int32)), .val (.ref b44), .unset, .unset] [(.int sA), (.ref b44)])) _
        refine XS.iload X424.here hx rfl (hb hby at_73) rfl ?_
        show Steps p.tables e below (T424.setTop (mkF m 75 #[.val (.int p0), .val (.int p1), .val (.int p2), .val (.int p3), .val (.int p4), .val (.int p5), .val (.int sA), .val (.int sB), .val (.int (2 : Int32)), .val (.int cn), .val (.int (0 : Int32)), .val (.ref b44), .unset, .unset] [(.int cn), (.int sA), (.ref b44)])) _
        refine XS.iloadN X424.here hx rfl (hb hby at_75) rfl ?_
        exact kont
      obtain ⟨_, _, ⟨T456, L456, k456, n456⟩, -, X456, ⟨Lc456, hQ456, l456, y456, z456⟩, st456⟩ := Jvm.LawKit.callS X424 hx (y := (⟨"com/example/impronta/impronta/engine/AlignmentsClearPinLaw", "putOne", "(Lcom/example/impronta/impronta/engine/Alignments;III)V"⟩ : MethodName)) hown (mvT hZ (hw _ (List.mem_of_getElem? (i := 59) rfl))) (mvT hZ (hw _ (List.mem_of_getElem? (i := 60) rfl))) (mvT hZ (hw _ (List.mem_of_getElem? (i := 61) rfl))) (mvT hZ (hw _ (List.mem_of_getElem? (i := 62) rfl))) (by decide) (backOf (W := 0) (rm9b l Z a0 hw [] b44 sA cn p2 be424 ba bn bf p0 (0 : Int32) ne424 (fun _ => (0 : Int32)) (fun _ => (-2147483648 : Int32)) (fun _ => (0 : Int32)) (fun _ => (0 : Int32)) 0  T424.heap n0 Z424 H424 hI0 (by decide) (by decide) (by decide) hcc) hZ (hw _ (List.mem_of_getElem? (i := 62) rfl)) (hw _ (List.mem_of_getElem? (i := 61) rfl)) (by decide) (by decide)) (g := (mkF m 76 #[.val (.int p0), .val (.int p1), .val (.int p2), .val (.int p3), .val (.int p4), .val (.int p5), .val (.int sA), .val (.int sB), .val (.int (2 : Int32)), .val (.int cn), .val (.int (0 : Int32)), .val (.ref b44), .unset, .unset] [(.int p2), (.int cn), (.int sA), (.ref b44)])) rfl (by rw [hml]; rfl) (argsL := [(.ref b44), (.int sA), (.int cn), (.int p2)]) (rest := []) (lenOf pd_7 rfl) rfl (by show 2 * 0 + _ ≤ _; exact Nat.le_of_eq rfl) (hb hby at_76) (fun _ _ => ⟨rfl, rfl, (by decide : 6 + 0 ≤ _), (by decide : 80 + 0 ≤ _)⟩)
      dsimp only [Pt.U, Pt.locs, Pt.cells, Pt.slots] at X456 l456 y456 z456 st456 hQ456
      subst l456 y456 z456
      obtain ⟨rfl, N456q, Z456, sz456, zn456, ge456, ga456, gn456, gf456, ww456, hz0456, hzn456, hI456, H456⟩ := hQ456
      have N456 := Fr.app N424 N456q
      have pre457 : ∀ t, Steps p.tables e below (T456.setTop (mkF m 79 #[.val (.int p0), .val (.int p1), .val (.int p2), .val (.int p3), .val (.int p4), .val (.int p5), .val (.int sA), .val (.int sB), .val (.int (2 : Int32)), .val (.int cn), .val (.int (0 : Int32)), .val (.ref b44), .unset, .unset] [])) t → Steps p.tables e below (s₁.setTop (entryFrame m #[(.int p0), (.int p1), (.int p2), (.int p3), (.int p4), (.int p5)] maxLocals)) t := fun t kont => pre455 t (st456 _ kont)
      have pre458 : ∀ t, Steps p.tables e below (T456.setTop (mkF m 92 #[.val (.int p0), .val (.int p1), .val (.int p2), .val (.int p3), .val (.int p4), .val (.int p5), .val (.int sA), .val (.int sB), .val (.int (2 : Int32)), .val (.int cn), .val (.int (0 : Int32)), .val (.ref b44), .unset, .unset] [(.int p3), (.int cn), (.int sA), (.ref b44)])) t → Steps p.tables e below (s₁.setTop (entryFrame m #[(.int p0), (.int p1), (.int p2), (.int p3), (.int p4), (.int p5)] maxLocals)) t := by
        intro t kont
        refine pre457 t ?_
        show Steps p.tables e below (T456.setTop (mkF m 79 #[.val (.int p0), .val (.int p1), .val (.int p2), .val (.int p3), .val (.int p4), .val (.int p5), .val (.int sA), .val (.int sB), .val (.int (2 : Int32)), .val (.int cn), .val (.int (0 : Int32)), .val (.ref b44), .unset, .unset] [])) _
        refine XS.iload X456.here hx rfl (hb hby at_79) rfl ?_
        show Steps p.tables e below (T456.setTop (mkF m 81 #[.val (.int p0), .val (.int p1), .val (.int p2), .val (.int p3), .val (.int p4), .val (.int p5), .val (.int sA), .val (.int sB), .val (.int (2 : Int32)), .val (.int cn), .val (.int (0 : Int32)), .val (.ref b44), .unset, .unset] [(.int (2 : Int32))])) _
        refine XS.iconst X456.here hx rfl (hb hby at_81) ?_
        show Steps p.tables e below (T456.setTop (mkF m 82 #[.val (.int p0), .val (.int p1), .val (.int p2), .val (.int p3), .val (.int p4), .val (.int p5), .val (.int sA), .val (.int sB), .val (.int (2 : Int32)), .val (.int cn), .val (.int (0 : Int32)), .val (.ref b44), .unset, .unset] [(.int (2 : Int32)), (.int (2 : Int32))])) _
        refine XS.icmpNo X456.here hx rfl (hb hby at_82) rfl (flt (by decide)).1 ?_
        show Steps p.tables e below (T456.setTop (mkF m 85 #[.val (.int p0), .val (.int p1), .val (.int p2), .val (.int p3), .val (.int p4), .val (.int p5), .val (.int sA), .val (.int sB), .val (.int (2 : Int32)), .val (.int cn), .val (.int (0 : Int32)), .val (.ref b44), .unset, .unset] [])) _
        refine XS.aload X456.here hx rfl (hb hby at_85) rfl rfl ?_
        show Steps p.tables e below (T456.setTop (mkF m 87 #[.val (.int p0), .val (.int p1), .val (.int p2), .val (.int p3), .val (.int p4), .val (.int p5), .val (.int sA), .val (.int sB), .val (.int (2 : Int32)), .val (.int cn), .val (.int (0 : Int32)), .val (.ref b44), .unset, .unset] [(.ref b44)])) _
        refine XS.iload X456.here hx rfl (hb hby at_87) rfl ?_
        show Steps p.tables e below (T456.setTop (mkF m 89 #[.val (.int p0), .val (.int p1), .val (.int p2), .val (.int p3), .val (.int p4), .val (.int p5), .val (.int sA), .val (.int sB), .val (.int (2 : Int32)), .val (.int cn), .val (.int (0 : Int32)), .val (.ref b44), .unset, .unset] [(.int sA), (.ref b44)])) _
        refine XS.iload X456.here hx rfl (hb hby at_89) rfl ?_
        show Steps p.tables e below (T456.setTop (mkF m 91 #[.val (.int p0), .val (.int p1), .val (.int p2), .val (.int p3), .val (.int p4), .val (.int p5), .val (.int sA), .val (.int sB), .val (.int (2 : Int32)), .val (.int cn), .val (.int (0 : Int32)), .val (.ref b44), .unset, .unset] [(.int cn), (.int sA), (.ref b44)])) _
        refine XS.iloadN X456.here hx rfl (hb hby at_91) rfl ?_
        exact kont
      obtain ⟨_, _, ⟨T459, L459, k459, n459⟩, -, X459, ⟨Lc459, hQ459, l459, y459, z459⟩, st459⟩ := Jvm.LawKit.callS X456 hx (y := (⟨"com/example/impronta/impronta/engine/AlignmentsClearPinLaw", "putOne", "(Lcom/example/impronta/impronta/engine/Alignments;III)V"⟩ : MethodName)) hown (mvT hZ (hw _ (List.mem_of_getElem? (i := 59) rfl))) (mvT hZ (hw _ (List.mem_of_getElem? (i := 60) rfl))) (mvT hZ (hw _ (List.mem_of_getElem? (i := 61) rfl))) (mvT hZ (hw _ (List.mem_of_getElem? (i := 62) rfl))) (by decide) (backOf (W := 0) (rm9b l Z a0 hw [] b44 sA cn p3 be424 ba bn bf p0 sz456 ne424 ge456 ga456 gn456 gf456 zn456  T456.heap n0 Z456 H456 hI456 hz0456 hzn456 (by omega) hcc) hZ (hw _ (List.mem_of_getElem? (i := 62) rfl)) (hw _ (List.mem_of_getElem? (i := 61) rfl)) (by decide) (by decide)) (g := (mkF m 92 #[.val (.int p0), .val (.int p1), .val (.int p2), .val (.int p3), .val (.int p4), .val (.int p5), .val (.int sA), .val (.int sB), .val (.int (2 : Int32)), .val (.int cn), .val (.int (0 : Int32)), .val (.ref b44), .unset, .unset] [(.int p3), (.int cn), (.int sA), (.ref b44)])) rfl (by rw [hml]; rfl) (argsL := [(.ref b44), (.int sA), (.int cn), (.int p3)]) (rest := []) (lenOf pd_7 rfl) rfl (by show 2 * 0 + _ ≤ _; exact Nat.le_of_eq rfl) (hb hby at_92) (fun _ _ => ⟨rfl, rfl, (by decide : 6 + 0 ≤ _), (by decide : 80 + 0 ≤ _)⟩)
      dsimp only [Pt.U, Pt.locs, Pt.cells, Pt.slots] at X459 l459 y459 z459 st459 hQ459
      subst l459 y459 z459
      obtain ⟨rfl, N459q, Z459, sz459, zn459, ge459, ga459, gn459, gf459, ww459, hz0459, hzn459, hI459, H459⟩ := hQ459
      have N459 := Fr.app N456 N459q
      have pre460 : ∀ t, Steps p.tables e below (T459.setTop (mkF m 95 #[.val (.int p0), .val (.int p1), .val (.int p2), .val (.int p3), .val (.int p4), .val (.int p5), .val (.int sA), .val (.int sB), .val (.int (2 : Int32)), .val (.int cn), .val (.int (0 : Int32)), .val (.ref b44), .unset, .unset] [])) t → Steps p.tables e below (s₁.setTop (entryFrame m #[(.int p0), (.int p1), (.int p2), (.int p3), (.int p4), (.int p5)] maxLocals)) t := fun t kont => pre458 t (st459 _ kont)
      have pre461 : ∀ t, Steps p.tables e below (T459.setTop (mkF m 114 #[.val (.int p0), .val (.int p1), .val (.int p2), .val (.int p3), .val (.int p4), .val (.int p5), .val (.int sA), .val (.int sB), .val (.int (2 : Int32)), .val (.int cn), .val (.int (0 : Int32)), .val (.ref b44), .unset, .unset] [(.ref b44)])) t → Steps p.tables e below (s₁.setTop (entryFrame m #[(.int p0), (.int p1), (.int p2), (.int p3), (.int p4), (.int p5)] maxLocals)) t := by
        intro t kont
        refine pre460 t ?_
        show Steps p.tables e below (T459.setTop (mkF m 95 #[.val (.int p0), .val (.int p1), .val (.int p2), .val (.int p3), .val (.int p4), .val (.int p5), .val (.int sA), .val (.int sB), .val (.int (2 : Int32)), .val (.int cn), .val (.int (0 : Int32)), .val (.ref b44), .unset, .unset] [])) _
        refine XS.iload X459.here hx rfl (hb hby at_95) rfl ?_
        show Steps p.tables e below (T459.setTop (mkF m 97 #[.val (.int p0), .val (.int p1), .val (.int p2), .val (.int p3), .val (.int p4), .val (.int p5), .val (.int sA), .val (.int sB), .val (.int (2 : Int32)), .val (.int cn), .val (.int (0 : Int32)), .val (.ref b44), .unset, .unset] [(.int (2 : Int32))])) _
        refine XS.iconst X459.here hx rfl (hb hby at_97) ?_
        show Steps p.tables e below (T459.setTop (mkF m 98 #[.val (.int p0), .val (.int p1), .val (.int p2), .val (.int p3), .val (.int p4), .val (.int p5), .val (.int sA), .val (.int sB), .val (.int (2 : Int32)), .val (.int cn), .val (.int (0 : Int32)), .val (.ref b44), .unset, .unset] [(.int (3 : Int32)), (.int (2 : Int32))])) _
        refine XS.icmpYes X459.here hx rfl (pc0 := 98) (pc' := 112) rfl (hb hby at_98) rfl (tlt (by decide)).1 (by decide) (by decide) ?_
        show Steps p.tables e below (T459.setTop (mkF m 112 #[.val (.int p0), .val (.int p1), .val (.int p2), .val (.int p3), .val (.int p4), .val (.int p5), .val (.int sA), .val (.int sB), .val (.int (2 : Int32)), .val (.int cn), .val (.int (0 : Int32)), .val (.ref b44), .unset, .unset] [])) _
        refine XS.aload X459.here hx rfl (hb hby at_112) rfl rfl ?_
        exact kont
      obtain ⟨cq462, kq462, q462a, q462b, q462c⟩ := isOf hZ rfl (H459).1
      obtain ⟨_, _, ⟨T462, L462, k462, n462⟩, -, X462, ⟨Lc462, hQ462, l462, y462, z462⟩, st462⟩ := X459.virtualBack hx (y := (⟨"com/example/impronta/impronta/engine/Alignments", "clear", "()V"⟩ : MethodName)) (z := (⟨"com/example/impronta/impronta/engine/Alignments", "clear", "()V"⟩ : MethodName)) hown (mvT hZ (hw _ (List.mem_of_getElem? (i := 39) rfl))) (mvT hZ (hw _ (List.mem_of_getElem? (i := 40) rfl))) (notFace_of_selects (args := #[]) (mvT hZ (hw _ (List.mem_of_getElem? (i := 42) rfl)))) (mvT hZ (hw _ (List.mem_of_getElem? (i := 42) rfl))) (mvT hZ (hw _ (List.mem_of_getElem? (i := 41) rfl))) (by decide) (backOf (W := 0) (rm6b l Z a0 hw [] b44 be424 ba bn bf p0 (-sA) sz459 ne424 ge459 ga459 gn459 gf459 zn459  T459.heap n0 Z459 H459 hI459 hzn459 (by omega)) hZ (hw _ (List.mem_of_getElem? (i := 43) rfl)) (hw _ (List.mem_of_getElem? (i := 2) rfl)) (by decide) (by decide)) q462a q462c (g := (mkF m 114 #[.val (.int p0), .val (.int p1), .val (.int p2), .val (.int p3), .val (.int p4), .val (.int p5), .val (.int sA), .val (.int sB), .val (.int (2 : Int32)), .val (.int cn), .val (.int (0 : Int32)), .val (.ref b44), .unset, .unset] [(.ref b44)])) rfl (by rw [hml]; rfl) (Steps.refl _) (argsL := []) (rest := []) (lenOf pd_6 rfl) rfl (by show 2 * 0 + _ ≤ _; exact Nat.le_of_eq rfl) (hb hby at_114) (fun _ _ => ⟨rfl, rfl, (by decide : 6 + 0 ≤ _), (by decide : 80 + 0 ≤ _)⟩)
      dsimp only [Pt.U, Pt.locs, Pt.cells, Pt.slots] at X462 l462 y462 z462 st462 hQ462
      subst l462 y462 z462
      obtain ⟨rfl, N462q, Z462, H462⟩ := hQ462
      have N462 := Fr.app N459 N462q
      have pre463 : ∀ t, Steps p.tables e below (T462.setTop (mkF m 117 #[.val (.int p0), .val (.int p1), .val (.int p2), .val (.int p3), .val (.int p4), .val (.int p5), .val (.int sA), .val (.int sB), .val (.int (2 : Int32)), .val (.int cn), .val (.int (0 : Int32)), .val (.ref b44), .unset, .unset] [])) t → Steps p.tables e below (s₁.setTop (entryFrame m #[(.int p0), (.int p1), (.int p2), (.int p3), (.int p4), (.int p5)] maxLocals)) t := fun t kont => pre461 t (st462.trans kont)
      have pre464 : ∀ t, Steps p.tables e below (T462.setTop (mkF m 171 #[.val (.int p0), .val (.int p1), .val (.int p2), .val (.int p3), .val (.int p4), .val (.int p5), .val (.int sA), .val (.int sB), .val (.int (2 : Int32)), .val (.int cn), .val (.int (0 : Int32)), .val (.ref b44), .unset, .unset] [(.int p5), (.ref b44)])) t → Steps p.tables e below (s₁.setTop (entryFrame m #[(.int p0), (.int p1), (.int p2), (.int p3), (.int p4), (.int p5)] maxLocals)) t := by
        intro t kont
        refine pre463 t ?_
        show Steps p.tables e below (T462.setTop (mkF m 117 #[.val (.int p0), .val (.int p1), .val (.int p2), .val (.int p3), .val (.int p4), .val (.int p5), .val (.int sA), .val (.int sB), .val (.int (2 : Int32)), .val (.int cn), .val (.int (0 : Int32)), .val (.ref b44), .unset, .unset] [])) _
        refine XS.iload X462.here hx rfl (hb hby at_117) rfl ?_
        show Steps p.tables e below (T462.setTop (mkF m 119 #[.val (.int p0), .val (.int p1), .val (.int p2), .val (.int p3), .val (.int p4), .val (.int p5), .val (.int sA), .val (.int sB), .val (.int (2 : Int32)), .val (.int cn), .val (.int (0 : Int32)), .val (.ref b44), .unset, .unset] [(.int (0 : Int32))])) _
        refine XS.ifYes X462.here hx rfl (pc0 := 119) (pc' := 167) rfl (hb hby at_119) rfl ((if0 _ _).trans (teq (by decide)).1) (by decide) (by decide) ?_
        show Steps p.tables e below (T462.setTop (mkF m 167 #[.val (.int p0), .val (.int p1), .val (.int p2), .val (.int p3), .val (.int p4), .val (.int p5), .val (.int sA), .val (.int sB), .val (.int (2 : Int32)), .val (.int cn), .val (.int (0 : Int32)), .val (.ref b44), .unset, .unset] [])) _
        refine XS.aload X462.here hx rfl (hb hby at_167) rfl rfl ?_
        show Steps p.tables e below (T462.setTop (mkF m 169 #[.val (.int p0), .val (.int p1), .val (.int p2), .val (.int p3), .val (.int p4), .val (.int p5), .val (.int sA), .val (.int sB), .val (.int (2 : Int32)), .val (.int cn), .val (.int (0 : Int32)), .val (.ref b44), .unset, .unset] [(.ref b44)])) _
        refine XS.iload X462.here hx rfl (hb hby at_169) rfl ?_
        exact kont
      obtain ⟨cq465, kq465, q465a, q465b, q465c⟩ := isOf hZ rfl (H462).1
      obtain ⟨_, _, ⟨T465, L465, k465, n465⟩, -, X465, ⟨Lc465, hQ465, l465, y465, z465⟩, st465⟩ := X462.virtualBack hx (y := (⟨"com/example/impronta/impronta/engine/Alignments", "slot", "(I)I"⟩ : MethodName)) (z := (⟨"com/example/impronta/impronta/engine/Alignments", "slot", "(I)I"⟩ : MethodName)) hown (mvT hZ (hw _ (List.mem_of_getElem? (i := 46) rfl))) (mvT hZ (hw _ (List.mem_of_getElem? (i := 47) rfl))) (notFace_of_selects (args := #[]) (mvT hZ (hw _ (List.mem_of_getElem? (i := 49) rfl)))) (mvT hZ (hw _ (List.mem_of_getElem? (i := 49) rfl))) (mvT hZ (hw _ (List.mem_of_getElem? (i := 48) rfl))) (by decide) (backOf (W := 0) (rm7 l Z a0 hw [] b44 p5 be424 ba bn bf p0 (0 : Int32) (-sA) (0 : Int32) ne424 ge459 (fun _ => (-2147483648 : Int32)) (fun _ => (0 : Int32)) gf459  T462.heap n0 Z462 H462 (fun _ => Or.inl rfl)) hZ (hw _ (List.mem_of_getElem? (i := 50) rfl)) (hw _ (List.mem_of_getElem? (i := 2) rfl)) (by decide) (by decide)) q465a q465c (g := (mkF m 171 #[.val (.int p0), .val (.int p1), .val (.int p2), .val (.int p3), .val (.int p4), .val (.int p5), .val (.int sA), .val (.int sB), .val (.int (2 : Int32)), .val (.int cn), .val (.int (0 : Int32)), .val (.ref b44), .unset, .unset] [(.int p5), (.ref b44)])) rfl (by rw [hml]; rfl) (Steps.refl _) (argsL := [(.int p5)]) (rest := []) (lenOf pd_2 rfl) rfl (by show 2 * 0 + _ ≤ _; exact Nat.le_of_eq rfl) (hb hby at_171) (fun _ _ => ⟨rfl, rfl, (by decide : 6 + 0 ≤ _), (by decide : 80 + 0 ≤ _)⟩)
      dsimp only [Pt.U, Pt.locs, Pt.cells, Pt.slots] at X465 l465 y465 z465 st465 hQ465
      subst l465 y465 z465
      obtain ⟨rfl, N465q, e465⟩ := hQ465
      have N465 := Fr.app N462 N465q
      have pre466 : ∀ t, Steps p.tables e below (T465.setTop (mkF m 174 #[.val (.int p0), .val (.int p1), .val (.int p2), .val (.int p3), .val (.int p4), .val (.int p5), .val (.int sA), .val (.int sB), .val (.int (2 : Int32)), .val (.int cn), .val (.int (0 : Int32)), .val (.ref b44), .unset, .unset] [(.int (own_slot (0 : Int32) (-sA) (fun _ => (-2147483648 : Int32)) p5))])) t → Steps p.tables e below (s₁.setTop (entryFrame m #[(.int p0), (.int p1), (.int p2), (.int p3), (.int p4), (.int p5)] maxLocals)) t := fun t kont => pre464 t (st465.trans kont)
      have rq467 : (own_slot (0 : Int32) (-sA) (fun _ => (-2147483648 : Int32)) p5) = (((p5 * (-1640531527 : Int32)).toUInt32 >>> ((28 : Int32) &&& 31).toUInt32).toInt32) := own_sB _ _
      rw [rq467] at pre466
      have pre468 : ∀ t, Steps p.tables e below (T465.setTop (mkF m 190 #[.val (.int p0), .val (.int p1), .val (.int p2), .val (.int p3), .val (.int p4), .val (.int p5), .val (.int sA), .val (.int sB), .val (.int (2 : Int32)), .val (.int cn), .val (.int (0 : Int32)), .val (.ref b44), .val (.int (((p5 * (-1640531527 : Int32)).toUInt32 >>> ((28 : Int32) &&& 31).toUInt32).toInt32)), .val (.int (((p5 * (-1640531527 : Int32)).toUInt32 >>> ((28 : Int32) &&& 31).toUInt32).toInt32))] [(.int (((p5 * (-1640531527 : Int32)).toUInt32 >>> ((28 : Int32) &&& 31).toUInt32).toInt32)), (.int (((p5 * (-1640531527 : Int32)).toUInt32 >>> ((28 : Int32) &&& 31).toUInt32).toInt32))])) t → Steps p.tables e below (s₁.setTop (entryFrame m #[(.int p0), (.int p1), (.int p2), (.int p3), (.int p4), (.int p5)] maxLocals)) t := by
        intro t kont
        refine pre466 t ?_
        show Steps p.tables e below (T465.setTop (mkF m 174 #[.val (.int p0), .val (.int p1), .val (.int p2), .val (.int p3), .val (.int p4), .val (.int p5), .val (.int sA), .val (.int sB), .val (.int (2 : Int32)), .val (.int cn), .val (.int (0 : Int32)), .val (.ref b44), .unset, .unset] [(.int (((p5 * (-1640531527 : Int32)).toUInt32 >>> ((28 : Int32) &&& 31).toUInt32).toInt32))])) _
        refine XS.istore X465.here hx rfl (hb hby at_174) rfl (l' := #[.val (.int p0), .val (.int p1), .val (.int p2), .val (.int p3), .val (.int p4), .val (.int p5), .val (.int sA), .val (.int sB), .val (.int (2 : Int32)), .val (.int cn), .val (.int (0 : Int32)), .val (.ref b44), .val (.int (((p5 * (-1640531527 : Int32)).toUInt32 >>> ((28 : Int32) &&& 31).toUInt32).toInt32)), .unset]) rfl ?_
        show Steps p.tables e below (T465.setTop (mkF m 176 #[.val (.int p0), .val (.int p1), .val (.int p2), .val (.int p3), .val (.int p4), .val (.int p5), .val (.int sA), .val (.int sB), .val (.int (2 : Int32)), .val (.int cn), .val (.int (0 : Int32)), .val (.ref b44), .val (.int (((p5 * (-1640531527 : Int32)).toUInt32 >>> ((28 : Int32) &&& 31).toUInt32).toInt32)), .unset] [])) _
        refine XS.iload X465.here hx rfl (hb hby at_176) rfl ?_
        show Steps p.tables e below (T465.setTop (mkF m 178 #[.val (.int p0), .val (.int p1), .val (.int p2), .val (.int p3), .val (.int p4), .val (.int p5), .val (.int sA), .val (.int sB), .val (.int (2 : Int32)), .val (.int cn), .val (.int (0 : Int32)), .val (.ref b44), .val (.int (((p5 * (-1640531527 : Int32)).toUInt32 >>> ((28 : Int32) &&& 31).toUInt32).toInt32)), .unset] [(.int p5)])) _
        refine X465.ldcInt hx hown (mvT hZ (hw _ (List.mem_of_getElem? (i := 52) rfl))) (g := (mkF m 178 #[.val (.int p0), .val (.int p1), .val (.int p2), .val (.int p3), .val (.int p4), .val (.int p5), .val (.int sA), .val (.int sB), .val (.int (2 : Int32)), .val (.int cn), .val (.int (0 : Int32)), .val (.ref b44), .val (.int (((p5 * (-1640531527 : Int32)).toUInt32 >>> ((28 : Int32) &&& 31).toUInt32).toInt32)), .unset] [(.int p5)])) rfl (hb hby at_178) _ ?_
        show Steps p.tables e below (T465.setTop (mkF m 180 #[.val (.int p0), .val (.int p1), .val (.int p2), .val (.int p3), .val (.int p4), .val (.int p5), .val (.int sA), .val (.int sB), .val (.int (2 : Int32)), .val (.int cn), .val (.int (0 : Int32)), .val (.ref b44), .val (.int (((p5 * (-1640531527 : Int32)).toUInt32 >>> ((28 : Int32) &&& 31).toUInt32).toInt32)), .unset] [(.int (-1640531527 : Int32)), (.int p5)])) _
        refine XS.imul X465.here hx rfl (hb hby at_180) rfl ?_
        show Steps p.tables e below (T465.setTop (mkF m 181 #[.val (.int p0), .val (.int p1), .val (.int p2), .val (.int p3), .val (.int p4), .val (.int p5), .val (.int sA), .val (.int sB), .val (.int (2 : Int32)), .val (.int cn), .val (.int (0 : Int32)), .val (.ref b44), .val (.int (((p5 * (-1640531527 : Int32)).toUInt32 >>> ((28 : Int32) &&& 31).toUInt32).toInt32)), .unset] [(.int (p5 * (-1640531527 : Int32)))])) _
        refine XS.bipush X465.here hx rfl (hb hby at_181) ?_
        show Steps p.tables e below (T465.setTop (mkF m 183 #[.val (.int p0), .val (.int p1), .val (.int p2), .val (.int p3), .val (.int p4), .val (.int p5), .val (.int sA), .val (.int sB), .val (.int (2 : Int32)), .val (.int cn), .val (.int (0 : Int32)), .val (.ref b44), .val (.int (((p5 * (-1640531527 : Int32)).toUInt32 >>> ((28 : Int32) &&& 31).toUInt32).toInt32)), .unset] [(.int (28 : Int32)), (.int (p5 * (-1640531527 : Int32)))])) _
        refine XS.iushr X465.here hx rfl (hb hby at_183) rfl ?_
        show Steps p.tables e below (T465.setTop (mkF m 184 #[.val (.int p0), .val (.int p1), .val (.int p2), .val (.int p3), .val (.int p4), .val (.int p5), .val (.int sA), .val (.int sB), .val (.int (2 : Int32)), .val (.int cn), .val (.int (0 : Int32)), .val (.ref b44), .val (.int (((p5 * (-1640531527 : Int32)).toUInt32 >>> ((28 : Int32) &&& 31).toUInt32).toInt32)), .unset] [(.int (((p5 * (-1640531527 : Int32)).toUInt32 >>> ((28 : Int32) &&& 31).toUInt32).toInt32))])) _
        refine XS.istore X465.here hx rfl (hb hby at_184) rfl (l' := #[.val (.int p0), .val (.int p1), .val (.int p2), .val (.int p3), .val (.int p4), .val (.int p5), .val (.int sA), .val (.int sB), .val (.int (2 : Int32)), .val (.int cn), .val (.int (0 : Int32)), .val (.ref b44), .val (.int (((p5 * (-1640531527 : Int32)).toUInt32 >>> ((28 : Int32) &&& 31).toUInt32).toInt32)), .val (.int (((p5 * (-1640531527 : Int32)).toUInt32 >>> ((28 : Int32) &&& 31).toUInt32).toInt32))]) rfl ?_
        show Steps p.tables e below (T465.setTop (mkF m 186 #[.val (.int p0), .val (.int p1), .val (.int p2), .val (.int p3), .val (.int p4), .val (.int p5), .val (.int sA), .val (.int sB), .val (.int (2 : Int32)), .val (.int cn), .val (.int (0 : Int32)), .val (.ref b44), .val (.int (((p5 * (-1640531527 : Int32)).toUInt32 >>> ((28 : Int32) &&& 31).toUInt32).toInt32)), .val (.int (((p5 * (-1640531527 : Int32)).toUInt32 >>> ((28 : Int32) &&& 31).toUInt32).toInt32))] [])) _
        refine XS.iload X465.here hx rfl (hb hby at_186) rfl ?_
        show Steps p.tables e below (T465.setTop (mkF m 188 #[.val (.int p0), .val (.int p1), .val (.int p2), .val (.int p3), .val (.int p4), .val (.int p5), .val (.int sA), .val (.int sB), .val (.int (2 : Int32)), .val (.int cn), .val (.int (0 : Int32)), .val (.ref b44), .val (.int (((p5 * (-1640531527 : Int32)).toUInt32 >>> ((28 : Int32) &&& 31).toUInt32).toInt32)), .val (.int (((p5 * (-1640531527 : Int32)).toUInt32 >>> ((28 : Int32) &&& 31).toUInt32).toInt32))] [(.int (((p5 * (-1640531527 : Int32)).toUInt32 >>> ((28 : Int32) &&& 31).toUInt32).toInt32))])) _
        refine XS.iload X465.here hx rfl (hb hby at_188) rfl ?_
        exact kont
      by_cases hc190 : (((p5 * (-1640531527 : Int32)).toUInt32 >>> ((28 : Int32) &&& 31).toUInt32).toInt32) = (((p5 * (-1640531527 : Int32)).toUInt32 >>> ((28 : Int32) &&& 31).toUInt32).toInt32)
      · have pre469 : ∀ t, Steps p.tables e below (T465.setTop (mkF m 197 #[.val (.int p0), .val (.int p1), .val (.int p2), .val (.int p3), .val (.int p4), .val (.int p5), .val (.int sA), .val (.int sB), .val (.int (2 : Int32)), .val (.int cn), .val (.int (0 : Int32)), .val (.ref b44), .val (.int (((p5 * (-1640531527 : Int32)).toUInt32 >>> ((28 : Int32) &&& 31).toUInt32).toInt32)), .val (.int (((p5 * (-1640531527 : Int32)).toUInt32 >>> ((28 : Int32) &&& 31).toUInt32).toInt32))] [(.int (((p5 * (-1640531527 : Int32)).toUInt32 >>> ((28 : Int32) &&& 31).toUInt32).toInt32)), (.ref b44)])) t → Steps p.tables e below (s₁.setTop (entryFrame m #[(.int p0), (.int p1), (.int p2), (.int p3), (.int p4), (.int p5)] maxLocals)) t := by
          intro t kont
          refine pre468 t ?_
          show Steps p.tables e below (T465.setTop (mkF m 190 #[.val (.int p0), .val (.int p1), .val (.int p2), .val (.int p3), .val (.int p4), .val (.int p5), .val (.int sA), .val (.int sB), .val (.int (2 : Int32)), .val (.int cn), .val (.int (0 : Int32)), .val (.ref b44), .val (.int (((p5 * (-1640531527 : Int32)).toUInt32 >>> ((28 : Int32) &&& 31).toUInt32).toInt32)), .val (.int (((p5 * (-1640531527 : Int32)).toUInt32 >>> ((28 : Int32) &&& 31).toUInt32).toInt32))] [(.int (((p5 * (-1640531527 : Int32)).toUInt32 >>> ((28 : Int32) &&& 31).toUInt32).toInt32)), (.int (((p5 * (-1640531527 : Int32)).toUInt32 >>> ((28 : Int32) &&& 31).toUInt32).toInt32))])) _
          refine XS.icmpNo X465.here hx rfl (hb hby at_190) rfl (teq hc190).2 ?_
          show Steps p.tables e below (T465.setTop (mkF m 193 #[.val (.int p0), .val (.int p1), .val (.int p2), .val (.int p3), .val (.int p4), .val (.int p5), .val (.int sA), .val (.int sB), .val (.int (2 : Int32)), .val (.int cn), .val (.int (0 : Int32)), .val (.ref b44), .val (.int (((p5 * (-1640531527 : Int32)).toUInt32 >>> ((28 : Int32) &&& 31).toUInt32).toInt32)), .val (.int (((p5 * (-1640531527 : Int32)).toUInt32 >>> ((28 : Int32) &&& 31).toUInt32).toInt32))] [])) _
          refine XS.aload X465.here hx rfl (hb hby at_193) rfl rfl ?_
          show Steps p.tables e below (T465.setTop (mkF m 195 #[.val (.int p0), .val (.int p1), .val (.int p2), .val (.int p3), .val (.int p4), .val (.int p5), .val (.int sA), .val (.int sB), .val (.int (2 : Int32)), .val (.int cn), .val (.int (0 : Int32)), .val (.ref b44), .val (.int (((p5 * (-1640531527 : Int32)).toUInt32 >>> ((28 : Int32) &&& 31).toUInt32).toInt32)), .val (.int (((p5 * (-1640531527 : Int32)).toUInt32 >>> ((28 : Int32) &&& 31).toUInt32).toInt32))] [(.ref b44)])) _
          refine XS.iload X465.here hx rfl (hb hby at_195) rfl ?_
          exact kont
        obtain ⟨cq470, kq470, q470a, q470b, q470c⟩ := isOf hZ e465 (H462).1
        obtain ⟨_, _, ⟨T470, L470, k470, n470⟩, -, X470, ⟨Lc470, hQ470, l470, y470, z470⟩, st470⟩ := X465.virtualBack hx (y := (⟨"com/example/impronta/impronta/engine/Alignments", "end", "(I)I"⟩ : MethodName)) (z := (⟨"com/example/impronta/impronta/engine/Alignments", "end", "(I)I"⟩ : MethodName)) hown (mvT hZ (hw _ (List.mem_of_getElem? (i := 53) rfl))) (mvT hZ (hw _ (List.mem_of_getElem? (i := 54) rfl))) (notFace_of_selects (args := #[]) (mvT hZ (hw _ (List.mem_of_getElem? (i := 56) rfl)))) (mvT hZ (hw _ (List.mem_of_getElem? (i := 56) rfl))) (mvT hZ (hw _ (List.mem_of_getElem? (i := 55) rfl))) (by decide) (backOf (W := 0) (rm8 l Z a0 hw [] b44 (((p5 * (-1640531527 : Int32)).toUInt32 >>> ((28 : Int32) &&& 31).toUInt32).toInt32) be424 ba bn bf p0 (0 : Int32) (-sA) (0 : Int32) ne424 ge459 (fun _ => (-2147483648 : Int32)) (fun _ => (0 : Int32)) gf459 (((p5 * (-1640531527 : Int32)).toUInt32 >>> ((28 : Int32) &&& 31).toUInt32).toInt32).toNatClampNeg  T462.heap n0 Z462 H462 (own_home p5).1 rfl (fun _ => (own_home p5).2) (fun q => absurd rfl q)) hZ (hw _ (List.mem_of_getElem? (i := 57) rfl)) (hw _ (List.mem_of_getElem? (i := 2) rfl)) (by decide) (by decide)) q470a q470c (g := (mkF m 197 #[.val (.int p0), .val (.int p1), .val (.int p2), .val (.int p3), .val (.int p4), .val (.int p5), .val (.int sA), .val (.int sB), .val (.int (2 : Int32)), .val (.int cn), .val (.int (0 : Int32)), .val (.ref b44), .val (.int (((p5 * (-1640531527 : Int32)).toUInt32 >>> ((28 : Int32) &&& 31).toUInt32).toInt32)), .val (.int (((p5 * (-1640531527 : Int32)).toUInt32 >>> ((28 : Int32) &&& 31).toUInt32).toInt32))] [(.int (((p5 * (-1640531527 : Int32)).toUInt32 >>> ((28 : Int32) &&& 31).toUInt32).toInt32)), (.ref b44)])) rfl (by rw [hml]; rfl) (Steps.refl _) (argsL := [(.int (((p5 * (-1640531527 : Int32)).toUInt32 >>> ((28 : Int32) &&& 31).toUInt32).toInt32))]) (rest := []) (lenOf pd_2 rfl) rfl (by show 2 * 0 + _ ≤ _; exact Nat.le_of_eq rfl) (hb hby at_197) (fun _ _ => ⟨rfl, e465, (by decide : 6 + 0 ≤ _), (by decide : 80 + 0 ≤ _)⟩)
        dsimp only [Pt.U, Pt.locs, Pt.cells, Pt.slots] at X470 l470 y470 z470 st470 hQ470
        subst l470 y470 z470
        obtain ⟨rfl, N470q, e470⟩ := hQ470
        have N470 := Fr.app N465 N470q
        have pre471 : ∀ t, Steps p.tables e below (T470.setTop (mkF m 200 #[.val (.int p0), .val (.int p1), .val (.int p2), .val (.int p3), .val (.int p4), .val (.int p5), .val (.int sA), .val (.int sB), .val (.int (2 : Int32)), .val (.int cn), .val (.int (0 : Int32)), .val (.ref b44), .val (.int (((p5 * (-1640531527 : Int32)).toUInt32 >>> ((28 : Int32) &&& 31).toUInt32).toInt32)), .val (.int (((p5 * (-1640531527 : Int32)).toUInt32 >>> ((28 : Int32) &&& 31).toUInt32).toInt32))] [(.int (own_end (0 : Int32) ge459 (fun _ => (0 : Int32)) (((p5 * (-1640531527 : Int32)).toUInt32 >>> ((28 : Int32) &&& 31).toUInt32).toInt32).toNatClampNeg))])) t → Steps p.tables e below (s₁.setTop (entryFrame m #[(.int p0), (.int p1), (.int p2), (.int p3), (.int p4), (.int p5)] maxLocals)) t := fun t kont => pre469 t (st470.trans kont)
        have rq472 : (own_end (0 : Int32) ge459 (fun _ => (0 : Int32)) (((p5 * (-1640531527 : Int32)).toUInt32 >>> ((28 : Int32) &&& 31).toUInt32).toInt32).toNatClampNeg) = (0 : Int32) := own_end0 _ _ _
        rw [rq472] at pre471
        have pre473 : ∀ t, Steps p.tables e below (T470.setTop (mkF m 208 #[.val (.int p0), .val (.int p1), .val (.int p2), .val (.int p3), .val (.int p4), .val (.int p5), .val (.int sA), .val (.int sB), .val (.int (2 : Int32)), .val (.int cn), .val (.int (0 : Int32)), .val (.ref b44), .val (.int (((p5 * (-1640531527 : Int32)).toUInt32 >>> ((28 : Int32) &&& 31).toUInt32).toInt32)), .val (.int (((p5 * (-1640531527 : Int32)).toUInt32 >>> ((28 : Int32) &&& 31).toUInt32).toInt32))] [(.int (1 : Int32))])) t → Steps p.tables e below (s₁.setTop (entryFrame m #[(.int p0), (.int p1), (.int p2), (.int p3), (.int p4), (.int p5)] maxLocals)) t := by
          intro t kont
          refine pre471 t ?_
          show Steps p.tables e below (T470.setTop (mkF m 200 #[.val (.int p0), .val (.int p1), .val (.int p2), .val (.int p3), .val (.int p4), .val (.int p5), .val (.int sA), .val (.int sB), .val (.int (2 : Int32)), .val (.int cn), .val (.int (0 : Int32)), .val (.ref b44), .val (.int (((p5 * (-1640531527 : Int32)).toUInt32 >>> ((28 : Int32) &&& 31).toUInt32).toInt32)), .val (.int (((p5 * (-1640531527 : Int32)).toUInt32 >>> ((28 : Int32) &&& 31).toUInt32).toInt32))] [(.int (0 : Int32))])) _
          refine XS.ifNo X470.here hx rfl (hb hby at_200) rfl ((if0 _ _).trans (teq (by decide)).2) ?_
          show Steps p.tables e below (T470.setTop (mkF m 203 #[.val (.int p0), .val (.int p1), .val (.int p2), .val (.int p3), .val (.int p4), .val (.int p5), .val (.int sA), .val (.int sB), .val (.int (2 : Int32)), .val (.int cn), .val (.int (0 : Int32)), .val (.ref b44), .val (.int (((p5 * (-1640531527 : Int32)).toUInt32 >>> ((28 : Int32) &&& 31).toUInt32).toInt32)), .val (.int (((p5 * (-1640531527 : Int32)).toUInt32 >>> ((28 : Int32) &&& 31).toUInt32).toInt32))] [])) _
          refine XS.iconst X470.here hx rfl (hb hby at_203) ?_
          show Steps p.tables e below (T470.setTop (mkF m 204 #[.val (.int p0), .val (.int p1), .val (.int p2), .val (.int p3), .val (.int p4), .val (.int p5), .val (.int sA), .val (.int sB), .val (.int (2 : Int32)), .val (.int cn), .val (.int (0 : Int32)), .val (.ref b44), .val (.int (((p5 * (-1640531527 : Int32)).toUInt32 >>> ((28 : Int32) &&& 31).toUInt32).toInt32)), .val (.int (((p5 * (-1640531527 : Int32)).toUInt32 >>> ((28 : Int32) &&& 31).toUInt32).toInt32))] [(.int (1 : Int32))])) _
          refine XS.goto X470.here hx rfl (pc0 := 204) (pc' := 208) rfl (hb hby at_204) (by decide) (by decide) ?_
          exact kont
        obtain ⟨fs, hr, hrun, hended, hW, hsame⟩ := X470.leave (v := some (.int (1 : Int32))) (fun h => by rw [Bd.returns] at h; cases h)
        refine ⟨_, _, pre473 _ ?_, hrun, hended, _, _, rfl, ?_, ⟨_, rfl⟩, hW, hsame.mono (by decide) (by decide)⟩
        · exact retN X470 hx (t := .boolean) Bd.returns (by simp) (hb hby at_208) hr
        · show Q0 Z p0 p1 p2 p3 p4 p5 h0 n0 _ T470.heap _
          rw [e470]
          exact ⟨rfl, N470⟩
      · exfalso
        first | exact hc200 rfl | exact hc190 rfl
    · rw [hn4] at pre425
      have pre474 : ∀ t, Steps p.tables e below (T424.setTop (mkF m 76 #[.val (.int p0), .val (.int p1), .val (.int p2), .val (.int p3), .val (.int p4), .val (.int p5), .val (.int sA), .val (.int sB), .val (.int (3 : Int32)), .val (.int cn), .val (.int (0 : Int32)), .val (.ref b44), .unset, .unset] [(.int p2), (.int cn), (.int sA), (.ref b44)])) t → Steps p.tables e below (s₁.setTop (entryFrame m #[(.int p0), (.int p1), (.int p2), (.int p3), (.int p4), (.int p5)] maxLocals)) t := by
        intro t kont
        refine pre425 t ?_
        show Steps p.tables e below (T424.setTop (mkF m 63 #[.val (.int p0), .val (.int p1), .val (.int p2), .val (.int p3), .val (.int p4), .val (.int p5), .val (.int sA), .val (.int sB), .val (.int (3 : Int32)), .val (.int cn), .val (.int (0 : Int32)), .val (.ref b44), .unset, .unset] [])) _
        refine XS.iload X424.here hx rfl (hb hby at_63) rfl ?_
        show Steps p.tables e below (T424.setTop (mkF m 65 #[.val (.int p0), .val (.int p1), .val (.int p2), .val (.int p3), .val (.int p4), .val (.int p5), .val (.int sA), .val (.int sB), .val (.int (3 : Int32)), .val (.int cn), .val (.int (0 : Int32)), .val (.ref b44), .unset, .unset] [(.int (3 : Int32))])) _
        refine XS.iconst X424.here hx rfl (hb hby at_65) ?_
        show Steps p.tables e below (T424.setTop (mkF m 66 #[.val (.int p0), .val (.int p1), .val (.int p2), .val (.int p3), .val (.int p4), .val (.int p5), .val (.int sA), .val (.int sB), .val (.int (3 : Int32)), .val (.int cn), .val (.int (0 : Int32)), .val (.ref b44), .unset, .unset] [(.int (1 : Int32)), (.int (3 : Int32))])) _
        refine XS.icmpNo X424.here hx rfl (hb hby at_66) rfl (flt (by decide)).1 ?_
        show Steps p.tables e below (T424.setTop (mkF m 69 #[.val (.int p0), .val (.int p1), .val (.int p2), .val (.int p3), .val (.int p4), .val (.int p5), .val (.int sA), .val (.int sB), .val (.int (3 : Int32)), .val (.int cn), .val (.int (0 : Int32)), .val (.ref b44), .unset, .unset] [])) _
        refine XS.aload X424.here hx rfl (hb hby at_69) rfl rfl ?_
        show Steps p.tables e below (T424.setTop (mkF m 71 #[.val (.int p0), .val (.int p1), .val (.int p2), .val (.int p3), .val (.int p4), .val (.int p5), .val (.int sA), .val (.int sB), .val (.int (3 : Int32)), .val (.int cn), .val (.int (0 : Int32)), .val (.ref b44), .unset, .unset] [(.ref b44)])) _
        refine XS.iload X424.here hx rfl (hb hby at_71) rfl ?_
        show Steps p.tables e below (T424.setTop (mkF m 73 #[.val (.int p0), .val (.int p1), .val (.int p2), .val (.int p3), .val (.int p4), .val (.int p5), .val (.int sA), .val (.int sB), .val (.int (3 : Int32)), .val (.int cn), .val (.int (0 : Int32)), .val (.ref b44), .unset, .unset] [(.int sA), (.ref b44)])) _
        refine XS.iload X424.here hx rfl (hb hby at_73) rfl ?_
        show Steps p.tables e below (T424.setTop (mkF m 75 #[.val (.int p0), .val (.int p1), .val (.int p2), .val (.int p3), .val (.int p4), .val (.int p5), .val (.int sA), .val (.int sB), .val (.int (3 : Int32)), .val (.int cn), .val (.int (0 : Int32)), .val (.ref b44), .unset, .unset] [(.int cn), (.int sA), (.ref b44)])) _
        refine XS.iloadN X424.here hx rfl (hb hby at_75) rfl ?_
        exact kont
      obtain ⟨_, _, ⟨T475, L475, k475, n475⟩, -, X475, ⟨Lc475, hQ475, l475, y475, z475⟩, st475⟩ := Jvm.LawKit.callS X424 hx (y := (⟨"com/example/impronta/impronta/engine/AlignmentsClearPinLaw", "putOne", "(Lcom/example/impronta/impronta/engine/Alignments;III)V"⟩ : MethodName)) hown (mvT hZ (hw _ (List.mem_of_getElem? (i := 59) rfl))) (mvT hZ (hw _ (List.mem_of_getElem? (i := 60) rfl))) (mvT hZ (hw _ (List.mem_of_getElem? (i := 61) rfl))) (mvT hZ (hw _ (List.mem_of_getElem? (i := 62) rfl))) (by decide) (backOf (W := 0) (rm9b l Z a0 hw [] b44 sA cn p2 be424 ba bn bf p0 (0 : Int32) ne424 (fun _ => (0 : Int32)) (fun _ => (-2147483648 : Int32)) (fun _ => (0 : Int32)) (fun _ => (0 : Int32)) 0  T424.heap n0 Z424 H424 hI0 (by decide) (by decide) (by decide) hcc) hZ (hw _ (List.mem_of_getElem? (i := 62) rfl)) (hw _ (List.mem_of_getElem? (i := 61) rfl)) (by decide) (by decide)) (g := (mkF m 76 #[.val (.int p0), .val (.int p1), .val (.int p2), .val (.int p3), .val (.int p4), .val (.int p5), .val (.int sA), .val (.int sB), .val (.int (3 : Int32)), .val (.int cn), .val (.int (0 : Int32)), .val (.ref b44), .unset, .unset] [(.int p2), (.int cn), (.int sA), (.ref b44)])) rfl (by rw [hml]; rfl) (argsL := [(.ref b44), (.int sA), (.int cn), (.int p2)]) (rest := []) (lenOf pd_7 rfl) rfl (by show 2 * 0 + _ ≤ _; exact Nat.le_of_eq rfl) (hb hby at_76) (fun _ _ => ⟨rfl, rfl, (by decide : 6 + 0 ≤ _), (by decide : 80 + 0 ≤ _)⟩)
      dsimp only [Pt.U, Pt.locs, Pt.cells, Pt.slots] at X475 l475 y475 z475 st475 hQ475
      subst l475 y475 z475
      obtain ⟨rfl, N475q, Z475, sz475, zn475, ge475, ga475, gn475, gf475, ww475, hz0475, hzn475, hI475, H475⟩ := hQ475
      have N475 := Fr.app N424 N475q
      have pre476 : ∀ t, Steps p.tables e below (T475.setTop (mkF m 79 #[.val (.int p0), .val (.int p1), .val (.int p2), .val (.int p3), .val (.int p4), .val (.int p5), .val (.int sA), .val (.int sB), .val (.int (3 : Int32)), .val (.int cn), .val (.int (0 : Int32)), .val (.ref b44), .unset, .unset] [])) t → Steps p.tables e below (s₁.setTop (entryFrame m #[(.int p0), (.int p1), (.int p2), (.int p3), (.int p4), (.int p5)] maxLocals)) t := fun t kont => pre474 t (st475 _ kont)
      have pre477 : ∀ t, Steps p.tables e below (T475.setTop (mkF m 92 #[.val (.int p0), .val (.int p1), .val (.int p2), .val (.int p3), .val (.int p4), .val (.int p5), .val (.int sA), .val (.int sB), .val (.int (3 : Int32)), .val (.int cn), .val (.int (0 : Int32)), .val (.ref b44), .unset, .unset] [(.int p3), (.int cn), (.int sA), (.ref b44)])) t → Steps p.tables e below (s₁.setTop (entryFrame m #[(.int p0), (.int p1), (.int p2), (.int p3), (.int p4), (.int p5)] maxLocals)) t := by
        intro t kont
        refine pre476 t ?_
        show Steps p.tables e below (T475.setTop (mkF m 79 #[.val (.int p0), .val (.int p1), .val (.int p2), .val (.int p3), .val (.int p4), .val (.int p5), .val (.int sA), .val (.int sB), .val (.int (3 : Int32)), .val (.int cn), .val (.int (0 : Int32)), .val (.ref b44), .unset, .unset] [])) _
        refine XS.iload X475.here hx rfl (hb hby at_79) rfl ?_
        show Steps p.tables e below (T475.setTop (mkF m 81 #[.val (.int p0), .val (.int p1), .val (.int p2), .val (.int p3), .val (.int p4), .val (.int p5), .val (.int sA), .val (.int sB), .val (.int (3 : Int32)), .val (.int cn), .val (.int (0 : Int32)), .val (.ref b44), .unset, .unset] [(.int (3 : Int32))])) _
        refine XS.iconst X475.here hx rfl (hb hby at_81) ?_
        show Steps p.tables e below (T475.setTop (mkF m 82 #[.val (.int p0), .val (.int p1), .val (.int p2), .val (.int p3), .val (.int p4), .val (.int p5), .val (.int sA), .val (.int sB), .val (.int (3 : Int32)), .val (.int cn), .val (.int (0 : Int32)), .val (.ref b44), .unset, .unset] [(.int (2 : Int32)), (.int (3 : Int32))])) _
        refine XS.icmpNo X475.here hx rfl (hb hby at_82) rfl (flt (by decide)).1 ?_
        show Steps p.tables e below (T475.setTop (mkF m 85 #[.val (.int p0), .val (.int p1), .val (.int p2), .val (.int p3), .val (.int p4), .val (.int p5), .val (.int sA), .val (.int sB), .val (.int (3 : Int32)), .val (.int cn), .val (.int (0 : Int32)), .val (.ref b44), .unset, .unset] [])) _
        refine XS.aload X475.here hx rfl (hb hby at_85) rfl rfl ?_
        show Steps p.tables e below (T475.setTop (mkF m 87 #[.val (.int p0), .val (.int p1), .val (.int p2), .val (.int p3), .val (.int p4), .val (.int p5), .val (.int sA), .val (.int sB), .val (.int (3 : Int32)), .val (.int cn), .val (.int (0 : Int32)), .val (.ref b44), .unset, .unset] [(.ref b44)])) _
        refine XS.iload X475.here hx rfl (hb hby at_87) rfl ?_
        show Steps p.tables e below (T475.setTop (mkF m 89 #[.val (.int p0), .val (.int p1), .val (.int p2), .val (.int p3), .val (.int p4), .val (.int p5), .val (.int sA), .val (.int sB), .val (.int (3 : Int32)), .val (.int cn), .val (.int (0 : Int32)), .val (.ref b44), .unset, .unset] [(.int sA), (.ref b44)])) _
        refine XS.iload X475.here hx rfl (hb hby at_89) rfl ?_
        show Steps p.tables e below (T475.setTop (mkF m 91 #[.val (.int p0), .val (.int p1), .val (.int p2), .val (.int p3), .val (.int p4), .val (.int p5), .val (.int sA), .val (.int sB), .val (.int (3 : Int32)), .val (.int cn), .val (.int (0 : Int32)), .val (.ref b44), .unset, .unset] [(.int cn), (.int sA), (.ref b44)])) _
        refine XS.iloadN X475.here hx rfl (hb hby at_91) rfl ?_
        exact kont
      obtain ⟨_, _, ⟨T478, L478, k478, n478⟩, -, X478, ⟨Lc478, hQ478, l478, y478, z478⟩, st478⟩ := Jvm.LawKit.callS X475 hx (y := (⟨"com/example/impronta/impronta/engine/AlignmentsClearPinLaw", "putOne", "(Lcom/example/impronta/impronta/engine/Alignments;III)V"⟩ : MethodName)) hown (mvT hZ (hw _ (List.mem_of_getElem? (i := 59) rfl))) (mvT hZ (hw _ (List.mem_of_getElem? (i := 60) rfl))) (mvT hZ (hw _ (List.mem_of_getElem? (i := 61) rfl))) (mvT hZ (hw _ (List.mem_of_getElem? (i := 62) rfl))) (by decide) (backOf (W := 0) (rm9b l Z a0 hw [] b44 sA cn p3 be424 ba bn bf p0 sz475 ne424 ge475 ga475 gn475 gf475 zn475  T475.heap n0 Z475 H475 hI475 hz0475 hzn475 (by omega) hcc) hZ (hw _ (List.mem_of_getElem? (i := 62) rfl)) (hw _ (List.mem_of_getElem? (i := 61) rfl)) (by decide) (by decide)) (g := (mkF m 92 #[.val (.int p0), .val (.int p1), .val (.int p2), .val (.int p3), .val (.int p4), .val (.int p5), .val (.int sA), .val (.int sB), .val (.int (3 : Int32)), .val (.int cn), .val (.int (0 : Int32)), .val (.ref b44), .unset, .unset] [(.int p3), (.int cn), (.int sA), (.ref b44)])) rfl (by rw [hml]; rfl) (argsL := [(.ref b44), (.int sA), (.int cn), (.int p3)]) (rest := []) (lenOf pd_7 rfl) rfl (by show 2 * 0 + _ ≤ _; exact Nat.le_of_eq rfl) (hb hby at_92) (fun _ _ => ⟨rfl, rfl, (by decide : 6 + 0 ≤ _), (by decide : 80 + 0 ≤ _)⟩)
      dsimp only [Pt.U, Pt.locs, Pt.cells, Pt.slots] at X478 l478 y478 z478 st478 hQ478
      subst l478 y478 z478
      obtain ⟨rfl, N478q, Z478, sz478, zn478, ge478, ga478, gn478, gf478, ww478, hz0478, hzn478, hI478, H478⟩ := hQ478
      have N478 := Fr.app N475 N478q
      have pre479 : ∀ t, Steps p.tables e below (T478.setTop (mkF m 95 #[.val (.int p0), .val (.int p1), .val (.int p2), .val (.int p3), .val (.int p4), .val (.int p5), .val (.int sA), .val (.int sB), .val (.int (3 : Int32)), .val (.int cn), .val (.int (0 : Int32)), .val (.ref b44), .unset, .unset] [])) t → Steps p.tables e below (s₁.setTop (entryFrame m #[(.int p0), (.int p1), (.int p2), (.int p3), (.int p4), (.int p5)] maxLocals)) t := fun t kont => pre477 t (st478 _ kont)
      have pre480 : ∀ t, Steps p.tables e below (T478.setTop (mkF m 109 #[.val (.int p0), .val (.int p1), .val (.int p2), .val (.int p3), .val (.int p4), .val (.int p5), .val (.int sA), .val (.int sB), .val (.int (3 : Int32)), .val (.int cn), .val (.int (0 : Int32)), .val (.ref b44), .unset, .unset] [(.int p4), (.int cn), (.int sA), (.ref b44)])) t → Steps p.tables e below (s₁.setTop (entryFrame m #[(.int p0), (.int p1), (.int p2), (.int p3), (.int p4), (.int p5)] maxLocals)) t := by
        intro t kont
        refine pre479 t ?_
        show Steps p.tables e below (T478.setTop (mkF m 95 #[.val (.int p0), .val (.int p1), .val (.int p2), .val (.int p3), .val (.int p4), .val (.int p5), .val (.int sA), .val (.int sB), .val (.int (3 : Int32)), .val (.int cn), .val (.int (0 : Int32)), .val (.ref b44), .unset, .unset] [])) _
        refine XS.iload X478.here hx rfl (hb hby at_95) rfl ?_
        show Steps p.tables e below (T478.setTop (mkF m 97 #[.val (.int p0), .val (.int p1), .val (.int p2), .val (.int p3), .val (.int p4), .val (.int p5), .val (.int sA), .val (.int sB), .val (.int (3 : Int32)), .val (.int cn), .val (.int (0 : Int32)), .val (.ref b44), .unset, .unset] [(.int (3 : Int32))])) _
        refine XS.iconst X478.here hx rfl (hb hby at_97) ?_
        show Steps p.tables e below (T478.setTop (mkF m 98 #[.val (.int p0), .val (.int p1), .val (.int p2), .val (.int p3), .val (.int p4), .val (.int p5), .val (.int sA), .val (.int sB), .val (.int (3 : Int32)), .val (.int cn), .val (.int (0 : Int32)), .val (.ref b44), .unset, .unset] [(.int (3 : Int32)), (.int (3 : Int32))])) _
        refine XS.icmpNo X478.here hx rfl (hb hby at_98) rfl (flt (by decide)).1 ?_
        show Steps p.tables e below (T478.setTop (mkF m 101 #[.val (.int p0), .val (.int p1), .val (.int p2), .val (.int p3), .val (.int p4), .val (.int p5), .val (.int sA), .val (.int sB), .val (.int (3 : Int32)), .val (.int cn), .val (.int (0 : Int32)), .val (.ref b44), .unset, .unset] [])) _
        refine XS.aload X478.here hx rfl (hb hby at_101) rfl rfl ?_
        show Steps p.tables e below (T478.setTop (mkF m 103 #[.val (.int p0), .val (.int p1), .val (.int p2), .val (.int p3), .val (.int p4), .val (.int p5), .val (.int sA), .val (.int sB), .val (.int (3 : Int32)), .val (.int cn), .val (.int (0 : Int32)), .val (.ref b44), .unset, .unset] [(.ref b44)])) _
        refine XS.iload X478.here hx rfl (hb hby at_103) rfl ?_
        show Steps p.tables e below (T478.setTop (mkF m 105 #[.val (.int p0), .val (.int p1), .val (.int p2), .val (.int p3), .val (.int p4), .val (.int p5), .val (.int sA), .val (.int sB), .val (.int (3 : Int32)), .val (.int cn), .val (.int (0 : Int32)), .val (.ref b44), .unset, .unset] [(.int sA), (.ref b44)])) _
        refine XS.iload X478.here hx rfl (hb hby at_105) rfl ?_
        show Steps p.tables e below (T478.setTop (mkF m 107 #[.val (.int p0), .val (.int p1), .val (.int p2), .val (.int p3), .val (.int p4), .val (.int p5), .val (.int sA), .val (.int sB), .val (.int (3 : Int32)), .val (.int cn), .val (.int (0 : Int32)), .val (.ref b44), .unset, .unset] [(.int cn), (.int sA), (.ref b44)])) _
        refine XS.iload X478.here hx rfl (hb hby at_107) rfl ?_
        exact kont
      obtain ⟨_, _, ⟨T481, L481, k481, n481⟩, -, X481, ⟨Lc481, hQ481, l481, y481, z481⟩, st481⟩ := Jvm.LawKit.callS X478 hx (y := (⟨"com/example/impronta/impronta/engine/AlignmentsClearPinLaw", "putOne", "(Lcom/example/impronta/impronta/engine/Alignments;III)V"⟩ : MethodName)) hown (mvT hZ (hw _ (List.mem_of_getElem? (i := 59) rfl))) (mvT hZ (hw _ (List.mem_of_getElem? (i := 60) rfl))) (mvT hZ (hw _ (List.mem_of_getElem? (i := 61) rfl))) (mvT hZ (hw _ (List.mem_of_getElem? (i := 62) rfl))) (by decide) (backOf (W := 0) (rm9b l Z a0 hw [] b44 sA cn p4 be424 ba bn bf p0 sz478 ne424 ge478 ga478 gn478 gf478 zn478  T478.heap n0 Z478 H478 hI478 hz0478 hzn478 (by omega) hcc) hZ (hw _ (List.mem_of_getElem? (i := 62) rfl)) (hw _ (List.mem_of_getElem? (i := 61) rfl)) (by decide) (by decide)) (g := (mkF m 109 #[.val (.int p0), .val (.int p1), .val (.int p2), .val (.int p3), .val (.int p4), .val (.int p5), .val (.int sA), .val (.int sB), .val (.int (3 : Int32)), .val (.int cn), .val (.int (0 : Int32)), .val (.ref b44), .unset, .unset] [(.int p4), (.int cn), (.int sA), (.ref b44)])) rfl (by rw [hml]; rfl) (argsL := [(.ref b44), (.int sA), (.int cn), (.int p4)]) (rest := []) (lenOf pd_7 rfl) rfl (by show 2 * 0 + _ ≤ _; exact Nat.le_of_eq rfl) (hb hby at_109) (fun _ _ => ⟨rfl, rfl, (by decide : 6 + 0 ≤ _), (by decide : 80 + 0 ≤ _)⟩)
      dsimp only [Pt.U, Pt.locs, Pt.cells, Pt.slots] at X481 l481 y481 z481 st481 hQ481
      subst l481 y481 z481
      obtain ⟨rfl, N481q, Z481, sz481, zn481, ge481, ga481, gn481, gf481, ww481, hz0481, hzn481, hI481, H481⟩ := hQ481
      have N481 := Fr.app N478 N481q
      have pre482 : ∀ t, Steps p.tables e below (T481.setTop (mkF m 112 #[.val (.int p0), .val (.int p1), .val (.int p2), .val (.int p3), .val (.int p4), .val (.int p5), .val (.int sA), .val (.int sB), .val (.int (3 : Int32)), .val (.int cn), .val (.int (0 : Int32)), .val (.ref b44), .unset, .unset] [])) t → Steps p.tables e below (s₁.setTop (entryFrame m #[(.int p0), (.int p1), (.int p2), (.int p3), (.int p4), (.int p5)] maxLocals)) t := fun t kont => pre480 t (st481 _ kont)
      have pre483 : ∀ t, Steps p.tables e below (T481.setTop (mkF m 114 #[.val (.int p0), .val (.int p1), .val (.int p2), .val (.int p3), .val (.int p4), .val (.int p5), .val (.int sA), .val (.int sB), .val (.int (3 : Int32)), .val (.int cn), .val (.int (0 : Int32)), .val (.ref b44), .unset, .unset] [(.ref b44)])) t → Steps p.tables e below (s₁.setTop (entryFrame m #[(.int p0), (.int p1), (.int p2), (.int p3), (.int p4), (.int p5)] maxLocals)) t := by
        intro t kont
        refine pre482 t ?_
        show Steps p.tables e below (T481.setTop (mkF m 112 #[.val (.int p0), .val (.int p1), .val (.int p2), .val (.int p3), .val (.int p4), .val (.int p5), .val (.int sA), .val (.int sB), .val (.int (3 : Int32)), .val (.int cn), .val (.int (0 : Int32)), .val (.ref b44), .unset, .unset] [])) _
        refine XS.aload X481.here hx rfl (hb hby at_112) rfl rfl ?_
        exact kont
      obtain ⟨cq484, kq484, q484a, q484b, q484c⟩ := isOf hZ rfl (H481).1
      obtain ⟨_, _, ⟨T484, L484, k484, n484⟩, -, X484, ⟨Lc484, hQ484, l484, y484, z484⟩, st484⟩ := X481.virtualBack hx (y := (⟨"com/example/impronta/impronta/engine/Alignments", "clear", "()V"⟩ : MethodName)) (z := (⟨"com/example/impronta/impronta/engine/Alignments", "clear", "()V"⟩ : MethodName)) hown (mvT hZ (hw _ (List.mem_of_getElem? (i := 39) rfl))) (mvT hZ (hw _ (List.mem_of_getElem? (i := 40) rfl))) (notFace_of_selects (args := #[]) (mvT hZ (hw _ (List.mem_of_getElem? (i := 42) rfl)))) (mvT hZ (hw _ (List.mem_of_getElem? (i := 42) rfl))) (mvT hZ (hw _ (List.mem_of_getElem? (i := 41) rfl))) (by decide) (backOf (W := 0) (rm6b l Z a0 hw [] b44 be424 ba bn bf p0 (-sA) sz481 ne424 ge481 ga481 gn481 gf481 zn481  T481.heap n0 Z481 H481 hI481 hzn481 (by omega)) hZ (hw _ (List.mem_of_getElem? (i := 43) rfl)) (hw _ (List.mem_of_getElem? (i := 2) rfl)) (by decide) (by decide)) q484a q484c (g := (mkF m 114 #[.val (.int p0), .val (.int p1), .val (.int p2), .val (.int p3), .val (.int p4), .val (.int p5), .val (.int sA), .val (.int sB), .val (.int (3 : Int32)), .val (.int cn), .val (.int (0 : Int32)), .val (.ref b44), .unset, .unset] [(.ref b44)])) rfl (by rw [hml]; rfl) (Steps.refl _) (argsL := []) (rest := []) (lenOf pd_6 rfl) rfl (by show 2 * 0 + _ ≤ _; exact Nat.le_of_eq rfl) (hb hby at_114) (fun _ _ => ⟨rfl, rfl, (by decide : 6 + 0 ≤ _), (by decide : 80 + 0 ≤ _)⟩)
      dsimp only [Pt.U, Pt.locs, Pt.cells, Pt.slots] at X484 l484 y484 z484 st484 hQ484
      subst l484 y484 z484
      obtain ⟨rfl, N484q, Z484, H484⟩ := hQ484
      have N484 := Fr.app N481 N484q
      have pre485 : ∀ t, Steps p.tables e below (T484.setTop (mkF m 117 #[.val (.int p0), .val (.int p1), .val (.int p2), .val (.int p3), .val (.int p4), .val (.int p5), .val (.int sA), .val (.int sB), .val (.int (3 : Int32)), .val (.int cn), .val (.int (0 : Int32)), .val (.ref b44), .unset, .unset] [])) t → Steps p.tables e below (s₁.setTop (entryFrame m #[(.int p0), (.int p1), (.int p2), (.int p3), (.int p4), (.int p5)] maxLocals)) t := fun t kont => pre483 t (st484.trans kont)
      have pre486 : ∀ t, Steps p.tables e below (T484.setTop (mkF m 171 #[.val (.int p0), .val (.int p1), .val (.int p2), .val (.int p3), .val (.int p4), .val (.int p5), .val (.int sA), .val (.int sB), .val (.int (3 : Int32)), .val (.int cn), .val (.int (0 : Int32)), .val (.ref b44), .unset, .unset] [(.int p5), (.ref b44)])) t → Steps p.tables e below (s₁.setTop (entryFrame m #[(.int p0), (.int p1), (.int p2), (.int p3), (.int p4), (.int p5)] maxLocals)) t := by
        intro t kont
        refine pre485 t ?_
        show Steps p.tables e below (T484.setTop (mkF m 117 #[.val (.int p0), .val (.int p1), .val (.int p2), .val (.int p3), .val (.int p4), .val (.int p5), .val (.int sA), .val (.int sB), .val (.int (3 : Int32)), .val (.int cn), .val (.int (0 : Int32)), .val (.ref b44), .unset, .unset] [])) _
        refine XS.iload X484.here hx rfl (hb hby at_117) rfl ?_
        show Steps p.tables e below (T484.setTop (mkF m 119 #[.val (.int p0), .val (.int p1), .val (.int p2), .val (.int p3), .val (.int p4), .val (.int p5), .val (.int sA), .val (.int sB), .val (.int (3 : Int32)), .val (.int cn), .val (.int (0 : Int32)), .val (.ref b44), .unset, .unset] [(.int (0 : Int32))])) _
        refine XS.ifYes X484.here hx rfl (pc0 := 119) (pc' := 167) rfl (hb hby at_119) rfl ((if0 _ _).trans (teq (by decide)).1) (by decide) (by decide) ?_
        show Steps p.tables e below (T484.setTop (mkF m 167 #[.val (.int p0), .val (.int p1), .val (.int p2), .val (.int p3), .val (.int p4), .val (.int p5), .val (.int sA), .val (.int sB), .val (.int (3 : Int32)), .val (.int cn), .val (.int (0 : Int32)), .val (.ref b44), .unset, .unset] [])) _
        refine XS.aload X484.here hx rfl (hb hby at_167) rfl rfl ?_
        show Steps p.tables e below (T484.setTop (mkF m 169 #[.val (.int p0), .val (.int p1), .val (.int p2), .val (.int p3), .val (.int p4), .val (.int p5), .val (.int sA), .val (.int sB), .val (.int (3 : Int32)), .val (.int cn), .val (.int (0 : Int32)), .val (.ref b44), .unset, .unset] [(.ref b44)])) _
        refine XS.iload X484.here hx rfl (hb hby at_169) rfl ?_
        exact kont
      obtain ⟨cq487, kq487, q487a, q487b, q487c⟩ := isOf hZ rfl (H484).1
      obtain ⟨_, _, ⟨T487, L487, k487, n487⟩, -, X487, ⟨Lc487, hQ487, l487, y487, z487⟩, st487⟩ := X484.virtualBack hx (y := (⟨"com/example/impronta/impronta/engine/Alignments", "slot", "(I)I"⟩ : MethodName)) (z := (⟨"com/example/impronta/impronta/engine/Alignments", "slot", "(I)I"⟩ : MethodName)) hown (mvT hZ (hw _ (List.mem_of_getElem? (i := 46) rfl))) (mvT hZ (hw _ (List.mem_of_getElem? (i := 47) rfl))) (notFace_of_selects (args := #[]) (mvT hZ (hw _ (List.mem_of_getElem? (i := 49) rfl)))) (mvT hZ (hw _ (List.mem_of_getElem? (i := 49) rfl))) (mvT hZ (hw _ (List.mem_of_getElem? (i := 48) rfl))) (by decide) (backOf (W := 0) (rm7 l Z a0 hw [] b44 p5 be424 ba bn bf p0 (0 : Int32) (-sA) (0 : Int32) ne424 ge481 (fun _ => (-2147483648 : Int32)) (fun _ => (0 : Int32)) gf481  T484.heap n0 Z484 H484 (fun _ => Or.inl rfl)) hZ (hw _ (List.mem_of_getElem? (i := 50) rfl)) (hw _ (List.mem_of_getElem? (i := 2) rfl)) (by decide) (by decide)) q487a q487c (g := (mkF m 171 #[.val (.int p0), .val (.int p1), .val (.int p2), .val (.int p3), .val (.int p4), .val (.int p5), .val (.int sA), .val (.int sB), .val (.int (3 : Int32)), .val (.int cn), .val (.int (0 : Int32)), .val (.ref b44), .unset, .unset] [(.int p5), (.ref b44)])) rfl (by rw [hml]; rfl) (Steps.refl _) (argsL := [(.int p5)]) (rest := []) (lenOf pd_2 rfl) rfl (by show 2 * 0 + _ ≤ _; exact Nat.le_of_eq rfl) (hb hby at_171) (fun _ _ => ⟨rfl, rfl, (by decide : 6 + 0 ≤ _), (by decide : 80 + 0 ≤ _)⟩)
      dsimp only [Pt.U, Pt.locs, Pt.cells, Pt.slots] at X487 l487 y487 z487 st487 hQ487
      subst l487 y487 z487
      obtain ⟨rfl, N487q, e487⟩ := hQ487
      have N487 := Fr.app N484 N487q
      have pre488 : ∀ t, Steps p.tables e below (T487.setTop (mkF m 174 #[.val (.int p0), .val (.int p1), .val (.int p2), .val (.int p3), .val (.int p4), .val (.int p5), .val (.int sA), .val (.int sB), .val (.int (3 : Int32)), .val (.int cn), .val (.int (0 : Int32)), .val (.ref b44), .unset, .unset] [(.int (own_slot (0 : Int32) (-sA) (fun _ => (-2147483648 : Int32)) p5))])) t → Steps p.tables e below (s₁.setTop (entryFrame m #[(.int p0), (.int p1), (.int p2), (.int p3), (.int p4), (.int p5)] maxLocals)) t := fun t kont => pre486 t (st487.trans kont)
      have rq489 : (own_slot (0 : Int32) (-sA) (fun _ => (-2147483648 : Int32)) p5) = (((p5 * (-1640531527 : Int32)).toUInt32 >>> ((28 : Int32) &&& 31).toUInt32).toInt32) := own_sB _ _
      rw [rq489] at pre488
      have pre490 : ∀ t, Steps p.tables e below (T487.setTop (mkF m 190 #[.val (.int p0), .val (.int p1), .val (.int p2), .val (.int p3), .val (.int p4), .val (.int p5), .val (.int sA), .val (.int sB), .val (.int (3 : Int32)), .val (.int cn), .val (.int (0 : Int32)), .val (.ref b44), .val (.int (((p5 * (-1640531527 : Int32)).toUInt32 >>> ((28 : Int32) &&& 31).toUInt32).toInt32)), .val (.int (((p5 * (-1640531527 : Int32)).toUInt32 >>> ((28 : Int32) &&& 31).toUInt32).toInt32))] [(.int (((p5 * (-1640531527 : Int32)).toUInt32 >>> ((28 : Int32) &&& 31).toUInt32).toInt32)), (.int (((p5 * (-1640531527 : Int32)).toUInt32 >>> ((28 : Int32) &&& 31).toUInt32).toInt32))])) t → Steps p.tables e below (s₁.setTop (entryFrame m #[(.int p0), (.int p1), (.int p2), (.int p3), (.int p4), (.int p5)] maxLocals)) t := by
        intro t kont
        refine pre488 t ?_
        show Steps p.tables e below (T487.setTop (mkF m 174 #[.val (.int p0), .val (.int p1), .val (.int p2), .val (.int p3), .val (.int p4), .val (.int p5), .val (.int sA), .val (.int sB), .val (.int (3 : Int32)), .val (.int cn), .val (.int (0 : Int32)), .val (.ref b44), .unset, .unset] [(.int (((p5 * (-1640531527 : Int32)).toUInt32 >>> ((28 : Int32) &&& 31).toUInt32).toInt32))])) _
        refine XS.istore X487.here hx rfl (hb hby at_174) rfl (l' := #[.val (.int p0), .val (.int p1), .val (.int p2), .val (.int p3), .val (.int p4), .val (.int p5), .val (.int sA), .val (.int sB), .val (.int (3 : Int32)), .val (.int cn), .val (.int (0 : Int32)), .val (.ref b44), .val (.int (((p5 * (-1640531527 : Int32)).toUInt32 >>> ((28 : Int32) &&& 31).toUInt32).toInt32)), .unset]) rfl ?_
        show Steps p.tables e below (T487.setTop (mkF m 176 #[.val (.int p0), .val (.int p1), .val (.int p2), .val (.int p3), .val (.int p4), .val (.int p5), .val (.int sA), .val (.int sB), .val (.int (3 : Int32)), .val (.int cn), .val (.int (0 : Int32)), .val (.ref b44), .val (.int (((p5 * (-1640531527 : Int32)).toUInt32 >>> ((28 : Int32) &&& 31).toUInt32).toInt32)), .unset] [])) _
        refine XS.iload X487.here hx rfl (hb hby at_176) rfl ?_
        show Steps p.tables e below (T487.setTop (mkF m 178 #[.val (.int p0), .val (.int p1), .val (.int p2), .val (.int p3), .val (.int p4), .val (.int p5), .val (.int sA), .val (.int sB), .val (.int (3 : Int32)), .val (.int cn), .val (.int (0 : Int32)), .val (.ref b44), .val (.int (((p5 * (-1640531527 : Int32)).toUInt32 >>> ((28 : Int32) &&& 31).toUInt32).toInt32)), .unset] [(.int p5)])) _
        refine X487.ldcInt hx hown (mvT hZ (hw _ (List.mem_of_getElem? (i := 52) rfl))) (g := (mkF m 178 #[.val (.int p0), .val (.int p1), .val (.int p2), .val (.int p3), .val (.int p4), .val (.int p5), .val (.int sA), .val (.int sB), .val (.int (3 : Int32)), .val (.int cn), .val (.int (0 : Int32)), .val (.ref b44), .val (.int (((p5 * (-1640531527 : Int32)).toUInt32 >>> ((28 : Int32) &&& 31).toUInt32).toInt32)), .unset] [(.int p5)])) rfl (hb hby at_178) _ ?_
        show Steps p.tables e below (T487.setTop (mkF m 180 #[.val (.int p0), .val (.int p1), .val (.int p2), .val (.int p3), .val (.int p4), .val (.int p5), .val (.int sA), .val (.int sB), .val (.int (3 : Int32)), .val (.int cn), .val (.int (0 : Int32)), .val (.ref b44), .val (.int (((p5 * (-1640531527 : Int32)).toUInt32 >>> ((28 : Int32) &&& 31).toUInt32).toInt32)), .unset] [(.int (-1640531527 : Int32)), (.int p5)])) _
        refine XS.imul X487.here hx rfl (hb hby at_180) rfl ?_
        show Steps p.tables e below (T487.setTop (mkF m 181 #[.val (.int p0), .val (.int p1), .val (.int p2), .val (.int p3), .val (.int p4), .val (.int p5), .val (.int sA), .val (.int sB), .val (.int (3 : Int32)), .val (.int cn), .val (.int (0 : Int32)), .val (.ref b44), .val (.int (((p5 * (-1640531527 : Int32)).toUInt32 >>> ((28 : Int32) &&& 31).toUInt32).toInt32)), .unset] [(.int (p5 * (-1640531527 : Int32)))])) _
        refine XS.bipush X487.here hx rfl (hb hby at_181) ?_
        show Steps p.tables e below (T487.setTop (mkF m 183 #[.val (.int p0), .val (.int p1), .val (.int p2), .val (.int p3), .val (.int p4), .val (.int p5), .val (.int sA), .val (.int sB), .val (.int (3 : Int32)), .val (.int cn), .val (.int (0 : Int32)), .val (.ref b44), .val (.int (((p5 * (-1640531527 : Int32)).toUInt32 >>> ((28 : Int32) &&& 31).toUInt32).toInt32)), .unset] [(.int (28 : Int32)), (.int (p5 * (-1640531527 : Int32)))])) _
        refine XS.iushr X487.here hx rfl (hb hby at_183) rfl ?_
        show Steps p.tables e below (T487.setTop (mkF m 184 #[.val (.int p0), .val (.int p1), .val (.int p2), .val (.int p3), .val (.int p4), .val (.int p5), .val (.int sA), .val (.int sB), .val (.int (3 : Int32)), .val (.int cn), .val (.int (0 : Int32)), .val (.ref b44), .val (.int (((p5 * (-1640531527 : Int32)).toUInt32 >>> ((28 : Int32) &&& 31).toUInt32).toInt32)), .unset] [(.int (((p5 * (-1640531527 : Int32)).toUInt32 >>> ((28 : Int32) &&& 31).toUInt32).toInt32))])) _
        refine XS.istore X487.here hx rfl (hb hby at_184) rfl (l' := #[.val (.int p0), .val (.int p1), .val (.int p2), .val (.int p3), .val (.int p4), .val (.int p5), .val (.int sA), .val (.int sB), .val (.int (3 : Int32)), .val (.int cn), .val (.int (0 : Int32)), .val (.ref b44), .val (.int (((p5 * (-1640531527 : Int32)).toUInt32 >>> ((28 : Int32) &&& 31).toUInt32).toInt32)), .val (.int (((p5 * (-1640531527 : Int32)).toUInt32 >>> ((28 : Int32) &&& 31).toUInt32).toInt32))]) rfl ?_
        show Steps p.tables e below (T487.setTop (mkF m 186 #[.val (.int p0), .val (.int p1), .val (.int p2), .val (.int p3), .val (.int p4), .val (.int p5), .val (.int sA), .val (.int sB), .val (.int (3 : Int32)), .val (.int cn), .val (.int (0 : Int32)), .val (.ref b44), .val (.int (((p5 * (-1640531527 : Int32)).toUInt32 >>> ((28 : Int32) &&& 31).toUInt32).toInt32)), .val (.int (((p5 * (-1640531527 : Int32)).toUInt32 >>> ((28 : Int32) &&& 31).toUInt32).toInt32))] [])) _
        refine XS.iload X487.here hx rfl (hb hby at_186) rfl ?_
        show Steps p.tables e below (T487.setTop (mkF m 188 #[.val (.int p0), .val (.int p1), .val (.int p2), .val (.int p3), .val (.int p4), .val (.int p5), .val (.int sA), .val (.int sB), .val (.int (3 : Int32)), .val (.int cn), .val (.int (0 : Int32)), .val (.ref b44), .val (.int (((p5 * (-1640531527 : Int32)).toUInt32 >>> ((28 : Int32) &&& 31).toUInt32).toInt32)), .val (.int (((p5 * (-1640531527 : Int32)).toUInt32 >>> ((28 : Int32) &&& 31).toUInt32).toInt32))] [(.int (((p5 * (-1640531527 : Int32)).toUInt32 >>> ((28 : Int32) &&& 31).toUInt32).toInt32))])) _
        refine XS.iload X487.here hx rfl (hb hby at_188) rfl ?_
        exact kont
      by_cases hc190 : (((p5 * (-1640531527 : Int32)).toUInt32 >>> ((28 : Int32) &&& 31).toUInt32).toInt32) = (((p5 * (-1640531527 : Int32)).toUInt32 >>> ((28 : Int32) &&& 31).toUInt32).toInt32)
      · have pre491 : ∀ t, Steps p.tables e below (T487.setTop (mkF m 197 #[.val (.int p0), .val (.int p1), .val (.int p2), .val (.int p3), .val (.int p4), .val (.int p5), .val (.int sA), .val (.int sB), .val (.int (3 : Int32)), .val (.int cn), .val (.int (0 : Int32)), .val (.ref b44), .val (.int (((p5 * (-1640531527 : Int32)).toUInt32 >>> ((28 : Int32) &&& 31).toUInt32).toInt32)), .val (.int (((p5 * (-1640531527 : Int32)).toUInt32 >>> ((28 : Int32) &&& 31).toUInt32).toInt32))] [(.int (((p5 * (-1640531527 : Int32)).toUInt32 >>> ((28 : Int32) &&& 31).toUInt32).toInt32)), (.ref b44)])) t → Steps p.tables e below (s₁.setTop (entryFrame m #[(.int p0), (.int p1), (.int p2), (.int p3), (.int p4), (.int p5)] maxLocals)) t := by
          intro t kont
          refine pre490 t ?_
          show Steps p.tables e below (T487.setTop (mkF m 190 #[.val (.int p0), .val (.int p1), .val (.int p2), .val (.int p3), .val (.int p4), .val (.int p5), .val (.int sA), .val (.int sB), .val (.int (3 : Int32)), .val (.int cn), .val (.int (0 : Int32)), .val (.ref b44), .val (.int (((p5 * (-1640531527 : Int32)).toUInt32 >>> ((28 : Int32) &&& 31).toUInt32).toInt32)), .val (.int (((p5 * (-1640531527 : Int32)).toUInt32 >>> ((28 : Int32) &&& 31).toUInt32).toInt32))] [(.int (((p5 * (-1640531527 : Int32)).toUInt32 >>> ((28 : Int32) &&& 31).toUInt32).toInt32)), (.int (((p5 * (-1640531527 : Int32)).toUInt32 >>> ((28 : Int32) &&& 31).toUInt32).toInt32))])) _
          refine XS.icmpNo X487.here hx rfl (hb hby at_190) rfl (teq hc190).2 ?_
          show Steps p.tables e below (T487.setTop (mkF m 193 #[.val (.int p0), .val (.int p1), .val (.int p2), .val (.int p3), .val (.int p4), .val (.int p5), .val (.int sA), .val (.int sB), .val (.int (3 : Int32)), .val (.int cn), .val (.int (0 : Int32)), .val (.ref b44), .val (.int (((p5 * (-1640531527 : Int32)).toUInt32 >>> ((28 : Int32) &&& 31).toUInt32).toInt32)), .val (.int (((p5 * (-1640531527 : Int32)).toUInt32 >>> ((28 : Int32) &&& 31).toUInt32).toInt32))] [])) _
          refine XS.aload X487.here hx rfl (hb hby at_193) rfl rfl ?_
          show Steps p.tables e below (T487.setTop (mkF m 195 #[.val (.int p0), .val (.int p1), .val (.int p2), .val (.int p3), .val (.int p4), .val (.int p5), .val (.int sA), .val (.int sB), .val (.int (3 : Int32)), .val (.int cn), .val (.int (0 : Int32)), .val (.ref b44), .val (.int (((p5 * (-1640531527 : Int32)).toUInt32 >>> ((28 : Int32) &&& 31).toUInt32).toInt32)), .val (.int (((p5 * (-1640531527 : Int32)).toUInt32 >>> ((28 : Int32) &&& 31).toUInt32).toInt32))] [(.ref b44)])) _
          refine XS.iload X487.here hx rfl (hb hby at_195) rfl ?_
          exact kont
        obtain ⟨cq492, kq492, q492a, q492b, q492c⟩ := isOf hZ e487 (H484).1
        obtain ⟨_, _, ⟨T492, L492, k492, n492⟩, -, X492, ⟨Lc492, hQ492, l492, y492, z492⟩, st492⟩ := X487.virtualBack hx (y := (⟨"com/example/impronta/impronta/engine/Alignments", "end", "(I)I"⟩ : MethodName)) (z := (⟨"com/example/impronta/impronta/engine/Alignments", "end", "(I)I"⟩ : MethodName)) hown (mvT hZ (hw _ (List.mem_of_getElem? (i := 53) rfl))) (mvT hZ (hw _ (List.mem_of_getElem? (i := 54) rfl))) (notFace_of_selects (args := #[]) (mvT hZ (hw _ (List.mem_of_getElem? (i := 56) rfl)))) (mvT hZ (hw _ (List.mem_of_getElem? (i := 56) rfl))) (mvT hZ (hw _ (List.mem_of_getElem? (i := 55) rfl))) (by decide) (backOf (W := 0) (rm8 l Z a0 hw [] b44 (((p5 * (-1640531527 : Int32)).toUInt32 >>> ((28 : Int32) &&& 31).toUInt32).toInt32) be424 ba bn bf p0 (0 : Int32) (-sA) (0 : Int32) ne424 ge481 (fun _ => (-2147483648 : Int32)) (fun _ => (0 : Int32)) gf481 (((p5 * (-1640531527 : Int32)).toUInt32 >>> ((28 : Int32) &&& 31).toUInt32).toInt32).toNatClampNeg  T484.heap n0 Z484 H484 (own_home p5).1 rfl (fun _ => (own_home p5).2) (fun q => absurd rfl q)) hZ (hw _ (List.mem_of_getElem? (i := 57) rfl)) (hw _ (List.mem_of_getElem? (i := 2) rfl)) (by decide) (by decide)) q492a q492c (g := (mkF m 197 #[.val (.int p0), .val (.int p1), .val (.int p2), .val (.int p3), .val (.int p4), .val (.int p5), .val (.int sA), .val (.int sB), .val (.int (3 : Int32)), .val (.int cn), .val (.int (0 : Int32)), .val (.ref b44), .val (.int (((p5 * (-1640531527 : Int32)).toUInt32 >>> ((28 : Int32) &&& 31).toUInt32).toInt32)), .val (.int (((p5 * (-1640531527 : Int32)).toUInt32 >>> ((28 : Int32) &&& 31).toUInt32).toInt32))] [(.int (((p5 * (-1640531527 : Int32)).toUInt32 >>> ((28 : Int32) &&& 31).toUInt32).toInt32)), (.ref b44)])) rfl (by rw [hml]; rfl) (Steps.refl _) (argsL := [(.int (((p5 * (-1640531527 : Int32)).toUInt32 >>> ((28 : Int32) &&& 31).toUInt32).toInt32))]) (rest := []) (lenOf pd_2 rfl) rfl (by show 2 * 0 + _ ≤ _; exact Nat.le_of_eq rfl) (hb hby at_197) (fun _ _ => ⟨rfl, e487, (by decide : 6 + 0 ≤ _), (by decide : 80 + 0 ≤ _)⟩)
        dsimp only [Pt.U, Pt.locs, Pt.cells, Pt.slots] at X492 l492 y492 z492 st492 hQ492
        subst l492 y492 z492
        obtain ⟨rfl, N492q, e492⟩ := hQ492
        have N492 := Fr.app N487 N492q
        have pre493 : ∀ t, Steps p.tables e below (T492.setTop (mkF m 200 #[.val (.int p0), .val (.int p1), .val (.int p2), .val (.int p3), .val (.int p4), .val (.int p5), .val (.int sA), .val (.int sB), .val (.int (3 : Int32)), .val (.int cn), .val (.int (0 : Int32)), .val (.ref b44), .val (.int (((p5 * (-1640531527 : Int32)).toUInt32 >>> ((28 : Int32) &&& 31).toUInt32).toInt32)), .val (.int (((p5 * (-1640531527 : Int32)).toUInt32 >>> ((28 : Int32) &&& 31).toUInt32).toInt32))] [(.int (own_end (0 : Int32) ge481 (fun _ => (0 : Int32)) (((p5 * (-1640531527 : Int32)).toUInt32 >>> ((28 : Int32) &&& 31).toUInt32).toInt32).toNatClampNeg))])) t → Steps p.tables e below (s₁.setTop (entryFrame m #[(.int p0), (.int p1), (.int p2), (.int p3), (.int p4), (.int p5)] maxLocals)) t := fun t kont => pre491 t (st492.trans kont)
        have rq494 : (own_end (0 : Int32) ge481 (fun _ => (0 : Int32)) (((p5 * (-1640531527 : Int32)).toUInt32 >>> ((28 : Int32) &&& 31).toUInt32).toInt32).toNatClampNeg) = (0 : Int32) := own_end0 _ _ _
        rw [rq494] at pre493
        have pre495 : ∀ t, Steps p.tables e below (T492.setTop (mkF m 208 #[.val (.int p0), .val (.int p1), .val (.int p2), .val (.int p3), .val (.int p4), .val (.int p5), .val (.int sA), .val (.int sB), .val (.int (3 : Int32)), .val (.int cn), .val (.int (0 : Int32)), .val (.ref b44), .val (.int (((p5 * (-1640531527 : Int32)).toUInt32 >>> ((28 : Int32) &&& 31).toUInt32).toInt32)), .val (.int (((p5 * (-1640531527 : Int32)).toUInt32 >>> ((28 : Int32) &&& 31).toUInt32).toInt32))] [(.int (1 : Int32))])) t → Steps p.tables e below (s₁.setTop (entryFrame m #[(.int p0), (.int p1), (.int p2), (.int p3), (.int p4), (.int p5)] maxLocals)) t := by
          intro t kont
          refine pre493 t ?_
          show Steps p.tables e below (T492.setTop (mkF m 200 #[.val (.int p0), .val (.int p1), .val (.int p2), .val (.int p3), .val (.int p4), .val (.int p5), .val (.int sA), .val (.int sB), .val (.int (3 : Int32)), .val (.int cn), .val (.int (0 : Int32)), .val (.ref b44), .val (.int (((p5 * (-1640531527 : Int32)).toUInt32 >>> ((28 : Int32) &&& 31).toUInt32).toInt32)), .val (.int (((p5 * (-1640531527 : Int32)).toUInt32 >>> ((28 : Int32) &&& 31).toUInt32).toInt32))] [(.int (0 : Int32))])) _
          refine XS.ifNo X492.here hx rfl (hb hby at_200) rfl ((if0 _ _).trans (teq (by decide)).2) ?_
          show Steps p.tables e below (T492.setTop (mkF m 203 #[.val (.int p0), .val (.int p1), .val (.int p2), .val (.int p3), .val (.int p4), .val (.int p5), .val (.int sA), .val (.int sB), .val (.int (3 : Int32)), .val (.int cn), .val (.int (0 : Int32)), .val (.ref b44), .val (.int (((p5 * (-1640531527 : Int32)).toUInt32 >>> ((28 : Int32) &&& 31).toUInt32).toInt32)), .val (.int (((p5 * (-1640531527 : Int32)).toUInt32 >>> ((28 : Int32) &&& 31).toUInt32).toInt32))] [])) _
          refine XS.iconst X492.here hx rfl (hb hby at_203) ?_
          show Steps p.tables e below (T492.setTop (mkF m 204 #[.val (.int p0), .val (.int p1), .val (.int p2), .val (.int p3), .val (.int p4), .val (.int p5), .val (.int sA), .val (.int sB), .val (.int (3 : Int32)), .val (.int cn), .val (.int (0 : Int32)), .val (.ref b44), .val (.int (((p5 * (-1640531527 : Int32)).toUInt32 >>> ((28 : Int32) &&& 31).toUInt32).toInt32)), .val (.int (((p5 * (-1640531527 : Int32)).toUInt32 >>> ((28 : Int32) &&& 31).toUInt32).toInt32))] [(.int (1 : Int32))])) _
          refine XS.goto X492.here hx rfl (pc0 := 204) (pc' := 208) rfl (hb hby at_204) (by decide) (by decide) ?_
          exact kont
        obtain ⟨fs, hr, hrun, hended, hW, hsame⟩ := X492.leave (v := some (.int (1 : Int32))) (fun h => by rw [Bd.returns] at h; cases h)
        refine ⟨_, _, pre495 _ ?_, hrun, hended, _, _, rfl, ?_, ⟨_, rfl⟩, hW, hsame.mono (by decide) (by decide)⟩
        · exact retN X492 hx (t := .boolean) Bd.returns (by simp) (hb hby at_208) hr
        · show Q0 Z p0 p1 p2 p3 p4 p5 h0 n0 _ T492.heap _
          rw [e492]
          exact ⟨rfl, N492⟩
      · exfalso
        first | exact hc200 rfl | exact hc190 rfl
  · have pre496 : ∀ t, Steps p.tables e below (s₁.setTop (mkF m 44 #[.val (.int p0), .val (.int p1), .val (.int p2), .val (.int p3), .val (.int p4), .val (.int p5), .val (.int sA), .val (.int sB), .val (.int nn), .val (.int cn), .val (.int (1 : Int32)), .unset, .unset, .unset] [])) t → Steps p.tables e below (s₁.setTop (entryFrame m #[(.int p0), (.int p1), (.int p2), (.int p3), (.int p4), (.int p5)] maxLocals)) t := by
      intro t kont
      refine pre416 t ?_
      show Steps p.tables e below (s₁.setTop (mkF m 34 #[.val (.int p0), .val (.int p1), .val (.int p2), .val (.int p3), .val (.int p4), .val (.int p5), .val (.int sA), .val (.int sB), .val (.int nn), .val (.int cn), .unset, .unset, .unset, .unset] [(.int p0), (.int cn)])) _
      refine XS.icmpNo X0.here hx rfl (hb hby at_34) rfl (flt hc34).2.2.1 ?_
      show Steps p.tables e below (s₁.setTop (mkF m 37 #[.val (.int p0), .val (.int p1), .val (.int p2), .val (.int p3), .val (.int p4), .val (.int p5), .val (.int sA), .val (.int sB), .val (.int nn), .val (.int cn), .unset, .unset, .unset, .unset] [])) _
      refine XS.iconst X0.here hx rfl (hb hby at_37) ?_
      show Steps p.tables e below (s₁.setTop (mkF m 38 #[.val (.int p0), .val (.int p1), .val (.int p2), .val (.int p3), .val (.int p4), .val (.int p5), .val (.int sA), .val (.int sB), .val (.int nn), .val (.int cn), .unset, .unset, .unset, .unset] [(.int (1 : Int32))])) _
      refine XS.goto X0.here hx rfl (pc0 := 38) (pc' := 42) rfl (hb hby at_38) (by decide) (by decide) ?_
      show Steps p.tables e below (s₁.setTop (mkF m 42 #[.val (.int p0), .val (.int p1), .val (.int p2), .val (.int p3), .val (.int p4), .val (.int p5), .val (.int sA), .val (.int sB), .val (.int nn), .val (.int cn), .unset, .unset, .unset, .unset] [(.int (1 : Int32))])) _
      refine XS.istore X0.here hx rfl (hb hby at_42) rfl (l' := #[.val (.int p0), .val (.int p1), .val (.int p2), .val (.int p3), .val (.int p4), .val (.int p5), .val (.int sA), .val (.int sB), .val (.int nn), .val (.int cn), .val (.int (1 : Int32)), .unset, .unset, .unset]) rfl ?_
      exact kont
    obtain ⟨T497, h497, X497, e497, E497, A497, D497, -, st497⟩ := newO X0 hx hZ hown (hw _ (List.mem_of_getElem? (i := 0) rfl)) (hw _ (List.mem_of_getElem? (i := 1) rfl)) (hw _ (List.mem_of_getElem? (i := 2) rfl)) e0 (g := (mkF m 44 #[.val (.int p0), .val (.int p1), .val (.int p2), .val (.int p3), .val (.int p4), .val (.int p5), .val (.int sA), .val (.int sB), .val (.int nn), .val (.int cn), .val (.int (1 : Int32)), .unset, .unset, .unset] [])) rfl (hb hby at_44) (by decide) (by decide)
    obtain ⟨b44, g497⟩ : ∃ z, z = h0.size := ⟨_, rfl⟩
    rw [← g497] at A497 D497 st497
    have g_b44 : n0 ≤ b44 := Nat.le_trans Z0 (Nat.le_of_eq g497.symm)
    have F497_endsByAlignment : Fld Z h497 b44 "com/example/impronta/impronta/engine/Alignments" "endsByAlignment" "[I" .null := D497 (Or.inl (hw _ (List.mem_of_getElem? (i := 11) rfl))) (ty := (.array .int)) (by decide)
    have F497_alignments : Fld Z h497 b44 "com/example/impronta/impronta/engine/Alignments" "alignments" "[I" .null := D497 (Or.inl (hw _ (List.mem_of_getElem? (i := 21) rfl))) (ty := (.array .int)) (by decide)
    have F497_ends : Fld Z h497 b44 "com/example/impronta/impronta/engine/Alignments" "ends" "[I" .null := D497 (Or.inl (hw _ (List.mem_of_getElem? (i := 23) rfl))) (ty := (.array .int)) (by decide)
    have F497_shift : Fld Z h497 b44 "com/example/impronta/impronta/engine/Alignments" "shift" "I" (.int (0 : Int32)) := D497 (Or.inl (hw _ (List.mem_of_getElem? (i := 25) rfl))) (ty := .int) (by decide)
    have F497_filled : Fld Z h497 b44 "com/example/impronta/impronta/engine/Alignments" "filled" "[I" .null := D497 (Or.inl (hw _ (List.mem_of_getElem? (i := 27) rfl))) (ty := (.array .int)) (by decide)
    have F497_direct : Fld Z h497 b44 "com/example/impronta/impronta/engine/Alignments" "direct" "I" (.int (0 : Int32)) := D497 (Or.inr (hw _ (List.mem_of_getElem? (i := 29) rfl))) (ty := .int) (by decide)
    have F497_ownSlots : Fld Z h497 b44 "com/example/impronta/impronta/engine/Alignments" "ownSlots" "Z" (.int (0 : Int32)) := D497 (Or.inl (hw _ (List.mem_of_getElem? (i := 36) rfl))) (ty := .boolean) (by decide)
    have F497_lowest : Fld Z h497 b44 "com/example/impronta/impronta/engine/Alignments" "lowest" "I" (.int (0 : Int32)) := D497 (Or.inl (hw _ (List.mem_of_getElem? (i := 38) rfl))) (ty := .int) (by decide)
    have F497_size : Fld Z h497 b44 "com/example/impronta/impronta/engine/Alignments" "size" "I" (.int (0 : Int32)) := D497 (Or.inl (hw _ (List.mem_of_getElem? (i := 45) rfl))) (ty := .int) (by decide)
    have Z497 : n0 ≤ h497.size := Nat.le_trans Z0 E497.1
    have pre498 : ∀ t, Steps p.tables e below (T497.setTop (mkF m 47 #[.val (.int p0), .val (.int p1), .val (.int p2), .val (.int p3), .val (.int p4), .val (.int p5), .val (.int sA), .val (.int sB), .val (.int nn), .val (.int cn), .val (.int (1 : Int32)), .unset, .unset, .unset] [(.ref b44)])) t → Steps p.tables e below (s₁.setTop (entryFrame m #[(.int p0), (.int p1), (.int p2), (.int p3), (.int p4), (.int p5)] maxLocals)) t := fun t kont => pre496 t (st497 _ kont)
    have pre499 : ∀ t, Steps p.tables e below (T497.setTop (mkF m 49 #[.val (.int p0), .val (.int p1), .val (.int p2), .val (.int p3), .val (.int p4), .val (.int p5), .val (.int sA), .val (.int sB), .val (.int nn), .val (.int cn), .val (.int (1 : Int32)), .unset, .unset, .unset] [(.int p0), (.ref b44), (.ref b44)])) t → Steps p.tables e below (s₁.setTop (entryFrame m #[(.int p0), (.int p1), (.int p2), (.int p3), (.int p4), (.int p5)] maxLocals)) t := by
      intro t kont
      refine pre498 t ?_
      show Steps p.tables e below (T497.setTop (mkF m 47 #[.val (.int p0), .val (.int p1), .val (.int p2), .val (.int p3), .val (.int p4), .val (.int p5), .val (.int sA), .val (.int sB), .val (.int nn), .val (.int cn), .val (.int (1 : Int32)), .unset, .unset, .unset] [(.ref b44)])) _
      refine XS.dup X497.here hx rfl (hb hby at_47) rfl rfl ?_
      show Steps p.tables e below (T497.setTop (mkF m 48 #[.val (.int p0), .val (.int p1), .val (.int p2), .val (.int p3), .val (.int p4), .val (.int p5), .val (.int sA), .val (.int sB), .val (.int nn), .val (.int cn), .val (.int (1 : Int32)), .unset, .unset, .unset] [(.ref b44), (.ref b44)])) _
      refine XS.iloadN X497.here hx rfl (hb hby at_48) rfl ?_
      exact kont
    obtain ⟨_, _, ⟨T500, L500, k500, n500⟩, -, X500, ⟨Lc500, hQ500, l500, y500, z500⟩, st500⟩ := X497.specialBack hx (y := (⟨"com/example/impronta/impronta/engine/Alignments", "<init>", "(I)V"⟩ : MethodName)) rfl hown (mvT hZ (hw _ (List.mem_of_getElem? (i := 3) rfl))) (mvT hZ (hw _ (List.mem_of_getElem? (i := 4) rfl))) (mvT hZ (hw _ (List.mem_of_getElem? (i := 5) rfl))) (by decide) (backOf (W := 1) (rm1 l Z a0 hw [] b44 p0  h497 n0 Z497 A497 F497_direct F497_ownSlots F497_lowest F497_size F497_shift F497_endsByAlignment F497_alignments F497_ends F497_filled g_b44) hZ (hw _ (List.mem_of_getElem? (i := 5) rfl)) (hw _ (List.mem_of_getElem? (i := 2) rfl)) (by decide) (by decide)) (g := (mkF m 49 #[.val (.int p0), .val (.int p1), .val (.int p2), .val (.int p3), .val (.int p4), .val (.int p5), .val (.int sA), .val (.int sB), .val (.int nn), .val (.int cn), .val (.int (1 : Int32)), .unset, .unset, .unset] [(.int p0), (.ref b44), (.ref b44)])) rfl (by rw [hml]; rfl) (Steps.refl _) (a := b44) (argsL := [(.int p0)]) (rest := [(.ref b44)]) (lenOf pd_4 rfl) rfl (by show 2 * 0 + _ ≤ _; exact Nat.le_of_eq rfl) (hb hby at_49) (fun _ _ => ⟨rfl, e497, (by decide : 1 + 4 ≤ _), (by decide : 9 + 40 ≤ _)⟩)
    dsimp only [Pt.U, Pt.locs, Pt.cells, Pt.slots] at X500 l500 y500 z500 st500 hQ500
    subst l500 y500 z500
    obtain ⟨rfl, N500q, Z500, be, ba, bn, bf, H500⟩ := hQ500
    have N500 := Fr.app N0 N500q
    have pre501 : ∀ t, Steps p.tables e below (T500.setTop (mkF m 52 #[.val (.int p0), .val (.int p1), .val (.int p2), .val (.int p3), .val (.int p4), .val (.int p5), .val (.int sA), .val (.int sB), .val (.int nn), .val (.int cn), .val (.int (1 : Int32)), .unset, .unset, .unset] [(.ref b44)])) t → Steps p.tables e below (s₁.setTop (entryFrame m #[(.int p0), (.int p1), (.int p2), (.int p3), (.int p4), (.int p5)] maxLocals)) t := fun t kont => pre499 t (st500.trans kont)
    have pre502 : ∀ t, Steps p.tables e below (T500.setTop (mkF m 60 #[.val (.int p0), .val (.int p1), .val (.int p2), .val (.int p3), .val (.int p4), .val (.int p5), .val (.int sA), .val (.int sB), .val (.int nn), .val (.int cn), .val (.int (1 : Int32)), .val (.ref b44), .unset, .unset] [(.int sB), (.int sA), (.ref b44)])) t → Steps p.tables e below (s₁.setTop (entryFrame m #[(.int p0), (.int p1), (.int p2), (.int p3), (.int p4), (.int p5)] maxLocals)) t := by
      intro t kont
      refine pre501 t ?_
      show Steps p.tables e below (T500.setTop (mkF m 52 #[.val (.int p0), .val (.int p1), .val (.int p2), .val (.int p3), .val (.int p4), .val (.int p5), .val (.int sA), .val (.int sB), .val (.int nn), .val (.int cn), .val (.int (1 : Int32)), .unset, .unset, .unset] [(.ref b44)])) _
      refine XS.astore X500.here hx rfl (hb hby at_52) rfl rfl (l' := #[.val (.int p0), .val (.int p1), .val (.int p2), .val (.int p3), .val (.int p4), .val (.int p5), .val (.int sA), .val (.int sB), .val (.int nn), .val (.int cn), .val (.int (1 : Int32)), .val (.ref b44), .unset, .unset]) rfl ?_
      show Steps p.tables e below (T500.setTop (mkF m 54 #[.val (.int p0), .val (.int p1), .val (.int p2), .val (.int p3), .val (.int p4), .val (.int p5), .val (.int sA), .val (.int sB), .val (.int nn), .val (.int cn), .val (.int (1 : Int32)), .val (.ref b44), .unset, .unset] [])) _
      refine XS.aload X500.here hx rfl (hb hby at_54) rfl rfl ?_
      show Steps p.tables e below (T500.setTop (mkF m 56 #[.val (.int p0), .val (.int p1), .val (.int p2), .val (.int p3), .val (.int p4), .val (.int p5), .val (.int sA), .val (.int sB), .val (.int nn), .val (.int cn), .val (.int (1 : Int32)), .val (.ref b44), .unset, .unset] [(.ref b44)])) _
      refine XS.iload X500.here hx rfl (hb hby at_56) rfl ?_
      show Steps p.tables e below (T500.setTop (mkF m 58 #[.val (.int p0), .val (.int p1), .val (.int p2), .val (.int p3), .val (.int p4), .val (.int p5), .val (.int sA), .val (.int sB), .val (.int nn), .val (.int cn), .val (.int (1 : Int32)), .val (.ref b44), .unset, .unset] [(.int sA), (.ref b44)])) _
      refine XS.iload X500.here hx rfl (hb hby at_58) rfl ?_
      exact kont
    obtain ⟨cq503, kq503, q503a, q503b, q503c⟩ := isOf hZ rfl (H500).1
    obtain ⟨_, _, ⟨T503, L503, k503, n503⟩, -, X503, ⟨Lc503, hQ503, l503, y503, z503⟩, st503⟩ := X500.virtualBack hx (y := (⟨"com/example/impronta/impronta/engine/Alignments", "start", "(II)V"⟩ : MethodName)) (z := (⟨"com/example/impronta/impronta/engine/Alignments", "start", "(II)V"⟩ : MethodName)) hown (mvT hZ (hw _ (List.mem_of_getElem? (i := 30) rfl))) (mvT hZ (hw _ (List.mem_of_getElem? (i := 31) rfl))) (notFace_of_selects (args := #[]) (mvT hZ (hw _ (List.mem_of_getElem? (i := 33) rfl)))) (mvT hZ (hw _ (List.mem_of_getElem? (i := 33) rfl))) (mvT hZ (hw _ (List.mem_of_getElem? (i := 32) rfl))) (by decide) (backOf (W := 0) (rm5 l Z a0 hw [] b44 sA sB be ba bn bf p0 (0 : Int32) (0 : Int32) (0 : Int32) 0 (fun _ => (-2147483648 : Int32)) (fun _ => (0 : Int32)) (fun _ => (0 : Int32))  T500.heap n0 Z500 H500 (by decide) hX1 hcap) hZ (hw _ (List.mem_of_getElem? (i := 34) rfl)) (hw _ (List.mem_of_getElem? (i := 2) rfl)) (by decide) (by decide)) q503a q503c (g := (mkF m 60 #[.val (.int p0), .val (.int p1), .val (.int p2), .val (.int p3), .val (.int p4), .val (.int p5), .val (.int sA), .val (.int sB), .val (.int nn), .val (.int cn), .val (.int (1 : Int32)), .val (.ref b44), .unset, .unset] [(.int sB), (.int sA), (.ref b44)])) rfl (by rw [hml]; rfl) (Steps.refl _) (argsL := [(.int sA), (.int sB)]) (rest := []) (lenOf pd_5 rfl) rfl (by show 2 * 0 + _ ≤ _; exact Nat.le_of_eq rfl) (hb hby at_60) (fun _ _ => ⟨rfl, rfl, (by decide : 5 + 1 ≤ _), (by decide : 49 + 31 ≤ _)⟩)
    dsimp only [Pt.U, Pt.locs, Pt.cells, Pt.slots] at X503 l503 y503 z503 st503 hQ503
    subst l503 y503 z503
    obtain ⟨rfl, N503q, Z503, be503, ne503, M503, G503, H503⟩ := hQ503
    have N503 := Fr.app N500 N503q
    have pre504 : ∀ t, Steps p.tables e below (T503.setTop (mkF m 63 #[.val (.int p0), .val (.int p1), .val (.int p2), .val (.int p3), .val (.int p4), .val (.int p5), .val (.int sA), .val (.int sB), .val (.int nn), .val (.int cn), .val (.int (1 : Int32)), .val (.ref b44), .unset, .unset] [])) t → Steps p.tables e below (s₁.setTop (entryFrame m #[(.int p0), (.int p1), (.int p2), (.int p3), (.int p4), (.int p5)] maxLocals)) t := fun t kont => pre502 t (st503.trans kont)
    have hno : ¬ (p0.toInt64 < ((sA.toInt64 + sB.toInt64) + (1 : Int64))) := by rw [Int64.lt_iff_toInt_lt, c_i2l, own_xv]; rw [Int32.lt_iff_toInt_lt] at hc34; omega
    rw [if_neg hno] at H503
    have hcc : 1 ≤ cn.toInt ∧ cn.toInt ≤ (ne503 : Int) := ⟨by omega, by have := G503 hno; rw [own_xv] at this; omega⟩
    have hI0 := own_inv1z ne503 (fun _ => (0 : Int32))
    have hn4 := own_n4 ((p1.toUInt32 >>> ((8 : Int32) &&& 31).toUInt32).toInt32)
    rw [← hnn] at hn4
    rcases hn4 with hn4 | hn4 | hn4 | hn4
    · rw [hn4] at pre504
      have pre505 : ∀ t, Steps p.tables e below (T503.setTop (mkF m 114 #[.val (.int p0), .val (.int p1), .val (.int p2), .val (.int p3), .val (.int p4), .val (.int p5), .val (.int sA), .val (.int sB), .val (.int (0 : Int32)), .val (.int cn), .val (.int (1 : Int32)), .val (.ref b44), .unset, .unset] [(.ref b44)])) t → Steps p.tables e below (s₁.setTop (entryFrame m #[(.int p0), (.int p1), (.int p2), (.int p3), (.int p4), (.int p5)] maxLocals)) t := by
        intro t kont
        refine pre504 t ?_
        show Steps p.tables e below (T503.setTop (mkF m 63 #[.val (.int p0), .val (.int p1), .val (.int p2), .val (.int p3), .val (.int p4), .val (.int p5), .val (.int sA), .val (.int sB), .val (.int (0 : Int32)), .val (.int cn), .val (.int (1 : Int32)), .val (.ref b44), .unset, .unset] [])) _
        refine XS.iload X503.here hx rfl (hb hby at_63) rfl ?_
        show Steps p.tables e below (T503.setTop (mkF m 65 #[.val (.int p0), .val (.int p1), .val (.int p2), .val (.int p3), .val (.int p4), .val (.int p5), .val (.int sA), .val (.int sB), .val (.int (0 : Int32)), .val (.int cn), .val (.int (1 : Int32)), .val (.ref b44), .unset, .unset] [(.int (0 : Int32))])) _
        refine XS.iconst X503.here hx rfl (hb hby at_65) ?_
        show Steps p.tables e below (T503.setTop (mkF m 66 #[.val (.int p0), .val (.int p1), .val (.int p2), .val (.int p3), .val (.int p4), .val (.int p5), .val (.int sA), .val (.int sB), .val (.int (0 : Int32)), .val (.int cn), .val (.int (1 : Int32)), .val (.ref b44), .unset, .unset] [(.int (1 : Int32)), (.int (0 : Int32))])) _
        refine XS.icmpYes X503.here hx rfl (pc0 := 66) (pc' := 79) rfl (hb hby at_66) rfl (tlt (by decide)).1 (by decide) (by decide) ?_
        show Steps p.tables e below (T503.setTop (mkF m 79 #[.val (.int p0), .val (.int p1), .val (.int p2), .val (.int p3), .val (.int p4), .val (.int p5), .val (.int sA), .val (.int sB), .val (.int (0 : Int32)), .val (.int cn), .val (.int (1 : Int32)), .val (.ref b44), .unset, .unset] [])) _
        refine XS.iload X503.here hx rfl (hb hby at_79) rfl ?_
        show Steps p.tables e below (T503.setTop (mkF m 81 #[.val (.int p0), .val (.int p1), .val (.int p2), .val (.int p3), .val (.int p4), .val (.int p5), .val (.int sA), .val (.int sB), .val (.int (0 : Int32)), .val (.int cn), .val (.int (1 : Int32)), .val (.ref b44), .unset, .unset] [(.int (0 : Int32))])) _
        refine XS.iconst X503.here hx rfl (hb hby at_81) ?_
        show Steps p.tables e below (T503.setTop (mkF m 82 #[.val (.int p0), .val (.int p1), .val (.int p2), .val (.int p3), .val (.int p4), .val (.int p5), .val (.int sA), .val (.int sB), .val (.int (0 : Int32)), .val (.int cn), .val (.int (1 : Int32)), .val (.ref b44), .unset, .unset] [(.int (2 : Int32)), (.int (0 : Int32))])) _
        refine XS.icmpYes X503.here hx rfl (pc0 := 82) (pc' := 95) rfl (hb hby at_82) rfl (tlt (by decide)).1 (by decide) (by decide) ?_
        show Steps p.tables e below (T503.setTop (mkF m 95 #[.val (.int p0), .val (.int p1), .val (.int p2), .val (.int p3), .val (.int p4), .val (.int p5), .val (.int sA), .val (.int sB), .val (.int (0 : Int32)), .val (.int cn), .val (.int (1 : Int32)), .val (.ref b44), .unset, .unset] [])) _
        refine XS.iload X503.here hx rfl (hb hby at_95) rfl ?_
        show Steps p.tables e below (T503.setTop (mkF m 97 #[.val (.int p0), .val (.int p1), .val (.int p2), .val (.int p3), .val (.int p4), .val (.int p5), .val (.int sA), .val (.int sB), .val (.int (0 : Int32)), .val (.int cn), .val (.int (1 : Int32)), .val (.ref b44), .unset, .unset] [(.int (0 : Int32))])) _
        refine XS.iconst X503.here hx rfl (hb hby at_97) ?_
        show Steps p.tables e below (T503.setTop (mkF m 98 #[.val (.int p0), .val (.int p1), .val (.int p2), .val (.int p3), .val (.int p4), .val (.int p5), .val (.int sA), .val (.int sB), .val (.int (0 : Int32)), .val (.int cn), .val (.int (1 : Int32)), .val (.ref b44), .unset, .unset] [(.int (3 : Int32)), (.int (0 : Int32))])) _
        refine XS.icmpYes X503.here hx rfl (pc0 := 98) (pc' := 112) rfl (hb hby at_98) rfl (tlt (by decide)).1 (by decide) (by decide) ?_
        show Steps p.tables e below (T503.setTop (mkF m 112 #[.val (.int p0), .val (.int p1), .val (.int p2), .val (.int p3), .val (.int p4), .val (.int p5), .val (.int sA), .val (.int sB), .val (.int (0 : Int32)), .val (.int cn), .val (.int (1 : Int32)), .val (.ref b44), .unset, .unset] [])) _
        refine XS.aload X503.here hx rfl (hb hby at_112) rfl rfl ?_
        exact kont
      obtain ⟨cq506, kq506, q506a, q506b, q506c⟩ := isOf hZ rfl (H503).1
      obtain ⟨_, _, ⟨T506, L506, k506, n506⟩, -, X506, ⟨Lc506, hQ506, l506, y506, z506⟩, st506⟩ := X503.virtualBack hx (y := (⟨"com/example/impronta/impronta/engine/Alignments", "clear", "()V"⟩ : MethodName)) (z := (⟨"com/example/impronta/impronta/engine/Alignments", "clear", "()V"⟩ : MethodName)) hown (mvT hZ (hw _ (List.mem_of_getElem? (i := 39) rfl))) (mvT hZ (hw _ (List.mem_of_getElem? (i := 40) rfl))) (notFace_of_selects (args := #[]) (mvT hZ (hw _ (List.mem_of_getElem? (i := 42) rfl)))) (mvT hZ (hw _ (List.mem_of_getElem? (i := 42) rfl))) (mvT hZ (hw _ (List.mem_of_getElem? (i := 41) rfl))) (by decide) (backOf (W := 0) (rm6a l Z a0 hw [] b44 be503 ba bn bf p0 (-sA) (0 : Int32) ne503 (fun _ => (0 : Int32)) (fun _ => (-2147483648 : Int32)) (fun _ => (0 : Int32)) (fun _ => (0 : Int32)) 0  T503.heap n0 Z503 H503 hI0 (by decide) (by decide)) hZ (hw _ (List.mem_of_getElem? (i := 43) rfl)) (hw _ (List.mem_of_getElem? (i := 2) rfl)) (by decide) (by decide)) q506a q506c (g := (mkF m 114 #[.val (.int p0), .val (.int p1), .val (.int p2), .val (.int p3), .val (.int p4), .val (.int p5), .val (.int sA), .val (.int sB), .val (.int (0 : Int32)), .val (.int cn), .val (.int (1 : Int32)), .val (.ref b44), .unset, .unset] [(.ref b44)])) rfl (by rw [hml]; rfl) (Steps.refl _) (argsL := []) (rest := []) (lenOf pd_6 rfl) rfl (by show 2 * 0 + _ ≤ _; exact Nat.le_of_eq rfl) (hb hby at_114) (fun _ _ => ⟨rfl, rfl, (by decide : 6 + 0 ≤ _), (by decide : 80 + 0 ≤ _)⟩)
      dsimp only [Pt.U, Pt.locs, Pt.cells, Pt.slots] at X506 l506 y506 z506 st506 hQ506
      subst l506 y506 z506
      obtain ⟨rfl, N506q, Z506, H506⟩ := hQ506
      have N506 := Fr.app N503 N506q
      have pre507 : ∀ t, Steps p.tables e below (T506.setTop (mkF m 117 #[.val (.int p0), .val (.int p1), .val (.int p2), .val (.int p3), .val (.int p4), .val (.int p5), .val (.int sA), .val (.int sB), .val (.int (0 : Int32)), .val (.int cn), .val (.int (1 : Int32)), .val (.ref b44), .unset, .unset] [])) t → Steps p.tables e below (s₁.setTop (entryFrame m #[(.int p0), (.int p1), (.int p2), (.int p3), (.int p4), (.int p5)] maxLocals)) t := fun t kont => pre505 t (st506.trans kont)
      have pre508 : ∀ t, Steps p.tables e below (T506.setTop (mkF m 132 #[.val (.int p0), .val (.int p1), .val (.int p2), .val (.int p3), .val (.int p4), .val (.int p5), .val (.int sA), .val (.int sB), .val (.int (0 : Int32)), .val (.int cn), .val (.int (1 : Int32)), .val (.ref b44), .val (.int ((p5 &&& (2147483647 : Int32)) % cn)), .unset] [])) t → Steps p.tables e below (s₁.setTop (entryFrame m #[(.int p0), (.int p1), (.int p2), (.int p3), (.int p4), (.int p5)] maxLocals)) t := by
        intro t kont
        refine pre507 t ?_
        show Steps p.tables e below (T506.setTop (mkF m 117 #[.val (.int p0), .val (.int p1), .val (.int p2), .val (.int p3), .val (.int p4), .val (.int p5), .val (.int sA), .val (.int sB), .val (.int (0 : Int32)), .val (.int cn), .val (.int (1 : Int32)), .val (.ref b44), .unset, .unset] [])) _
        refine XS.iload X506.here hx rfl (hb hby at_117) rfl ?_
        show Steps p.tables e below (T506.setTop (mkF m 119 #[.val (.int p0), .val (.int p1), .val (.int p2), .val (.int p3), .val (.int p4), .val (.int p5), .val (.int sA), .val (.int sB), .val (.int (0 : Int32)), .val (.int cn), .val (.int (1 : Int32)), .val (.ref b44), .unset, .unset] [(.int (1 : Int32))])) _
        refine XS.ifNo X506.here hx rfl (hb hby at_119) rfl ((if0 _ _).trans (feq (by decide)).1) ?_
        show Steps p.tables e below (T506.setTop (mkF m 122 #[.val (.int p0), .val (.int p1), .val (.int p2), .val (.int p3), .val (.int p4), .val (.int p5), .val (.int sA), .val (.int sB), .val (.int (0 : Int32)), .val (.int cn), .val (.int (1 : Int32)), .val (.ref b44), .unset, .unset] [])) _
        refine XS.iload X506.here hx rfl (hb hby at_122) rfl ?_
        show Steps p.tables e below (T506.setTop (mkF m 124 #[.val (.int p0), .val (.int p1), .val (.int p2), .val (.int p3), .val (.int p4), .val (.int p5), .val (.int sA), .val (.int sB), .val (.int (0 : Int32)), .val (.int cn), .val (.int (1 : Int32)), .val (.ref b44), .unset, .unset] [(.int p5)])) _
        refine X506.ldcInt hx hown (mvT hZ (hw _ (List.mem_of_getElem? (i := 58) rfl))) (g := (mkF m 124 #[.val (.int p0), .val (.int p1), .val (.int p2), .val (.int p3), .val (.int p4), .val (.int p5), .val (.int sA), .val (.int sB), .val (.int (0 : Int32)), .val (.int cn), .val (.int (1 : Int32)), .val (.ref b44), .unset, .unset] [(.int p5)])) rfl (hb hby at_124) _ ?_
        show Steps p.tables e below (T506.setTop (mkF m 126 #[.val (.int p0), .val (.int p1), .val (.int p2), .val (.int p3), .val (.int p4), .val (.int p5), .val (.int sA), .val (.int sB), .val (.int (0 : Int32)), .val (.int cn), .val (.int (1 : Int32)), .val (.ref b44), .unset, .unset] [(.int (2147483647 : Int32)), (.int p5)])) _
        refine XS.iand X506.here hx rfl (hb hby at_126) rfl ?_
        show Steps p.tables e below (T506.setTop (mkF m 127 #[.val (.int p0), .val (.int p1), .val (.int p2), .val (.int p3), .val (.int p4), .val (.int p5), .val (.int sA), .val (.int sB), .val (.int (0 : Int32)), .val (.int cn), .val (.int (1 : Int32)), .val (.ref b44), .unset, .unset] [(.int (p5 &&& (2147483647 : Int32)))])) _
        refine XS.iload X506.here hx rfl (hb hby at_127) rfl ?_
        show Steps p.tables e below (T506.setTop (mkF m 129 #[.val (.int p0), .val (.int p1), .val (.int p2), .val (.int p3), .val (.int p4), .val (.int p5), .val (.int sA), .val (.int sB), .val (.int (0 : Int32)), .val (.int cn), .val (.int (1 : Int32)), .val (.ref b44), .unset, .unset] [(.int cn), (.int (p5 &&& (2147483647 : Int32)))])) _
        refine iremM X506 hx rfl (hb hby at_129) rfl (own_cz hcc.1) ?_
        show Steps p.tables e below (T506.setTop (mkF m 130 #[.val (.int p0), .val (.int p1), .val (.int p2), .val (.int p3), .val (.int p4), .val (.int p5), .val (.int sA), .val (.int sB), .val (.int (0 : Int32)), .val (.int cn), .val (.int (1 : Int32)), .val (.ref b44), .unset, .unset] [(.int ((p5 &&& (2147483647 : Int32)) % cn))])) _
        refine XS.istore X506.here hx rfl (hb hby at_130) rfl (l' := #[.val (.int p0), .val (.int p1), .val (.int p2), .val (.int p3), .val (.int p4), .val (.int p5), .val (.int sA), .val (.int sB), .val (.int (0 : Int32)), .val (.int cn), .val (.int (1 : Int32)), .val (.ref b44), .val (.int ((p5 &&& (2147483647 : Int32)) % cn)), .unset]) rfl ?_
        exact kont
      have hix := own_mod2 p5 hcc.1
      have pre509 : ∀ t, Steps p.tables e below (T506.setTop (mkF m 139 #[.val (.int p0), .val (.int p1), .val (.int p2), .val (.int p3), .val (.int p4), .val (.int p5), .val (.int sA), .val (.int sB), .val (.int (0 : Int32)), .val (.int cn), .val (.int (1 : Int32)), .val (.ref b44), .val (.int ((p5 &&& (2147483647 : Int32)) % cn)), .unset] [(.int (((p5 &&& (2147483647 : Int32)) % cn) - sA)), (.ref b44)])) t → Steps p.tables e below (s₁.setTop (entryFrame m #[(.int p0), (.int p1), (.int p2), (.int p3), (.int p4), (.int p5)] maxLocals)) t := by
        intro t kont
        refine pre508 t ?_
        show Steps p.tables e below (T506.setTop (mkF m 132 #[.val (.int p0), .val (.int p1), .val (.int p2), .val (.int p3), .val (.int p4), .val (.int p5), .val (.int sA), .val (.int sB), .val (.int (0 : Int32)), .val (.int cn), .val (.int (1 : Int32)), .val (.ref b44), .val (.int ((p5 &&& (2147483647 : Int32)) % cn)), .unset] [])) _
        refine XS.aload X506.here hx rfl (hb hby at_132) rfl rfl ?_
        show Steps p.tables e below (T506.setTop (mkF m 134 #[.val (.int p0), .val (.int p1), .val (.int p2), .val (.int p3), .val (.int p4), .val (.int p5), .val (.int sA), .val (.int sB), .val (.int (0 : Int32)), .val (.int cn), .val (.int (1 : Int32)), .val (.ref b44), .val (.int ((p5 &&& (2147483647 : Int32)) % cn)), .unset] [(.ref b44)])) _
        refine XS.iload X506.here hx rfl (hb hby at_134) rfl ?_
        show Steps p.tables e below (T506.setTop (mkF m 136 #[.val (.int p0), .val (.int p1), .val (.int p2), .val (.int p3), .val (.int p4), .val (.int p5), .val (.int sA), .val (.int sB), .val (.int (0 : Int32)), .val (.int cn), .val (.int (1 : Int32)), .val (.ref b44), .val (.int ((p5 &&& (2147483647 : Int32)) % cn)), .unset] [(.int ((p5 &&& (2147483647 : Int32)) % cn)), (.ref b44)])) _
        refine XS.iload X506.here hx rfl (hb hby at_136) rfl ?_
        show Steps p.tables e below (T506.setTop (mkF m 138 #[.val (.int p0), .val (.int p1), .val (.int p2), .val (.int p3), .val (.int p4), .val (.int p5), .val (.int sA), .val (.int sB), .val (.int (0 : Int32)), .val (.int cn), .val (.int (1 : Int32)), .val (.ref b44), .val (.int ((p5 &&& (2147483647 : Int32)) % cn)), .unset] [(.int sA), (.int ((p5 &&& (2147483647 : Int32)) % cn)), (.ref b44)])) _
        refine XS.isub X506.here hx rfl (hb hby at_138) rfl ?_
        exact kont
      obtain ⟨cq510, kq510, q510a, q510b, q510c⟩ := isOf hZ rfl (H506).1
      obtain ⟨_, _, ⟨T510, L510, k510, n510⟩, -, X510, ⟨Lc510, hQ510, l510, y510, z510⟩, st510⟩ := X506.virtualBack hx (y := (⟨"com/example/impronta/impronta/engine/Alignments", "slot", "(I)I"⟩ : MethodName)) (z := (⟨"com/example/impronta/impronta/engine/Alignments", "slot", "(I)I"⟩ : MethodName)) hown (mvT hZ (hw _ (List.mem_of_getElem? (i := 46) rfl))) (mvT hZ (hw _ (List.mem_of_getElem? (i := 47) rfl))) (notFace_of_selects (args := #[]) (mvT hZ (hw _ (List.mem_of_getElem? (i := 49) rfl)))) (mvT hZ (hw _ (List.mem_of_getElem? (i := 49) rfl))) (mvT hZ (hw _ (List.mem_of_getElem? (i := 48) rfl))) (by decide) (backOf (W := 0) (rm7 l Z a0 hw [] b44 (((p5 &&& (2147483647 : Int32)) % cn) - sA) be503 ba bn bf p0 (1 : Int32) (-sA) (0 : Int32) ne503 (fun _ => (0 : Int32)) (fun _ => (-2147483648 : Int32)) (fun _ => (0 : Int32)) (fun _ => (0 : Int32))  T506.heap n0 Z506 H506 (fun q => absurd q (by decide))) hZ (hw _ (List.mem_of_getElem? (i := 50) rfl)) (hw _ (List.mem_of_getElem? (i := 2) rfl)) (by decide) (by decide)) q510a q510c (g := (mkF m 139 #[.val (.int p0), .val (.int p1), .val (.int p2), .val (.int p3), .val (.int p4), .val (.int p5), .val (.int sA), .val (.int sB), .val (.int (0 : Int32)), .val (.int cn), .val (.int (1 : Int32)), .val (.ref b44), .val (.int ((p5 &&& (2147483647 : Int32)) % cn)), .unset] [(.int (((p5 &&& (2147483647 : Int32)) % cn) - sA)), (.ref b44)])) rfl (by rw [hml]; rfl) (Steps.refl _) (argsL := [(.int (((p5 &&& (2147483647 : Int32)) % cn) - sA))]) (rest := []) (lenOf pd_2 rfl) rfl (by show 2 * 0 + _ ≤ _; exact Nat.le_of_eq rfl) (hb hby at_139) (fun _ _ => ⟨rfl, rfl, (by decide : 6 + 0 ≤ _), (by decide : 80 + 0 ≤ _)⟩)
      dsimp only [Pt.U, Pt.locs, Pt.cells, Pt.slots] at X510 l510 y510 z510 st510 hQ510
      subst l510 y510 z510
      obtain ⟨rfl, N510q, e510⟩ := hQ510
      have N510 := Fr.app N506 N510q
      have pre511 : ∀ t, Steps p.tables e below (T510.setTop (mkF m 142 #[.val (.int p0), .val (.int p1), .val (.int p2), .val (.int p3), .val (.int p4), .val (.int p5), .val (.int sA), .val (.int sB), .val (.int (0 : Int32)), .val (.int cn), .val (.int (1 : Int32)), .val (.ref b44), .val (.int ((p5 &&& (2147483647 : Int32)) % cn)), .unset] [(.int (own_slot (1 : Int32) (-sA) (fun _ => (-2147483648 : Int32)) (((p5 &&& (2147483647 : Int32)) % cn) - sA)))])) t → Steps p.tables e below (s₁.setTop (entryFrame m #[(.int p0), (.int p1), (.int p2), (.int p3), (.int p4), (.int p5)] maxLocals)) t := fun t kont => pre509 t (st510.trans kont)
      have rq512 : (own_slot (1 : Int32) (-sA) (fun _ => (-2147483648 : Int32)) (((p5 &&& (2147483647 : Int32)) % cn) - sA)) = ((p5 &&& (2147483647 : Int32)) % cn) := own_sA _ _ _
      rw [rq512] at pre511
      have pre513 : ∀ t, Steps p.tables e below (T510.setTop (mkF m 148 #[.val (.int p0), .val (.int p1), .val (.int p2), .val (.int p3), .val (.int p4), .val (.int p5), .val (.int sA), .val (.int sB), .val (.int (0 : Int32)), .val (.int cn), .val (.int (1 : Int32)), .val (.ref b44), .val (.int ((p5 &&& (2147483647 : Int32)) % cn)), .val (.int ((p5 &&& (2147483647 : Int32)) % cn))] [(.int ((p5 &&& (2147483647 : Int32)) % cn)), (.int ((p5 &&& (2147483647 : Int32)) % cn))])) t → Steps p.tables e below (s₁.setTop (entryFrame m #[(.int p0), (.int p1), (.int p2), (.int p3), (.int p4), (.int p5)] maxLocals)) t := by
        intro t kont
        refine pre511 t ?_
        show Steps p.tables e below (T510.setTop (mkF m 142 #[.val (.int p0), .val (.int p1), .val (.int p2), .val (.int p3), .val (.int p4), .val (.int p5), .val (.int sA), .val (.int sB), .val (.int (0 : Int32)), .val (.int cn), .val (.int (1 : Int32)), .val (.ref b44), .val (.int ((p5 &&& (2147483647 : Int32)) % cn)), .unset] [(.int ((p5 &&& (2147483647 : Int32)) % cn))])) _
        refine XS.istore X510.here hx rfl (hb hby at_142) rfl (l' := #[.val (.int p0), .val (.int p1), .val (.int p2), .val (.int p3), .val (.int p4), .val (.int p5), .val (.int sA), .val (.int sB), .val (.int (0 : Int32)), .val (.int cn), .val (.int (1 : Int32)), .val (.ref b44), .val (.int ((p5 &&& (2147483647 : Int32)) % cn)), .val (.int ((p5 &&& (2147483647 : Int32)) % cn))]) rfl ?_
        show Steps p.tables e below (T510.setTop (mkF m 144 #[.val (.int p0), .val (.int p1), .val (.int p2), .val (.int p3), .val (.int p4), .val (.int p5), .val (.int sA), .val (.int sB), .val (.int (0 : Int32)), .val (.int cn), .val (.int (1 : Int32)), .val (.ref b44), .val (.int ((p5 &&& (2147483647 : Int32)) % cn)), .val (.int ((p5 &&& (2147483647 : Int32)) % cn))] [])) _
        refine XS.iload X510.here hx rfl (hb hby at_144) rfl ?_
        show Steps p.tables e below (T510.setTop (mkF m 146 #[.val (.int p0), .val (.int p1), .val (.int p2), .val (.int p3), .val (.int p4), .val (.int p5), .val (.int sA), .val (.int sB), .val (.int (0 : Int32)), .val (.int cn), .val (.int (1 : Int32)), .val (.ref b44), .val (.int ((p5 &&& (2147483647 : Int32)) % cn)), .val (.int ((p5 &&& (2147483647 : Int32)) % cn))] [(.int ((p5 &&& (2147483647 : Int32)) % cn))])) _
        refine XS.iload X510.here hx rfl (hb hby at_146) rfl ?_
        exact kont
      by_cases hc148 : ((p5 &&& (2147483647 : Int32)) % cn) = ((p5 &&& (2147483647 : Int32)) % cn)
      · have pre514 : ∀ t, Steps p.tables e below (T510.setTop (mkF m 155 #[.val (.int p0), .val (.int p1), .val (.int p2), .val (.int p3), .val (.int p4), .val (.int p5), .val (.int sA), .val (.int sB), .val (.int (0 : Int32)), .val (.int cn), .val (.int (1 : Int32)), .val (.ref b44), .val (.int ((p5 &&& (2147483647 : Int32)) % cn)), .val (.int ((p5 &&& (2147483647 : Int32)) % cn))] [(.int ((p5 &&& (2147483647 : Int32)) % cn)), (.ref b44)])) t → Steps p.tables e below (s₁.setTop (entryFrame m #[(.int p0), (.int p1), (.int p2), (.int p3), (.int p4), (.int p5)] maxLocals)) t := by
          intro t kont
          refine pre513 t ?_
          show Steps p.tables e below (T510.setTop (mkF m 148 #[.val (.int p0), .val (.int p1), .val (.int p2), .val (.int p3), .val (.int p4), .val (.int p5), .val (.int sA), .val (.int sB), .val (.int (0 : Int32)), .val (.int cn), .val (.int (1 : Int32)), .val (.ref b44), .val (.int ((p5 &&& (2147483647 : Int32)) % cn)), .val (.int ((p5 &&& (2147483647 : Int32)) % cn))] [(.int ((p5 &&& (2147483647 : Int32)) % cn)), (.int ((p5 &&& (2147483647 : Int32)) % cn))])) _
          refine XS.icmpNo X510.here hx rfl (hb hby at_148) rfl (teq hc148).2 ?_
          show Steps p.tables e below (T510.setTop (mkF m 151 #[.val (.int p0), .val (.int p1), .val (.int p2), .val (.int p3), .val (.int p4), .val (.int p5), .val (.int sA), .val (.int sB), .val (.int (0 : Int32)), .val (.int cn), .val (.int (1 : Int32)), .val (.ref b44), .val (.int ((p5 &&& (2147483647 : Int32)) % cn)), .val (.int ((p5 &&& (2147483647 : Int32)) % cn))] [])) _
          refine XS.aload X510.here hx rfl (hb hby at_151) rfl rfl ?_
          show Steps p.tables e below (T510.setTop (mkF m 153 #[.val (.int p0), .val (.int p1), .val (.int p2), .val (.int p3), .val (.int p4), .val (.int p5), .val (.int sA), .val (.int sB), .val (.int (0 : Int32)), .val (.int cn), .val (.int (1 : Int32)), .val (.ref b44), .val (.int ((p5 &&& (2147483647 : Int32)) % cn)), .val (.int ((p5 &&& (2147483647 : Int32)) % cn))] [(.ref b44)])) _
          refine XS.iload X510.here hx rfl (hb hby at_153) rfl ?_
          exact kont
        obtain ⟨cq515, kq515, q515a, q515b, q515c⟩ := isOf hZ e510 (H506).1
        obtain ⟨_, _, ⟨T515, L515, k515, n515⟩, -, X515, ⟨Lc515, hQ515, l515, y515, z515⟩, st515⟩ := X510.virtualBack hx (y := (⟨"com/example/impronta/impronta/engine/Alignments", "end", "(I)I"⟩ : MethodName)) (z := (⟨"com/example/impronta/impronta/engine/Alignments", "end", "(I)I"⟩ : MethodName)) hown (mvT hZ (hw _ (List.mem_of_getElem? (i := 53) rfl))) (mvT hZ (hw _ (List.mem_of_getElem? (i := 54) rfl))) (notFace_of_selects (args := #[]) (mvT hZ (hw _ (List.mem_of_getElem? (i := 56) rfl)))) (mvT hZ (hw _ (List.mem_of_getElem? (i := 56) rfl))) (mvT hZ (hw _ (List.mem_of_getElem? (i := 55) rfl))) (by decide) (backOf (W := 0) (rm8 l Z a0 hw [] b44 ((p5 &&& (2147483647 : Int32)) % cn) be503 ba bn bf p0 (1 : Int32) (-sA) (0 : Int32) ne503 (fun _ => (0 : Int32)) (fun _ => (-2147483648 : Int32)) (fun _ => (0 : Int32)) (fun _ => (0 : Int32)) ((p5 &&& (2147483647 : Int32)) % cn).toNatClampNeg  T506.heap n0 Z506 H506 (own_i0 hix.1) rfl (fun q => absurd q (by decide)) (fun _ => own_natlt hix.1 (by omega))) hZ (hw _ (List.mem_of_getElem? (i := 57) rfl)) (hw _ (List.mem_of_getElem? (i := 2) rfl)) (by decide) (by decide)) q515a q515c (g := (mkF m 155 #[.val (.int p0), .val (.int p1), .val (.int p2), .val (.int p3), .val (.int p4), .val (.int p5), .val (.int sA), .val (.int sB), .val (.int (0 : Int32)), .val (.int cn), .val (.int (1 : Int32)), .val (.ref b44), .val (.int ((p5 &&& (2147483647 : Int32)) % cn)), .val (.int ((p5 &&& (2147483647 : Int32)) % cn))] [(.int ((p5 &&& (2147483647 : Int32)) % cn)), (.ref b44)])) rfl (by rw [hml]; rfl) (Steps.refl _) (argsL := [(.int ((p5 &&& (2147483647 : Int32)) % cn))]) (rest := []) (lenOf pd_2 rfl) rfl (by show 2 * 0 + _ ≤ _; exact Nat.le_of_eq rfl) (hb hby at_155) (fun _ _ => ⟨rfl, e510, (by decide : 6 + 0 ≤ _), (by decide : 80 + 0 ≤ _)⟩)
        dsimp only [Pt.U, Pt.locs, Pt.cells, Pt.slots] at X515 l515 y515 z515 st515 hQ515
        subst l515 y515 z515
        obtain ⟨rfl, N515q, e515⟩ := hQ515
        have N515 := Fr.app N510 N515q
        have pre516 : ∀ t, Steps p.tables e below (T515.setTop (mkF m 158 #[.val (.int p0), .val (.int p1), .val (.int p2), .val (.int p3), .val (.int p4), .val (.int p5), .val (.int sA), .val (.int sB), .val (.int (0 : Int32)), .val (.int cn), .val (.int (1 : Int32)), .val (.ref b44), .val (.int ((p5 &&& (2147483647 : Int32)) % cn)), .val (.int ((p5 &&& (2147483647 : Int32)) % cn))] [(.int (own_end (1 : Int32) (fun _ => (0 : Int32)) (fun _ => (0 : Int32)) ((p5 &&& (2147483647 : Int32)) % cn).toNatClampNeg))])) t → Steps p.tables e below (s₁.setTop (entryFrame m #[(.int p0), (.int p1), (.int p2), (.int p3), (.int p4), (.int p5)] maxLocals)) t := fun t kont => pre514 t (st515.trans kont)
        have rq517 : (own_end (1 : Int32) (fun _ => (0 : Int32)) (fun _ => (0 : Int32)) ((p5 &&& (2147483647 : Int32)) % cn).toNatClampNeg) = (0 : Int32) := own_end1 _ _ _
        rw [rq517] at pre516
        have pre518 : ∀ t, Steps p.tables e below (T515.setTop (mkF m 166 #[.val (.int p0), .val (.int p1), .val (.int p2), .val (.int p3), .val (.int p4), .val (.int p5), .val (.int sA), .val (.int sB), .val (.int (0 : Int32)), .val (.int cn), .val (.int (1 : Int32)), .val (.ref b44), .val (.int ((p5 &&& (2147483647 : Int32)) % cn)), .val (.int ((p5 &&& (2147483647 : Int32)) % cn))] [(.int (1 : Int32))])) t → Steps p.tables e below (s₁.setTop (entryFrame m #[(.int p0), (.int p1), (.int p2), (.int p3), (.int p4), (.int p5)] maxLocals)) t := by
          intro t kont
          refine pre516 t ?_
          show Steps p.tables e below (T515.setTop (mkF m 158 #[.val (.int p0), .val (.int p1), .val (.int p2), .val (.int p3), .val (.int p4), .val (.int p5), .val (.int sA), .val (.int sB), .val (.int (0 : Int32)), .val (.int cn), .val (.int (1 : Int32)), .val (.ref b44), .val (.int ((p5 &&& (2147483647 : Int32)) % cn)), .val (.int ((p5 &&& (2147483647 : Int32)) % cn))] [(.int (0 : Int32))])) _
          refine XS.ifNo X515.here hx rfl (hb hby at_158) rfl ((if0 _ _).trans (teq (by decide)).2) ?_
          show Steps p.tables e below (T515.setTop (mkF m 161 #[.val (.int p0), .val (.int p1), .val (.int p2), .val (.int p3), .val (.int p4), .val (.int p5), .val (.int sA), .val (.int sB), .val (.int (0 : Int32)), .val (.int cn), .val (.int (1 : Int32)), .val (.ref b44), .val (.int ((p5 &&& (2147483647 : Int32)) % cn)), .val (.int ((p5 &&& (2147483647 : Int32)) % cn))] [])) _
          refine XS.iconst X515.here hx rfl (hb hby at_161) ?_
          show Steps p.tables e below (T515.setTop (mkF m 162 #[.val (.int p0), .val (.int p1), .val (.int p2), .val (.int p3), .val (.int p4), .val (.int p5), .val (.int sA), .val (.int sB), .val (.int (0 : Int32)), .val (.int cn), .val (.int (1 : Int32)), .val (.ref b44), .val (.int ((p5 &&& (2147483647 : Int32)) % cn)), .val (.int ((p5 &&& (2147483647 : Int32)) % cn))] [(.int (1 : Int32))])) _
          refine XS.goto X515.here hx rfl (pc0 := 162) (pc' := 166) rfl (hb hby at_162) (by decide) (by decide) ?_
          exact kont
        obtain ⟨fs, hr, hrun, hended, hW, hsame⟩ := X515.leave (v := some (.int (1 : Int32))) (fun h => by rw [Bd.returns] at h; cases h)
        refine ⟨_, _, pre518 _ ?_, hrun, hended, _, _, rfl, ?_, ⟨_, rfl⟩, hW, hsame.mono (by decide) (by decide)⟩
        · exact retN X515 hx (t := .boolean) Bd.returns (by simp) (hb hby at_166) hr
        · show Q0 Z p0 p1 p2 p3 p4 p5 h0 n0 _ T515.heap _
          rw [e515]
          exact ⟨rfl, N515⟩
      · exfalso
        first | exact hc158 rfl | exact hc148 rfl
    · rw [hn4] at pre504
      have pre519 : ∀ t, Steps p.tables e below (T503.setTop (mkF m 76 #[.val (.int p0), .val (.int p1), .val (.int p2), .val (.int p3), .val (.int p4), .val (.int p5), .val (.int sA), .val (.int sB), .val (.int (1 : Int32)), .val (.int cn), .val (.int (1 : Int32)), .val (.ref b44), .unset, .unset] [(.int p2), (.int cn), (.int sA), (.ref b44)])) t → Steps p.tables e below (s₁.setTop (entryFrame m #[(.int p0), (.int p1), (.int p2), (.int p3), (.int p4), (.int p5)] maxLocals)) t := by
        intro t kont
        refine pre504 t ?_
        show Steps p.tables e below (T503.setTop (mkF m 63 #[.val (.int p0), .val (.int p1), .val (.int p2), .val (.int p3), .val (.int p4), .val (.int p5), .val (.int sA), .val (.int sB), .val (.int (1 : Int32)), .val (.int cn), .val (.int (1 : Int32)), .val (.ref b44), .unset, .unset] [])) _
        refine XS.iload X503.here hx rfl (hb hby at_63) rfl ?_
        show Steps p.tables e below (T503.setTop (mkF m 65 #[.val (.int p0), .val (.int p1), .val (.int p2), .val (.int p3), .val (.int p4), .val (.int p5), .val (.int sA), .val (.int sB), .val (.int (1 : Int32)), .val (.int cn), .val (.int (1 : Int32)), .val (.ref b44), .unset, .unset] [(.int (1 : Int32))])) _
        refine XS.iconst X503.here hx rfl (hb hby at_65) ?_
        show Steps p.tables e below (T503.setTop (mkF m 66 #[.val (.int p0), .val (.int p1), .val (.int p2), .val (.int p3), .val (.int p4), .val (.int p5), .val (.int sA), .val (.int sB), .val (.int (1 : Int32)), .val (.int cn), .val (.int (1 : Int32)), .val (.ref b44), .unset, .unset] [(.int (1 : Int32)), (.int (1 : Int32))])) _
        refine XS.icmpNo X503.here hx rfl (hb hby at_66) rfl (flt (by decide)).1 ?_
        show Steps p.tables e below (T503.setTop (mkF m 69 #[.val (.int p0), .val (.int p1), .val (.int p2), .val (.int p3), .val (.int p4), .val (.int p5), .val (.int sA), .val (.int sB), .val (.int (1 : Int32)), .val (.int cn), .val (.int (1 : Int32)), .val (.ref b44), .unset, .unset] [])) _
        refine XS.aload X503.here hx rfl (hb hby at_69) rfl rfl ?_
        show Steps p.tables e below (T503.setTop (mkF m 71 #[.val (.int p0), .val (.int p1), .val (.int p2), .val (.int p3), .val (.int p4), .val (.int p5), .val (.int sA), .val (.int sB), .val (.int (1 : Int32)), .val (.int cn), .val (.int (1 : Int32)), .val (.ref b44), .unset, .unset] [(.ref b44)])) _
        refine XS.iload X503.here hx rfl (hb hby at_71) rfl ?_
        show Steps p.tables e below (T503.setTop (mkF m 73 #[.val (.int p0), .val (.int p1), .val (.int p2), .val (.int p3), .val (.int p4), .val (.int p5), .val (.int sA), .val (.int sB), .val (.int (1 : Int32)), .val (.int cn), .val (.int (1 : Int32)), .val (.ref b44), .unset, .unset] [(.int sA), (.ref b44)])) _
        refine XS.iload X503.here hx rfl (hb hby at_73) rfl ?_
        show Steps p.tables e below (T503.setTop (mkF m 75 #[.val (.int p0), .val (.int p1), .val (.int p2), .val (.int p3), .val (.int p4), .val (.int p5), .val (.int sA), .val (.int sB), .val (.int (1 : Int32)), .val (.int cn), .val (.int (1 : Int32)), .val (.ref b44), .unset, .unset] [(.int cn), (.int sA), (.ref b44)])) _
        refine XS.iloadN X503.here hx rfl (hb hby at_75) rfl ?_
        exact kont
      obtain ⟨_, _, ⟨T520, L520, k520, n520⟩, -, X520, ⟨Lc520, hQ520, l520, y520, z520⟩, st520⟩ := Jvm.LawKit.callS X503 hx (y := (⟨"com/example/impronta/impronta/engine/AlignmentsClearPinLaw", "putOne", "(Lcom/example/impronta/impronta/engine/Alignments;III)V"⟩ : MethodName)) hown (mvT hZ (hw _ (List.mem_of_getElem? (i := 59) rfl))) (mvT hZ (hw _ (List.mem_of_getElem? (i := 60) rfl))) (mvT hZ (hw _ (List.mem_of_getElem? (i := 61) rfl))) (mvT hZ (hw _ (List.mem_of_getElem? (i := 62) rfl))) (by decide) (backOf (W := 0) (rm9a l Z a0 hw [] b44 sA cn p2 be503 ba bn bf p0 (0 : Int32) ne503 (fun _ => (0 : Int32)) (fun _ => (-2147483648 : Int32)) (fun _ => (0 : Int32)) (fun _ => (0 : Int32)) 0  T503.heap n0 Z503 H503 hI0 (by decide) (by decide) (by decide) hcc) hZ (hw _ (List.mem_of_getElem? (i := 62) rfl)) (hw _ (List.mem_of_getElem? (i := 61) rfl)) (by decide) (by decide)) (g := (mkF m 76 #[.val (.int p0), .val (.int p1), .val (.int p2), .val (.int p3), .val (.int p4), .val (.int p5), .val (.int sA), .val (.int sB), .val (.int (1 : Int32)), .val (.int cn), .val (.int (1 : Int32)), .val (.ref b44), .unset, .unset] [(.int p2), (.int cn), (.int sA), (.ref b44)])) rfl (by rw [hml]; rfl) (argsL := [(.ref b44), (.int sA), (.int cn), (.int p2)]) (rest := []) (lenOf pd_7 rfl) rfl (by show 2 * 0 + _ ≤ _; exact Nat.le_of_eq rfl) (hb hby at_76) (fun _ _ => ⟨rfl, rfl, (by decide : 6 + 0 ≤ _), (by decide : 80 + 0 ≤ _)⟩)
      dsimp only [Pt.U, Pt.locs, Pt.cells, Pt.slots] at X520 l520 y520 z520 st520 hQ520
      subst l520 y520 z520
      obtain ⟨rfl, N520q, Z520, sz520, zn520, ge520, ga520, gn520, gf520, ww520, hz0520, hzn520, hI520, H520⟩ := hQ520
      have N520 := Fr.app N503 N520q
      have pre521 : ∀ t, Steps p.tables e below (T520.setTop (mkF m 79 #[.val (.int p0), .val (.int p1), .val (.int p2), .val (.int p3), .val (.int p4), .val (.int p5), .val (.int sA), .val (.int sB), .val (.int (1 : Int32)), .val (.int cn), .val (.int (1 : Int32)), .val (.ref b44), .unset, .unset] [])) t → Steps p.tables e below (s₁.setTop (entryFrame m #[(.int p0), (.int p1), (.int p2), (.int p3), (.int p4), (.int p5)] maxLocals)) t := fun t kont => pre519 t (st520 _ kont)
      have pre522 : ∀ t, Steps p.tables e below (T520.setTop (mkF m 114 #[.val (.int p0), .val (.int p1), .val (.int p2), .val (.int p3), .val (.int p4), .val (.int p5), .val (.int sA), .val (.int sB), .val (.int (1 : Int32)), .val (.int cn), .val (.int (1 : Int32)), .val (.ref b44), .unset, .unset] [(.ref b44)])) t → Steps p.tables e below (s₁.setTop (entryFrame m #[(.int p0), (.int p1), (.int p2), (.int p3), (.int p4), (.int p5)] maxLocals)) t := by
        intro t kont
        refine pre521 t ?_
        show Steps p.tables e below (T520.setTop (mkF m 79 #[.val (.int p0), .val (.int p1), .val (.int p2), .val (.int p3), .val (.int p4), .val (.int p5), .val (.int sA), .val (.int sB), .val (.int (1 : Int32)), .val (.int cn), .val (.int (1 : Int32)), .val (.ref b44), .unset, .unset] [])) _
        refine XS.iload X520.here hx rfl (hb hby at_79) rfl ?_
        show Steps p.tables e below (T520.setTop (mkF m 81 #[.val (.int p0), .val (.int p1), .val (.int p2), .val (.int p3), .val (.int p4), .val (.int p5), .val (.int sA), .val (.int sB), .val (.int (1 : Int32)), .val (.int cn), .val (.int (1 : Int32)), .val (.ref b44), .unset, .unset] [(.int (1 : Int32))])) _
        refine XS.iconst X520.here hx rfl (hb hby at_81) ?_
        show Steps p.tables e below (T520.setTop (mkF m 82 #[.val (.int p0), .val (.int p1), .val (.int p2), .val (.int p3), .val (.int p4), .val (.int p5), .val (.int sA), .val (.int sB), .val (.int (1 : Int32)), .val (.int cn), .val (.int (1 : Int32)), .val (.ref b44), .unset, .unset] [(.int (2 : Int32)), (.int (1 : Int32))])) _
        refine XS.icmpYes X520.here hx rfl (pc0 := 82) (pc' := 95) rfl (hb hby at_82) rfl (tlt (by decide)).1 (by decide) (by decide) ?_
        show Steps p.tables e below (T520.setTop (mkF m 95 #[.val (.int p0), .val (.int p1), .val (.int p2), .val (.int p3), .val (.int p4), .val (.int p5), .val (.int sA), .val (.int sB), .val (.int (1 : Int32)), .val (.int cn), .val (.int (1 : Int32)), .val (.ref b44), .unset, .unset] [])) _
        refine XS.iload X520.here hx rfl (hb hby at_95) rfl ?_
        show Steps p.tables e below (T520.setTop (mkF m 97 #[.val (.int p0), .val (.int p1), .val (.int p2), .val (.int p3), .val (.int p4), .val (.int p5), .val (.int sA), .val (.int sB), .val (.int (1 : Int32)), .val (.int cn), .val (.int (1 : Int32)), .val (.ref b44), .unset, .unset] [(.int (1 : Int32))])) _
        refine XS.iconst X520.here hx rfl (hb hby at_97) ?_
        show Steps p.tables e below (T520.setTop (mkF m 98 #[.val (.int p0), .val (.int p1), .val (.int p2), .val (.int p3), .val (.int p4), .val (.int p5), .val (.int sA), .val (.int sB), .val (.int (1 : Int32)), .val (.int cn), .val (.int (1 : Int32)), .val (.ref b44), .unset, .unset] [(.int (3 : Int32)), (.int (1 : Int32))])) _
        refine XS.icmpYes X520.here hx rfl (pc0 := 98) (pc' := 112) rfl (hb hby at_98) rfl (tlt (by decide)).1 (by decide) (by decide) ?_
        show Steps p.tables e below (T520.setTop (mkF m 112 #[.val (.int p0), .val (.int p1), .val (.int p2), .val (.int p3), .val (.int p4), .val (.int p5), .val (.int sA), .val (.int sB), .val (.int (1 : Int32)), .val (.int cn), .val (.int (1 : Int32)), .val (.ref b44), .unset, .unset] [])) _
        refine XS.aload X520.here hx rfl (hb hby at_112) rfl rfl ?_
        exact kont
      obtain ⟨cq523, kq523, q523a, q523b, q523c⟩ := isOf hZ rfl (H520).1
      obtain ⟨_, _, ⟨T523, L523, k523, n523⟩, -, X523, ⟨Lc523, hQ523, l523, y523, z523⟩, st523⟩ := X520.virtualBack hx (y := (⟨"com/example/impronta/impronta/engine/Alignments", "clear", "()V"⟩ : MethodName)) (z := (⟨"com/example/impronta/impronta/engine/Alignments", "clear", "()V"⟩ : MethodName)) hown (mvT hZ (hw _ (List.mem_of_getElem? (i := 39) rfl))) (mvT hZ (hw _ (List.mem_of_getElem? (i := 40) rfl))) (notFace_of_selects (args := #[]) (mvT hZ (hw _ (List.mem_of_getElem? (i := 42) rfl)))) (mvT hZ (hw _ (List.mem_of_getElem? (i := 42) rfl))) (mvT hZ (hw _ (List.mem_of_getElem? (i := 41) rfl))) (by decide) (backOf (W := 0) (rm6a l Z a0 hw [] b44 be503 ba bn bf p0 (-sA) sz520 ne503 ge520 ga520 gn520 gf520 zn520  T520.heap n0 Z520 H520 hI520 hzn520 (by omega)) hZ (hw _ (List.mem_of_getElem? (i := 43) rfl)) (hw _ (List.mem_of_getElem? (i := 2) rfl)) (by decide) (by decide)) q523a q523c (g := (mkF m 114 #[.val (.int p0), .val (.int p1), .val (.int p2), .val (.int p3), .val (.int p4), .val (.int p5), .val (.int sA), .val (.int sB), .val (.int (1 : Int32)), .val (.int cn), .val (.int (1 : Int32)), .val (.ref b44), .unset, .unset] [(.ref b44)])) rfl (by rw [hml]; rfl) (Steps.refl _) (argsL := []) (rest := []) (lenOf pd_6 rfl) rfl (by show 2 * 0 + _ ≤ _; exact Nat.le_of_eq rfl) (hb hby at_114) (fun _ _ => ⟨rfl, rfl, (by decide : 6 + 0 ≤ _), (by decide : 80 + 0 ≤ _)⟩)
      dsimp only [Pt.U, Pt.locs, Pt.cells, Pt.slots] at X523 l523 y523 z523 st523 hQ523
      subst l523 y523 z523
      obtain ⟨rfl, N523q, Z523, H523⟩ := hQ523
      have N523 := Fr.app N520 N523q
      have pre524 : ∀ t, Steps p.tables e below (T523.setTop (mkF m 117 #[.val (.int p0), .val (.int p1), .val (.int p2), .val (.int p3), .val (.int p4), .val (.int p5), .val (.int sA), .val (.int sB), .val (.int (1 : Int32)), .val (.int cn), .val (.int (1 : Int32)), .val (.ref b44), .unset, .unset] [])) t → Steps p.tables e below (s₁.setTop (entryFrame m #[(.int p0), (.int p1), (.int p2), (.int p3), (.int p4), (.int p5)] maxLocals)) t := fun t kont => pre522 t (st523.trans kont)
      have pre525 : ∀ t, Steps p.tables e below (T523.setTop (mkF m 132 #[.val (.int p0), .val (.int p1), .val (.int p2), .val (.int p3), .val (.int p4), .val (.int p5), .val (.int sA), .val (.int sB), .val (.int (1 : Int32)), .val (.int cn), .val (.int (1 : Int32)), .val (.ref b44), .val (.int ((p5 &&& (2147483647 : Int32)) % cn)), .unset] [])) t → Steps p.tables e below (s₁.setTop (entryFrame m #[(.int p0), (.int p1), (.int p2), (.int p3), (.int p4), (.int p5)] maxLocals)) t := by
        intro t kont
        refine pre524 t ?_
        show Steps p.tables e below (T523.setTop (mkF m 117 #[.val (.int p0), .val (.int p1), .val (.int p2), .val (.int p3), .val (.int p4), .val (.int p5), .val (.int sA), .val (.int sB), .val (.int (1 : Int32)), .val (.int cn), .val (.int (1 : Int32)), .val (.ref b44), .unset, .unset] [])) _
        refine XS.iload X523.here hx rfl (hb hby at_117) rfl ?_
        show Steps p.tables e below (T523.setTop (mkF m 119 #[.val (.int p0), .val (.int p1), .val (.int p2), .val (.int p3), .val (.int p4), .val (.int p5), .val (.int sA), .val (.int sB), .val (.int (1 : Int32)), .val (.int cn), .val (.int (1 : Int32)), .val (.ref b44), .unset, .unset] [(.int (1 : Int32))])) _
        refine XS.ifNo X523.here hx rfl (hb hby at_119) rfl ((if0 _ _).trans (feq (by decide)).1) ?_
        show Steps p.tables e below (T523.setTop (mkF m 122 #[.val (.int p0), .val (.int p1), .val (.int p2), .val (.int p3), .val (.int p4), .val (.int p5), .val (.int sA), .val (.int sB), .val (.int (1 : Int32)), .val (.int cn), .val (.int (1 : Int32)), .val (.ref b44), .unset, .unset] [])) _
        refine XS.iload X523.here hx rfl (hb hby at_122) rfl ?_
        show Steps p.tables e below (T523.setTop (mkF m 124 #[.val (.int p0), .val (.int p1), .val (.int p2), .val (.int p3), .val (.int p4), .val (.int p5), .val (.int sA), .val (.int sB), .val (.int (1 : Int32)), .val (.int cn), .val (.int (1 : Int32)), .val (.ref b44), .unset, .unset] [(.int p5)])) _
        refine X523.ldcInt hx hown (mvT hZ (hw _ (List.mem_of_getElem? (i := 58) rfl))) (g := (mkF m 124 #[.val (.int p0), .val (.int p1), .val (.int p2), .val (.int p3), .val (.int p4), .val (.int p5), .val (.int sA), .val (.int sB), .val (.int (1 : Int32)), .val (.int cn), .val (.int (1 : Int32)), .val (.ref b44), .unset, .unset] [(.int p5)])) rfl (hb hby at_124) _ ?_
        show Steps p.tables e below (T523.setTop (mkF m 126 #[.val (.int p0), .val (.int p1), .val (.int p2), .val (.int p3), .val (.int p4), .val (.int p5), .val (.int sA), .val (.int sB), .val (.int (1 : Int32)), .val (.int cn), .val (.int (1 : Int32)), .val (.ref b44), .unset, .unset] [(.int (2147483647 : Int32)), (.int p5)])) _
        refine XS.iand X523.here hx rfl (hb hby at_126) rfl ?_
        show Steps p.tables e below (T523.setTop (mkF m 127 #[.val (.int p0), .val (.int p1), .val (.int p2), .val (.int p3), .val (.int p4), .val (.int p5), .val (.int sA), .val (.int sB), .val (.int (1 : Int32)), .val (.int cn), .val (.int (1 : Int32)), .val (.ref b44), .unset, .unset] [(.int (p5 &&& (2147483647 : Int32)))])) _
        refine XS.iload X523.here hx rfl (hb hby at_127) rfl ?_
        show Steps p.tables e below (T523.setTop (mkF m 129 #[.val (.int p0), .val (.int p1), .val (.int p2), .val (.int p3), .val (.int p4), .val (.int p5), .val (.int sA), .val (.int sB), .val (.int (1 : Int32)), .val (.int cn), .val (.int (1 : Int32)), .val (.ref b44), .unset, .unset] [(.int cn), (.int (p5 &&& (2147483647 : Int32)))])) _
        refine iremM X523 hx rfl (hb hby at_129) rfl (own_cz hcc.1) ?_
        show Steps p.tables e below (T523.setTop (mkF m 130 #[.val (.int p0), .val (.int p1), .val (.int p2), .val (.int p3), .val (.int p4), .val (.int p5), .val (.int sA), .val (.int sB), .val (.int (1 : Int32)), .val (.int cn), .val (.int (1 : Int32)), .val (.ref b44), .unset, .unset] [(.int ((p5 &&& (2147483647 : Int32)) % cn))])) _
        refine XS.istore X523.here hx rfl (hb hby at_130) rfl (l' := #[.val (.int p0), .val (.int p1), .val (.int p2), .val (.int p3), .val (.int p4), .val (.int p5), .val (.int sA), .val (.int sB), .val (.int (1 : Int32)), .val (.int cn), .val (.int (1 : Int32)), .val (.ref b44), .val (.int ((p5 &&& (2147483647 : Int32)) % cn)), .unset]) rfl ?_
        exact kont
      have hix := own_mod2 p5 hcc.1
      have pre526 : ∀ t, Steps p.tables e below (T523.setTop (mkF m 139 #[.val (.int p0), .val (.int p1), .val (.int p2), .val (.int p3), .val (.int p4), .val (.int p5), .val (.int sA), .val (.int sB), .val (.int (1 : Int32)), .val (.int cn), .val (.int (1 : Int32)), .val (.ref b44), .val (.int ((p5 &&& (2147483647 : Int32)) % cn)), .unset] [(.int (((p5 &&& (2147483647 : Int32)) % cn) - sA)), (.ref b44)])) t → Steps p.tables e below (s₁.setTop (entryFrame m #[(.int p0), (.int p1), (.int p2), (.int p3), (.int p4), (.int p5)] maxLocals)) t := by
        intro t kont
        refine pre525 t ?_
        show Steps p.tables e below (T523.setTop (mkF m 132 #[.val (.int p0), .val (.int p1), .val (.int p2), .val (.int p3), .val (.int p4), .val (.int p5), .val (.int sA), .val (.int sB), .val (.int (1 : Int32)), .val (.int cn), .val (.int (1 : Int32)), .val (.ref b44), .val (.int ((p5 &&& (2147483647 : Int32)) % cn)), .unset] [])) _
        refine XS.aload X523.here hx rfl (hb hby at_132) rfl rfl ?_
        show Steps p.tables e below (T523.setTop (mkF m 134 #[.val (.int p0), .val (.int p1), .val (.int p2), .val (.int p3), .val (.int p4), .val (.int p5), .val (.int sA), .val (.int sB), .val (.int (1 : Int32)), .val (.int cn), .val (.int (1 : Int32)), .val (.ref b44), .val (.int ((p5 &&& (2147483647 : Int32)) % cn)), .unset] [(.ref b44)])) _
        refine XS.iload X523.here hx rfl (hb hby at_134) rfl ?_
        show Steps p.tables e below (T523.setTop (mkF m 136 #[.val (.int p0), .val (.int p1), .val (.int p2), .val (.int p3), .val (.int p4), .val (.int p5), .val (.int sA), .val (.int sB), .val (.int (1 : Int32)), .val (.int cn), .val (.int (1 : Int32)), .val (.ref b44), .val (.int ((p5 &&& (2147483647 : Int32)) % cn)), .unset] [(.int ((p5 &&& (2147483647 : Int32)) % cn)), (.ref b44)])) _
        refine XS.iload X523.here hx rfl (hb hby at_136) rfl ?_
        show Steps p.tables e below (T523.setTop (mkF m 138 #[.val (.int p0), .val (.int p1), .val (.int p2), .val (.int p3), .val (.int p4), .val (.int p5), .val (.int sA), .val (.int sB), .val (.int (1 : Int32)), .val (.int cn), .val (.int (1 : Int32)), .val (.ref b44), .val (.int ((p5 &&& (2147483647 : Int32)) % cn)), .unset] [(.int sA), (.int ((p5 &&& (2147483647 : Int32)) % cn)), (.ref b44)])) _
        refine XS.isub X523.here hx rfl (hb hby at_138) rfl ?_
        exact kont
      obtain ⟨cq527, kq527, q527a, q527b, q527c⟩ := isOf hZ rfl (H523).1
      obtain ⟨_, _, ⟨T527, L527, k527, n527⟩, -, X527, ⟨Lc527, hQ527, l527, y527, z527⟩, st527⟩ := X523.virtualBack hx (y := (⟨"com/example/impronta/impronta/engine/Alignments", "slot", "(I)I"⟩ : MethodName)) (z := (⟨"com/example/impronta/impronta/engine/Alignments", "slot", "(I)I"⟩ : MethodName)) hown (mvT hZ (hw _ (List.mem_of_getElem? (i := 46) rfl))) (mvT hZ (hw _ (List.mem_of_getElem? (i := 47) rfl))) (notFace_of_selects (args := #[]) (mvT hZ (hw _ (List.mem_of_getElem? (i := 49) rfl)))) (mvT hZ (hw _ (List.mem_of_getElem? (i := 49) rfl))) (mvT hZ (hw _ (List.mem_of_getElem? (i := 48) rfl))) (by decide) (backOf (W := 0) (rm7 l Z a0 hw [] b44 (((p5 &&& (2147483647 : Int32)) % cn) - sA) be503 ba bn bf p0 (1 : Int32) (-sA) (0 : Int32) ne503 (fun _ => (0 : Int32)) ga520 gn520 gf520  T523.heap n0 Z523 H523 (fun q => absurd q (by decide))) hZ (hw _ (List.mem_of_getElem? (i := 50) rfl)) (hw _ (List.mem_of_getElem? (i := 2) rfl)) (by decide) (by decide)) q527a q527c (g := (mkF m 139 #[.val (.int p0), .val (.int p1), .val (.int p2), .val (.int p3), .val (.int p4), .val (.int p5), .val (.int sA), .val (.int sB), .val (.int (1 : Int32)), .val (.int cn), .val (.int (1 : Int32)), .val (.ref b44), .val (.int ((p5 &&& (2147483647 : Int32)) % cn)), .unset] [(.int (((p5 &&& (2147483647 : Int32)) % cn) - sA)), (.ref b44)])) rfl (by rw [hml]; rfl) (Steps.refl _) (argsL := [(.int (((p5 &&& (2147483647 : Int32)) % cn) - sA))]) (rest := []) (lenOf pd_2 rfl) rfl (by show 2 * 0 + _ ≤ _; exact Nat.le_of_eq rfl) (hb hby at_139) (fun _ _ => ⟨rfl, rfl, (by decide : 6 + 0 ≤ _), (by decide : 80 + 0 ≤ _)⟩)
      dsimp only [Pt.U, Pt.locs, Pt.cells, Pt.slots] at X527 l527 y527 z527 st527 hQ527
      subst l527 y527 z527
      obtain ⟨rfl, N527q, e527⟩ := hQ527
      have N527 := Fr.app N523 N527q
      have pre528 : ∀ t, Steps p.tables e below (T527.setTop (mkF m 142 #[.val (.int p0), .val (.int p1), .val (.int p2), .val (.int p3), .val (.int p4), .val (.int p5), .val (.int sA), .val (.int sB), .val (.int (1 : Int32)), .val (.int cn), .val (.int (1 : Int32)), .val (.ref b44), .val (.int ((p5 &&& (2147483647 : Int32)) % cn)), .unset] [(.int (own_slot (1 : Int32) (-sA) ga520 (((p5 &&& (2147483647 : Int32)) % cn) - sA)))])) t → Steps p.tables e below (s₁.setTop (entryFrame m #[(.int p0), (.int p1), (.int p2), (.int p3), (.int p4), (.int p5)] maxLocals)) t := fun t kont => pre526 t (st527.trans kont)
      have rq529 : (own_slot (1 : Int32) (-sA) ga520 (((p5 &&& (2147483647 : Int32)) % cn) - sA)) = ((p5 &&& (2147483647 : Int32)) % cn) := own_sA _ _ _
      rw [rq529] at pre528
      have pre530 : ∀ t, Steps p.tables e below (T527.setTop (mkF m 148 #[.val (.int p0), .val (.int p1), .val (.int p2), .val (.int p3), .val (.int p4), .val (.int p5), .val (.int sA), .val (.int sB), .val (.int (1 : Int32)), .val (.int cn), .val (.int (1 : Int32)), .val (.ref b44), .val (.int ((p5 &&& (2147483647 : Int32)) % cn)), .val (.int ((p5 &&& (2147483647 : Int32)) % cn))] [(.int ((p5 &&& (2147483647 : Int32)) % cn)), (.int ((p5 &&& (2147483647 : Int32)) % cn))])) t → Steps p.tables e below (s₁.setTop (entryFrame m #[(.int p0), (.int p1), (.int p2), (.int p3), (.int p4), (.int p5)] maxLocals)) t := by
        intro t kont
        refine pre528 t ?_
        show Steps p.tables e below (T527.setTop (mkF m 142 #[.val (.int p0), .val (.int p1), .val (.int p2), .val (.int p3), .val (.int p4), .val (.int p5), .val (.int sA), .val (.int sB), .val (.int (1 : Int32)), .val (.int cn), .val (.int (1 : Int32)), .val (.ref b44), .val (.int ((p5 &&& (2147483647 : Int32)) % cn)), .unset] [(.int ((p5 &&& (2147483647 : Int32)) % cn))])) _
        refine XS.istore X527.here hx rfl (hb hby at_142) rfl (l' := #[.val (.int p0), .val (.int p1), .val (.int p2), .val (.int p3), .val (.int p4), .val (.int p5), .val (.int sA), .val (.int sB), .val (.int (1 : Int32)), .val (.int cn), .val (.int (1 : Int32)), .val (.ref b44), .val (.int ((p5 &&& (2147483647 : Int32)) % cn)), .val (.int ((p5 &&& (2147483647 : Int32)) % cn))]) rfl ?_
        show Steps p.tables e below (T527.setTop (mkF m 144 #[.val (.int p0), .val (.int p1), .val (.int p2), .val (.int p3), .val (.int p4), .val (.int p5), .val (.int sA), .val (.int sB), .val (.int (1 : Int32)), .val (.int cn), .val (.int (1 : Int32)), .val (.ref b44), .val (.int ((p5 &&& (2147483647 : Int32)) % cn)), .val (.int ((p5 &&& (2147483647 : Int32)) % cn))] [])) _
        refine XS.iload X527.here hx rfl (hb hby at_144) rfl ?_
        show Steps p.tables e below (T527.setTop (mkF m 146 #[.val (.int p0), .val (.int p1), .val (.int p2), .val (.int p3), .val (.int p4), .val (.int p5), .val (.int sA), .val (.int sB), .val (.int (1 : Int32)), .val (.int cn), .val (.int (1 : Int32)), .val (.ref b44), .val (.int ((p5 &&& (2147483647 : Int32)) % cn)), .val (.int ((p5 &&& (2147483647 : Int32)) % cn))] [(.int ((p5 &&& (2147483647 : Int32)) % cn))])) _
        refine XS.iload X527.here hx rfl (hb hby at_146) rfl ?_
        exact kont
      by_cases hc148 : ((p5 &&& (2147483647 : Int32)) % cn) = ((p5 &&& (2147483647 : Int32)) % cn)
      · have pre531 : ∀ t, Steps p.tables e below (T527.setTop (mkF m 155 #[.val (.int p0), .val (.int p1), .val (.int p2), .val (.int p3), .val (.int p4), .val (.int p5), .val (.int sA), .val (.int sB), .val (.int (1 : Int32)), .val (.int cn), .val (.int (1 : Int32)), .val (.ref b44), .val (.int ((p5 &&& (2147483647 : Int32)) % cn)), .val (.int ((p5 &&& (2147483647 : Int32)) % cn))] [(.int ((p5 &&& (2147483647 : Int32)) % cn)), (.ref b44)])) t → Steps p.tables e below (s₁.setTop (entryFrame m #[(.int p0), (.int p1), (.int p2), (.int p3), (.int p4), (.int p5)] maxLocals)) t := by
          intro t kont
          refine pre530 t ?_
          show Steps p.tables e below (T527.setTop (mkF m 148 #[.val (.int p0), .val (.int p1), .val (.int p2), .val (.int p3), .val (.int p4), .val (.int p5), .val (.int sA), .val (.int sB), .val (.int (1 : Int32)), .val (.int cn), .val (.int (1 : Int32)), .val (.ref b44), .val (.int ((p5 &&& (2147483647 : Int32)) % cn)), .val (.int ((p5 &&& (2147483647 : Int32)) % cn))] [(.int ((p5 &&& (2147483647 : Int32)) % cn)), (.int ((p5 &&& (2147483647 : Int32)) % cn))])) _
          refine XS.icmpNo X527.here hx rfl (hb hby at_148) rfl (teq hc148).2 ?_
          show Steps p.tables e below (T527.setTop (mkF m 151 #[.val (.int p0), .val (.int p1), .val (.int p2), .val (.int p3), .val (.int p4), .val (.int p5), .val (.int sA), .val (.int sB), .val (.int (1 : Int32)), .val (.int cn), .val (.int (1 : Int32)), .val (.ref b44), .val (.int ((p5 &&& (2147483647 : Int32)) % cn)), .val (.int ((p5 &&& (2147483647 : Int32)) % cn))] [])) _
          refine XS.aload X527.here hx rfl (hb hby at_151) rfl rfl ?_
          show Steps p.tables e below (T527.setTop (mkF m 153 #[.val (.int p0), .val (.int p1), .val (.int p2), .val (.int p3), .val (.int p4), .val (.int p5), .val (.int sA), .val (.int sB), .val (.int (1 : Int32)), .val (.int cn), .val (.int (1 : Int32)), .val (.ref b44), .val (.int ((p5 &&& (2147483647 : Int32)) % cn)), .val (.int ((p5 &&& (2147483647 : Int32)) % cn))] [(.ref b44)])) _
          refine XS.iload X527.here hx rfl (hb hby at_153) rfl ?_
          exact kont
        obtain ⟨cq532, kq532, q532a, q532b, q532c⟩ := isOf hZ e527 (H523).1
        obtain ⟨_, _, ⟨T532, L532, k532, n532⟩, -, X532, ⟨Lc532, hQ532, l532, y532, z532⟩, st532⟩ := X527.virtualBack hx (y := (⟨"com/example/impronta/impronta/engine/Alignments", "end", "(I)I"⟩ : MethodName)) (z := (⟨"com/example/impronta/impronta/engine/Alignments", "end", "(I)I"⟩ : MethodName)) hown (mvT hZ (hw _ (List.mem_of_getElem? (i := 53) rfl))) (mvT hZ (hw _ (List.mem_of_getElem? (i := 54) rfl))) (notFace_of_selects (args := #[]) (mvT hZ (hw _ (List.mem_of_getElem? (i := 56) rfl)))) (mvT hZ (hw _ (List.mem_of_getElem? (i := 56) rfl))) (mvT hZ (hw _ (List.mem_of_getElem? (i := 55) rfl))) (by decide) (backOf (W := 0) (rm8 l Z a0 hw [] b44 ((p5 &&& (2147483647 : Int32)) % cn) be503 ba bn bf p0 (1 : Int32) (-sA) (0 : Int32) ne503 (fun _ => (0 : Int32)) ga520 gn520 gf520 ((p5 &&& (2147483647 : Int32)) % cn).toNatClampNeg  T523.heap n0 Z523 H523 (own_i0 hix.1) rfl (fun q => absurd q (by decide)) (fun _ => own_natlt hix.1 (by omega))) hZ (hw _ (List.mem_of_getElem? (i := 57) rfl)) (hw _ (List.mem_of_getElem? (i := 2) rfl)) (by decide) (by decide)) q532a q532c (g := (mkF m 155 #[.val (.int p0), .val (.int p1), .val (.int p2), .val (.int p3), .val (.int p4), .val (.int p5), .val (.int sA), .val (.int sB), .val (.int (1 : Int32)), .val (.int cn), .val (.int (1 : Int32)), .val (.ref b44), .val (.int ((p5 &&& (2147483647 : Int32)) % cn)), .val (.int ((p5 &&& (2147483647 : Int32)) % cn))] [(.int ((p5 &&& (2147483647 : Int32)) % cn)), (.ref b44)])) rfl (by rw [hml]; rfl) (Steps.refl _) (argsL := [(.int ((p5 &&& (2147483647 : Int32)) % cn))]) (rest := []) (lenOf pd_2 rfl) rfl (by show 2 * 0 + _ ≤ _; exact Nat.le_of_eq rfl) (hb hby at_155) (fun _ _ => ⟨rfl, e527, (by decide : 6 + 0 ≤ _), (by decide : 80 + 0 ≤ _)⟩)
        dsimp only [Pt.U, Pt.locs, Pt.cells, Pt.slots] at X532 l532 y532 z532 st532 hQ532
        subst l532 y532 z532
        obtain ⟨rfl, N532q, e532⟩ := hQ532
        have N532 := Fr.app N527 N532q
        have pre533 : ∀ t, Steps p.tables e below (T532.setTop (mkF m 158 #[.val (.int p0), .val (.int p1), .val (.int p2), .val (.int p3), .val (.int p4), .val (.int p5), .val (.int sA), .val (.int sB), .val (.int (1 : Int32)), .val (.int cn), .val (.int (1 : Int32)), .val (.ref b44), .val (.int ((p5 &&& (2147483647 : Int32)) % cn)), .val (.int ((p5 &&& (2147483647 : Int32)) % cn))] [(.int (own_end (1 : Int32) (fun _ => (0 : Int32)) gn520 ((p5 &&& (2147483647 : Int32)) % cn).toNatClampNeg))])) t → Steps p.tables e below (s₁.setTop (entryFrame m #[(.int p0), (.int p1), (.int p2), (.int p3), (.int p4), (.int p5)] maxLocals)) t := fun t kont => pre531 t (st532.trans kont)
        have rq534 : (own_end (1 : Int32) (fun _ => (0 : Int32)) gn520 ((p5 &&& (2147483647 : Int32)) % cn).toNatClampNeg) = (0 : Int32) := own_end1 _ _ _
        rw [rq534] at pre533
        have pre535 : ∀ t, Steps p.tables e below (T532.setTop (mkF m 166 #[.val (.int p0), .val (.int p1), .val (.int p2), .val (.int p3), .val (.int p4), .val (.int p5), .val (.int sA), .val (.int sB), .val (.int (1 : Int32)), .val (.int cn), .val (.int (1 : Int32)), .val (.ref b44), .val (.int ((p5 &&& (2147483647 : Int32)) % cn)), .val (.int ((p5 &&& (2147483647 : Int32)) % cn))] [(.int (1 : Int32))])) t → Steps p.tables e below (s₁.setTop (entryFrame m #[(.int p0), (.int p1), (.int p2), (.int p3), (.int p4), (.int p5)] maxLocals)) t := by
          intro t kont
          refine pre533 t ?_
          show Steps p.tables e below (T532.setTop (mkF m 158 #[.val (.int p0), .val (.int p1), .val (.int p2), .val (.int p3), .val (.int p4), .val (.int p5), .val (.int sA), .val (.int sB), .val (.int (1 : Int32)), .val (.int cn), .val (.int (1 : Int32)), .val (.ref b44), .val (.int ((p5 &&& (2147483647 : Int32)) % cn)), .val (.int ((p5 &&& (2147483647 : Int32)) % cn))] [(.int (0 : Int32))])) _
          refine XS.ifNo X532.here hx rfl (hb hby at_158) rfl ((if0 _ _).trans (teq (by decide)).2) ?_
          show Steps p.tables e below (T532.setTop (mkF m 161 #[.val (.int p0), .val (.int p1), .val (.int p2), .val (.int p3), .val (.int p4), .val (.int p5), .val (.int sA), .val (.int sB), .val (.int (1 : Int32)), .val (.int cn), .val (.int (1 : Int32)), .val (.ref b44), .val (.int ((p5 &&& (2147483647 : Int32)) % cn)), .val (.int ((p5 &&& (2147483647 : Int32)) % cn))] [])) _
          refine XS.iconst X532.here hx rfl (hb hby at_161) ?_
          show Steps p.tables e below (T532.setTop (mkF m 162 #[.val (.int p0), .val (.int p1), .val (.int p2), .val (.int p3), .val (.int p4), .val (.int p5), .val (.int sA), .val (.int sB), .val (.int (1 : Int32)), .val (.int cn), .val (.int (1 : Int32)), .val (.ref b44), .val (.int ((p5 &&& (2147483647 : Int32)) % cn)), .val (.int ((p5 &&& (2147483647 : Int32)) % cn))] [(.int (1 : Int32))])) _
          refine XS.goto X532.here hx rfl (pc0 := 162) (pc' := 166) rfl (hb hby at_162) (by decide) (by decide) ?_
          exact kont
        obtain ⟨fs, hr, hrun, hended, hW, hsame⟩ := X532.leave (v := some (.int (1 : Int32))) (fun h => by rw [Bd.returns] at h; cases h)
        refine ⟨_, _, pre535 _ ?_, hrun, hended, _, _, rfl, ?_, ⟨_, rfl⟩, hW, hsame.mono (by decide) (by decide)⟩
        · exact retN X532 hx (t := .boolean) Bd.returns (by simp) (hb hby at_166) hr
        · show Q0 Z p0 p1 p2 p3 p4 p5 h0 n0 _ T532.heap _
          rw [e532]
          exact ⟨rfl, N532⟩
      · exfalso
        first | exact hc158 rfl | exact hc148 rfl
    · rw [hn4] at pre504
      have pre536 : ∀ t, Steps p.tables e below (T503.setTop (mkF m 76 #[.val (.int p0), .val (.int p1), .val (.int p2), .val (.int p3), .val (.int p4), .val (.int p5), .val (.int sA), .val (.int sB), .val (.int (2 : Int32)), .val (.int cn), .val (.int (1 : Int32)), .val (.ref b44), .unset, .unset] [(.int p2), (.int cn), (.int sA), (.ref b44)])) t → Steps p.tables e below (s₁.setTop (entryFrame m #[(.int p0), (.int p1), (.int p2), (.int p3), (.int p4), (.int p5)] maxLocals)) t := by
        intro t kont
        refine pre504 t ?_
        show Steps p.tables e below (T503.setTop (mkF m 63 #[.val (.int p0), .val (.int p1), .val (.int p2), .val (.int p3), .val (.int p4), .val (.int p5), .val (.int sA), .val (.int sB), .val (.int (2 : Int32)), .val (.int cn), .val (.int (1 : Int32)), .val (.ref b44), .unset, .unset] [])) _
        refine XS.iload X503.here hx rfl (hb hby at_63) rfl ?_
        show Steps p.tables e below (T503.setTop (mkF m 65 #[.val (.int p0), .val (.int p1), .val (.int p2), .val (.int p3), .val (.int p4), .val (.int p5), .val (.int sA), .val (.int sB), .val (.int (2 : Int32)), .val (.int cn), .val (.int (1 : Int32)), .val (.ref b44), .unset, .unset] [(.int (2 : Int32))])) _
        refine XS.iconst X503.here hx rfl (hb hby at_65) ?_
        show Steps p.tables e below (T503.setTop (mkF m 66 #[.val (.int p0), .val (.int p1), .val (.int p2), .val (.int p3), .val (.int p4), .val (.int p5), .val (.int sA), .val (.int sB), .val (.int (2 : Int32)), .val (.int cn), .val (.int (1 : Int32)), .val (.ref b44), .unset, .unset] [(.int (1 : Int32)), (.int (2 : Int32))])) _
        refine XS.icmpNo X503.here hx rfl (hb hby at_66) rfl (flt (by decide)).1 ?_
        show Steps p.tables e below (T503.setTop (mkF m 69 #[.val (.int p0), .val (.int p1), .val (.int p2), .val (.int p3), .val (.int p4), .val (.int p5), .val (.int sA), .val (.int sB), .val (.int (2 : Int32)), .val (.int cn), .val (.int (1 : Int32)), .val (.ref b44), .unset, .unset] [])) _
        refine XS.aload X503.here hx rfl (hb hby at_69) rfl rfl ?_
        show Steps p.tables e below (T503.setTop (mkF m 71 #[.val (.int p0), .val (.int p1), .val (.int p2), .val (.int p3), .val (.int p4), .val (.int p5), .val (.int sA), .val (.int sB), .val (.int (2 : Int32)), .val (.int cn), .val (.int (1 : Int32)), .val (.ref b44), .unset, .unset] [(.ref b44)])) _
        refine XS.iload X503.here hx rfl (hb hby at_71) rfl ?_
        show Steps p.tables e below (T503.setTop (mkF m 73 #[.val (.int p0), .val (.int p1), .val (.int p2), .val (.int p3), .val (.int p4), .val (.int p5), .val (.int sA), .val (.int sB), .val (.int (2 : Int32)), .val (.int cn), .val (.int (1 : Int32)), .val (.ref b44), .unset, .unset] [(.int sA), (.ref b44)])) _
        refine XS.iload X503.here hx rfl (hb hby at_73) rfl ?_
        show Steps p.tables e below (T503.setTop (mkF m 75 #[.val (.int p0), .val (.int p1), .val (.int p2), .val (.int p3), .val (.int p4), .val (.int p5), .val (.int sA), .val (.int sB), .val (.int (2 : Int32)), .val (.int cn), .val (.int (1 : Int32)), .val (.ref b44), .unset, .unset] [(.int cn), (.int sA), (.ref b44)])) _
        refine XS.iloadN X503.here hx rfl (hb hby at_75) rfl ?_
        exact kont
      obtain ⟨_, _, ⟨T537, L537, k537, n537⟩, -, X537, ⟨Lc537, hQ537, l537, y537, z537⟩, st537⟩ := Jvm.LawKit.callS X503 hx (y := (⟨"com/example/impronta/impronta/engine/AlignmentsClearPinLaw", "putOne", "(Lcom/example/impronta/impronta/engine/Alignments;III)V"⟩ : MethodName)) hown (mvT hZ (hw _ (List.mem_of_getElem? (i := 59) rfl))) (mvT hZ (hw _ (List.mem_of_getElem? (i := 60) rfl))) (mvT hZ (hw _ (List.mem_of_getElem? (i := 61) rfl))) (mvT hZ (hw _ (List.mem_of_getElem? (i := 62) rfl))) (by decide) (backOf (W := 0) (rm9a l Z a0 hw [] b44 sA cn p2 be503 ba bn bf p0 (0 : Int32) ne503 (fun _ => (0 : Int32)) (fun _ => (-2147483648 : Int32)) (fun _ => (0 : Int32)) (fun _ => (0 : Int32)) 0  T503.heap n0 Z503 H503 hI0 (by decide) (by decide) (by decide) hcc) hZ (hw _ (List.mem_of_getElem? (i := 62) rfl)) (hw _ (List.mem_of_getElem? (i := 61) rfl)) (by decide) (by decide)) (g := (mkF m 76 #[.val (.int p0), .val (.int p1), .val (.int p2), .val (.int p3), .val (.int p4), .val (.int p5), .val (.int sA), .val (.int sB), .val (.int (2 : Int32)), .val (.int cn), .val (.int (1 : Int32)), .val (.ref b44), .unset, .unset] [(.int p2), (.int cn), (.int sA), (.ref b44)])) rfl (by rw [hml]; rfl) (argsL := [(.ref b44), (.int sA), (.int cn), (.int p2)]) (rest := []) (lenOf pd_7 rfl) rfl (by show 2 * 0 + _ ≤ _; exact Nat.le_of_eq rfl) (hb hby at_76) (fun _ _ => ⟨rfl, rfl, (by decide : 6 + 0 ≤ _), (by decide : 80 + 0 ≤ _)⟩)
      dsimp only [Pt.U, Pt.locs, Pt.cells, Pt.slots] at X537 l537 y537 z537 st537 hQ537
      subst l537 y537 z537
      obtain ⟨rfl, N537q, Z537, sz537, zn537, ge537, ga537, gn537, gf537, ww537, hz0537, hzn537, hI537, H537⟩ := hQ537
      have N537 := Fr.app N503 N537q
      have pre538 : ∀ t, Steps p.tables e below (T537.setTop (mkF m 79 #[.val (.int p0), .val (.int p1), .val (.int p2), .val (.int p3), .val (.int p4), .val (.int p5), .val (.int sA), .val (.int sB), .val (.int (2 : Int32)), .val (.int cn), .val (.int (1 : Int32)), .val (.ref b44), .unset, .unset] [])) t → Steps p.tables e below (s₁.setTop (entryFrame m #[(.int p0), (.int p1), (.int p2), (.int p3), (.int p4), (.int p5)] maxLocals)) t := fun t kont => pre536 t (st537 _ kont)
      have pre539 : ∀ t, Steps p.tables e below (T537.setTop (mkF m 92 #[.val (.int p0), .val (.int p1), .val (.int p2), .val (.int p3), .val (.int p4), .val (.int p5), .val (.int sA), .val (.int sB), .val (.int (2 : Int32)), .val (.int cn), .val (.int (1 : Int32)), .val (.ref b44), .unset, .unset] [(.int p3), (.int cn), (.int sA), (.ref b44)])) t → Steps p.tables e below (s₁.setTop (entryFrame m #[(.int p0), (.int p1), (.int p2), (.int p3), (.int p4), (.int p5)] maxLocals)) t := by
        intro t kont
        refine pre538 t ?_
        show Steps p.tables e below (T537.setTop (mkF m 79 #[.val (.int p0), .val (.int p1), .val (.int p2), .val (.int p3), .val (.int p4), .val (.int p5), .val (.int sA), .val (.int sB), .val (.int (2 : Int32)), .val (.int cn), .val (.int (1 : Int32)), .val (.ref b44), .unset, .unset] [])) _
        refine XS.iload X537.here hx rfl (hb hby at_79) rfl ?_
        show Steps p.tables e below (T537.setTop (mkF m 81 #[.val (.int p0), .val (.int p1), .val (.int p2), .val (.int p3), .val (.int p4), .val (.int p5), .val (.int sA), .val (.int sB), .val (.int (2 : Int32)), .val (.int cn), .val (.int (1 : Int32)), .val (.ref b44), .unset, .unset] [(.int (2 : Int32))])) _
        refine XS.iconst X537.here hx rfl (hb hby at_81) ?_
        show Steps p.tables e below (T537.setTop (mkF m 82 #[.val (.int p0), .val (.int p1), .val (.int p2), .val (.int p3), .val (.int p4), .val (.int p5), .val (.int sA), .val (.int sB), .val (.int (2 : Int32)), .val (.int cn), .val (.int (1 : Int32)), .val (.ref b44), .unset, .unset] [(.int (2 : Int32)), (.int (2 : Int32))])) _
        refine XS.icmpNo X537.here hx rfl (hb hby at_82) rfl (flt (by decide)).1 ?_
        show Steps p.tables e below (T537.setTop (mkF m 85 #[.val (.int p0), .val (.int p1), .val (.int p2), .val (.int p3), .val (.int p4), .val (.int p5), .val (.int sA), .val (.int sB), .val (.int (2 : Int32)), .val (.int cn), .val (.int (1 : Int32)), .val (.ref b44), .unset, .unset] [])) _
        refine XS.aload X537.here hx rfl (hb hby at_85) rfl rfl ?_
        show Steps p.tables e below (T537.setTop (mkF m 87 #[.val (.int p0), .val (.int p1), .val (.int p2), .val (.int p3), .val (.int p4), .val (.int p5), .val (.int sA), .val (.int sB), .val (.int (2 : Int32)), .val (.int cn), .val (.int (1 : Int32)), .val (.ref b44), .unset, .unset] [(.ref b44)])) _
        refine XS.iload X537.here hx rfl (hb hby at_87) rfl ?_
        show Steps p.tables e below (T537.setTop (mkF m 89 #[.val (.int p0), .val (.int p1), .val (.int p2), .val (.int p3), .val (.int p4), .val (.int p5), .val (.int sA), .val (.int sB), .val (.int (2 : Int32)), .val (.int cn), .val (.int (1 : Int32)), .val (.ref b44), .unset, .unset] [(.int sA), (.ref b44)])) _
        refine XS.iload X537.here hx rfl (hb hby at_89) rfl ?_
        show Steps p.tables e below (T537.setTop (mkF m 91 #[.val (.int p0), .val (.int p1), .val (.int p2), .val (.int p3), .val (.int p4), .val (.int p5), .val (.int sA), .val (.int sB), .val (.int (2 : Int32)), .val (.int cn), .val (.int (1 : Int32)), .val (.ref b44), .unset, .unset] [(.int cn), (.int sA), (.ref b44)])) _
        refine XS.iloadN X537.here hx rfl (hb hby at_91) rfl ?_
        exact kont
      obtain ⟨_, _, ⟨T540, L540, k540, n540⟩, -, X540, ⟨Lc540, hQ540, l540, y540, z540⟩, st540⟩ := Jvm.LawKit.callS X537 hx (y := (⟨"com/example/impronta/impronta/engine/AlignmentsClearPinLaw", "putOne", "(Lcom/example/impronta/impronta/engine/Alignments;III)V"⟩ : MethodName)) hown (mvT hZ (hw _ (List.mem_of_getElem? (i := 59) rfl))) (mvT hZ (hw _ (List.mem_of_getElem? (i := 60) rfl))) (mvT hZ (hw _ (List.mem_of_getElem? (i := 61) rfl))) (mvT hZ (hw _ (List.mem_of_getElem? (i := 62) rfl))) (by decide) (backOf (W := 0) (rm9a l Z a0 hw [] b44 sA cn p3 be503 ba bn bf p0 sz537 ne503 ge537 ga537 gn537 gf537 zn537  T537.heap n0 Z537 H537 hI537 hz0537 hzn537 (by omega) hcc) hZ (hw _ (List.mem_of_getElem? (i := 62) rfl)) (hw _ (List.mem_of_getElem? (i := 61) rfl)) (by decide) (by decide)) (g := (mkF m 92 #[.val (.int p0), .val (.int p1), .val (.int p2), .val (.int p3), .val (.int p4), .val (.int p5), .val (.int sA), .val (.int sB), .val (.int (2 : Int32)), .val (.int cn), .val (.int (1 : Int32)), .val (.ref b44), .unset, .unset] [(.int p3), (.int cn), (.int sA), (.ref b44)])) rfl (by rw [hml]; rfl) (argsL := [(.ref b44), (.int sA), (.int cn), (.int p3)]) (rest := []) (lenOf pd_7 rfl) rfl (by show 2 * 0 + _ ≤ _; exact Nat.le_of_eq rfl) (hb hby at_92) (fun _ _ => ⟨rfl, rfl, (by decide : 6 + 0 ≤ _), (by decide : 80 + 0 ≤ _)⟩)
      dsimp only [Pt.U, Pt.locs, Pt.cells, Pt.slots] at X540 l540 y540 z540 st540 hQ540
      subst l540 y540 z540
      obtain ⟨rfl, N540q, Z540, sz540, zn540, ge540, ga540, gn540, gf540, ww540, hz0540, hzn540, hI540, H540⟩ := hQ540
      have N540 := Fr.app N537 N540q
      have pre541 : ∀ t, Steps p.tables e below (T540.setTop (mkF m 95 #[.val (.int p0), .val (.int p1), .val (.int p2), .val (.int p3), .val (.int p4), .val (.int p5), .val (.int sA), .val (.int sB), .val (.int (2 : Int32)), .val (.int cn), .val (.int (1 : Int32)), .val (.ref b44), .unset, .unset] [])) t → Steps p.tables e below (s₁.setTop (entryFrame m #[(.int p0), (.int p1), (.int p2), (.int p3), (.int p4), (.int p5)] maxLocals)) t := fun t kont => pre539 t (st540 _ kont)
      have pre542 : ∀ t, Steps p.tables e below (T540.setTop (mkF m 114 #[.val (.int p0), .val (.int p1), .val (.int p2), .val (.int p3), .val (.int p4), .val (.int p5), .val (.int sA), .val (.int sB), .val (.int (2 : Int32)), .val (.int cn), .val (.int (1 : Int32)), .val (.ref b44), .unset, .unset] [(.ref b44)])) t → Steps p.tables e below (s₁.setTop (entryFrame m #[(.int p0), (.int p1), (.int p2), (.int p3), (.int p4), (.int p5)] maxLocals)) t := by
        intro t kont
        refine pre541 t ?_
        show Steps p.tables e below (T540.setTop (mkF m 95 #[.val (.int p0), .val (.int p1), .val (.int p2), .val (.int p3), .val (.int p4), .val (.int p5), .val (.int sA), .val (.int sB), .val (.int (2 : Int32)), .val (.int cn), .val (.int (1 : Int32)), .val (.ref b44), .unset, .unset] [])) _
        refine XS.iload X540.here hx rfl (hb hby at_95) rfl ?_
        show Steps p.tables e below (T540.setTop (mkF m 97 #[.val (.int p0), .val (.int p1), .val (.int p2), .val (.int p3), .val (.int p4), .val (.int p5), .val (.int sA), .val (.int sB), .val (.int (2 : Int32)), .val (.int cn), .val (.int (1 : Int32)), .val (.ref b44), .unset, .unset] [(.int (2 : Int32))])) _
        refine XS.iconst X540.here hx rfl (hb hby at_97) ?_
        show Steps p.tables e below (T540.setTop (mkF m 98 #[.val (.int p0), .val (.int p1), .val (.int p2), .val (.int p3), .val (.int p4), .val (.int p5), .val (.int sA), .val (.int sB), .val (.int (2 : Int32)), .val (.int cn), .val (.int (1 : Int32)), .val (.ref b44), .unset, .unset] [(.int (3 : Int32)), (.int (2 : Int32))])) _
        refine XS.icmpYes X540.here hx rfl (pc0 := 98) (pc' := 112) rfl (hb hby at_98) rfl (tlt (by decide)).1 (by decide) (by decide) ?_
        show Steps p.tables e below (T540.setTop (mkF m 112 #[.val (.int p0), .val (.int p1), .val (.int p2), .val (.int p3), .val (.int p4), .val (.int p5), .val (.int sA), .val (.int sB), .val (.int (2 : Int32)), .val (.int cn), .val (.int (1 : Int32)), .val (.ref b44), .unset, .unset] [])) _
        refine XS.aload X540.here hx rfl (hb hby at_112) rfl rfl ?_
        exact kont
      obtain ⟨cq543, kq543, q543a, q543b, q543c⟩ := isOf hZ rfl (H540).1
      obtain ⟨_, _, ⟨T543, L543, k543, n543⟩, -, X543, ⟨Lc543, hQ543, l543, y543, z543⟩, st543⟩ := X540.virtualBack hx (y := (⟨"com/example/impronta/impronta/engine/Alignments", "clear", "()V"⟩ : MethodName)) (z := (⟨"com/example/impronta/impronta/engine/Alignments", "clear", "()V"⟩ : MethodName)) hown (mvT hZ (hw _ (List.mem_of_getElem? (i := 39) rfl))) (mvT hZ (hw _ (List.mem_of_getElem? (i := 40) rfl))) (notFace_of_selects (args := #[]) (mvT hZ (hw _ (List.mem_of_getElem? (i := 42) rfl)))) (mvT hZ (hw _ (List.mem_of_getElem? (i := 42) rfl))) (mvT hZ (hw _ (List.mem_of_getElem? (i := 41) rfl))) (by decide) (backOf (W := 0) (rm6a l Z a0 hw [] b44 be503 ba bn bf p0 (-sA) sz540 ne503 ge540 ga540 gn540 gf540 zn540  T540.heap n0 Z540 H540 hI540 hzn540 (by omega)) hZ (hw _ (List.mem_of_getElem? (i := 43) rfl)) (hw _ (List.mem_of_getElem? (i := 2) rfl)) (by decide) (by decide)) q543a q543c (g := (mkF m 114 #[.val (.int p0), .val (.int p1), .val (.int p2), .val (.int p3), .val (.int p4), .val (.int p5), .val (.int sA), .val (.int sB), .val (.int (2 : Int32)), .val (.int cn), .val (.int (1 : Int32)), .val (.ref b44), .unset, .unset] [(.ref b44)])) rfl (by rw [hml]; rfl) (Steps.refl _) (argsL := []) (rest := []) (lenOf pd_6 rfl) rfl (by show 2 * 0 + _ ≤ _; exact Nat.le_of_eq rfl) (hb hby at_114) (fun _ _ => ⟨rfl, rfl, (by decide : 6 + 0 ≤ _), (by decide : 80 + 0 ≤ _)⟩)
      dsimp only [Pt.U, Pt.locs, Pt.cells, Pt.slots] at X543 l543 y543 z543 st543 hQ543
      subst l543 y543 z543
      obtain ⟨rfl, N543q, Z543, H543⟩ := hQ543
      have N543 := Fr.app N540 N543q
      have pre544 : ∀ t, Steps p.tables e below (T543.setTop (mkF m 117 #[.val (.int p0), .val (.int p1), .val (.int p2), .val (.int p3), .val (.int p4), .val (.int p5), .val (.int sA), .val (.int sB), .val (.int (2 : Int32)), .val (.int cn), .val (.int (1 : Int32)), .val (.ref b44), .unset, .unset] [])) t → Steps p.tables e below (s₁.setTop (entryFrame m #[(.int p0), (.int p1), (.int p2), (.int p3), (.int p4), (.int p5)] maxLocals)) t := fun t kont => pre542 t (st543.trans kont)
      have pre545 : ∀ t, Steps p.tables e below (T543.setTop (mkF m 132 #[.val (.int p0), .val (.int p1), .val (.int p2), .val (.int p3), .val (.int p4), .val (.int p5), .val (.int sA), .val (.int sB), .val (.int (2 : Int32)), .val (.int cn), .val (.int (1 : Int32)), .val (.ref b44), .val (.int ((p5 &&& (2147483647 : Int32)) % cn)), .unset] [])) t → Steps p.tables e below (s₁.setTop (entryFrame m #[(.int p0), (.int p1), (.int p2), (.int p3), (.int p4), (.int p5)] maxLocals)) t := by
        intro t kont
        refine pre544 t ?_
        show Steps p.tables e below (T543.setTop (mkF m 117 #[.val (.int p0), .val (.int p1), .val (.int p2), .val (.int p3), .val (.int p4), .val (.int p5), .val (.int sA), .val (.int sB), .val (.int (2 : Int32)), .val (.int cn), .val (.int (1 : Int32)), .val (.ref b44), .unset, .unset] [])) _
        refine XS.iload X543.here hx rfl (hb hby at_117) rfl ?_
        show Steps p.tables e below (T543.setTop (mkF m 119 #[.val (.int p0), .val (.int p1), .val (.int p2), .val (.int p3), .val (.int p4), .val (.int p5), .val (.int sA), .val (.int sB), .val (.int (2 : Int32)), .val (.int cn), .val (.int (1 : Int32)), .val (.ref b44), .unset, .unset] [(.int (1 : Int32))])) _
        refine XS.ifNo X543.here hx rfl (hb hby at_119) rfl ((if0 _ _).trans (feq (by decide)).1) ?_
        show Steps p.tables e below (T543.setTop (mkF m 122 #[.val (.int p0), .val (.int p1), .val (.int p2), .val (.int p3), .val (.int p4), .val (.int p5), .val (.int sA), .val (.int sB), .val (.int (2 : Int32)), .val (.int cn), .val (.int (1 : Int32)), .val (.ref b44), .unset, .unset] [])) _
        refine XS.iload X543.here hx rfl (hb hby at_122) rfl ?_
        show Steps p.tables e below (T543.setTop (mkF m 124 #[.val (.int p0), .val (.int p1), .val (.int p2), .val (.int p3), .val (.int p4), .val (.int p5), .val (.int sA), .val (.int sB), .val (.int (2 : Int32)), .val (.int cn), .val (.int (1 : Int32)), .val (.ref b44), .unset, .unset] [(.int p5)])) _
        refine X543.ldcInt hx hown (mvT hZ (hw _ (List.mem_of_getElem? (i := 58) rfl))) (g := (mkF m 124 #[.val (.int p0), .val (.int p1), .val (.int p2), .val (.int p3), .val (.int p4), .val (.int p5), .val (.int sA), .val (.int sB), .val (.int (2 : Int32)), .val (.int cn), .val (.int (1 : Int32)), .val (.ref b44), .unset, .unset] [(.int p5)])) rfl (hb hby at_124) _ ?_
        show Steps p.tables e below (T543.setTop (mkF m 126 #[.val (.int p0), .val (.int p1), .val (.int p2), .val (.int p3), .val (.int p4), .val (.int p5), .val (.int sA), .val (.int sB), .val (.int (2 : Int32)), .val (.int cn), .val (.int (1 : Int32)), .val (.ref b44), .unset, .unset] [(.int (2147483647 : Int32)), (.int p5)])) _
        refine XS.iand X543.here hx rfl (hb hby at_126) rfl ?_
        show Steps p.tables e below (T543.setTop (mkF m 127 #[.val (.int p0), .val (.int p1), .val (.int p2), .val (.int p3), .val (.int p4), .val (.int p5), .val (.int sA), .val (.int sB), .val (.int (2 : Int32)), .val (.int cn), .val (.int (1 : Int32)), .val (.ref b44), .unset, .unset] [(.int (p5 &&& (2147483647 : Int32)))])) _
        refine XS.iload X543.here hx rfl (hb hby at_127) rfl ?_
        show Steps p.tables e below (T543.setTop (mkF m 129 #[.val (.int p0), .val (.int p1), .val (.int p2), .val (.int p3), .val (.int p4), .val (.int p5), .val (.int sA), .val (.int sB), .val (.int (2 : Int32)), .val (.int cn), .val (.int (1 : Int32)), .val (.ref b44), .unset, .unset] [(.int cn), (.int (p5 &&& (2147483647 : Int32)))])) _
        refine iremM X543 hx rfl (hb hby at_129) rfl (own_cz hcc.1) ?_
        show Steps p.tables e below (T543.setTop (mkF m 130 #[.val (.int p0), .val (.int p1), .val (.int p2), .val (.int p3), .val (.int p4), .val (.int p5), .val (.int sA), .val (.int sB), .val (.int (2 : Int32)), .val (.int cn), .val (.int (1 : Int32)), .val (.ref b44), .unset, .unset] [(.int ((p5 &&& (2147483647 : Int32)) % cn))])) _
        refine XS.istore X543.here hx rfl (hb hby at_130) rfl (l' := #[.val (.int p0), .val (.int p1), .val (.int p2), .val (.int p3), .val (.int p4), .val (.int p5), .val (.int sA), .val (.int sB), .val (.int (2 : Int32)), .val (.int cn), .val (.int (1 : Int32)), .val (.ref b44), .val (.int ((p5 &&& (2147483647 : Int32)) % cn)), .unset]) rfl ?_
        exact kont
      have hix := own_mod2 p5 hcc.1
      have pre546 : ∀ t, Steps p.tables e below (T543.setTop (mkF m 139 #[.val (.int p0), .val (.int p1), .val (.int p2), .val (.int p3), .val (.int p4), .val (.int p5), .val (.int sA), .val (.int sB), .val (.int (2 : Int32)), .val (.int cn), .val (.int (1 : Int32)), .val (.ref b44), .val (.int ((p5 &&& (2147483647 : Int32)) % cn)), .unset] [(.int (((p5 &&& (2147483647 : Int32)) % cn) - sA)), (.ref b44)])) t → Steps p.tables e below (s₁.setTop (entryFrame m #[(.int p0), (.int p1), (.int p2), (.int p3), (.int p4), (.int p5)] maxLocals)) t := by
        intro t kont
        refine pre545 t ?_
        show Steps p.tables e below (T543.setTop (mkF m 132 #[.val (.int p0), .val (.int p1), .val (.int p2), .val (.int p3), .val (.int p4), .val (.int p5), .val (.int sA), .val (.int sB), .val (.int (2 : Int32)), .val (.int cn), .val (.int (1 : Int32)), .val (.ref b44), .val (.int ((p5 &&& (2147483647 : Int32)) % cn)), .unset] [])) _
        refine XS.aload X543.here hx rfl (hb hby at_132) rfl rfl ?_
        show Steps p.tables e below (T543.setTop (mkF m 134 #[.val (.int p0), .val (.int p1), .val (.int p2), .val (.int p3), .val (.int p4), .val (.int p5), .val (.int sA), .val (.int sB), .val (.int (2 : Int32)), .val (.int cn), .val (.int (1 : Int32)), .val (.ref b44), .val (.int ((p5 &&& (2147483647 : Int32)) % cn)), .unset] [(.ref b44)])) _
        refine XS.iload X543.here hx rfl (hb hby at_134) rfl ?_
        show Steps p.tables e below (T543.setTop (mkF m 136 #[.val (.int p0), .val (.int p1), .val (.int p2), .val (.int p3), .val (.int p4), .val (.int p5), .val (.int sA), .val (.int sB), .val (.int (2 : Int32)), .val (.int cn), .val (.int (1 : Int32)), .val (.ref b44), .val (.int ((p5 &&& (2147483647 : Int32)) % cn)), .unset] [(.int ((p5 &&& (2147483647 : Int32)) % cn)), (.ref b44)])) _
        refine XS.iload X543.here hx rfl (hb hby at_136) rfl ?_
        show Steps p.tables e below (T543.setTop (mkF m 138 #[.val (.int p0), .val (.int p1), .val (.int p2), .val (.int p3), .val (.int p4), .val (.int p5), .val (.int sA), .val (.int sB), .val (.int (2 : Int32)), .val (.int cn), .val (.int (1 : Int32)), .val (.ref b44), .val (.int ((p5 &&& (2147483647 : Int32)) % cn)), .unset] [(.int sA), (.int ((p5 &&& (2147483647 : Int32)) % cn)), (.ref b44)])) _
        refine XS.isub X543.here hx rfl (hb hby at_138) rfl ?_
        exact kont
      obtain ⟨cq547, kq547, q547a, q547b, q547c⟩ := isOf hZ rfl (H543).1
      obtain ⟨_, _, ⟨T547, L547, k547, n547⟩, -, X547, ⟨Lc547, hQ547, l547, y547, z547⟩, st547⟩ := X543.virtualBack hx (y := (⟨"com/example/impronta/impronta/engine/Alignments", "slot", "(I)I"⟩ : MethodName)) (z := (⟨"com/example/impronta/impronta/engine/Alignments", "slot", "(I)I"⟩ : MethodName)) hown (mvT hZ (hw _ (List.mem_of_getElem? (i := 46) rfl))) (mvT hZ (hw _ (List.mem_of_getElem? (i := 47) rfl))) (notFace_of_selects (args := #[]) (mvT hZ (hw _ (List.mem_of_getElem? (i := 49) rfl)))) (mvT hZ (hw _ (List.mem_of_getElem? (i := 49) rfl))) (mvT hZ (hw _ (List.mem_of_getElem? (i := 48) rfl))) (by decide) (backOf (W := 0) (rm7 l Z a0 hw [] b44 (((p5 &&& (2147483647 : Int32)) % cn) - sA) be503 ba bn bf p0 (1 : Int32) (-sA) (0 : Int32) ne503 (fun _ => (0 : Int32)) ga540 gn540 gf540  T543.heap n0 Z543 H543 (fun q => absurd q (by decide))) hZ (hw _ (List.mem_of_getElem? (i := 50) rfl)) (hw _ (List.mem_of_getElem? (i := 2) rfl)) (by decide) (by decide)) q547a q547c (g := (mkF m 139 #[.val (.int p0), .val (.int p1), .val (.int p2), .val (.int p3), .val (.int p4), .val (.int p5), .val (.int sA), .val (.int sB), .val (.int (2 : Int32)), .val (.int cn), .val (.int (1 : Int32)), .val (.ref b44), .val (.int ((p5 &&& (2147483647 : Int32)) % cn)), .unset] [(.int (((p5 &&& (2147483647 : Int32)) % cn) - sA)), (.ref b44)])) rfl (by rw [hml]; rfl) (Steps.refl _) (argsL := [(.int (((p5 &&& (2147483647 : Int32)) % cn) - sA))]) (rest := []) (lenOf pd_2 rfl) rfl (by show 2 * 0 + _ ≤ _; exact Nat.le_of_eq rfl) (hb hby at_139) (fun _ _ => ⟨rfl, rfl, (by decide : 6 + 0 ≤ _), (by decide : 80 + 0 ≤ _)⟩)
      dsimp only [Pt.U, Pt.locs, Pt.cells, Pt.slots] at X547 l547 y547 z547 st547 hQ547
      subst l547 y547 z547
      obtain ⟨rfl, N547q, e547⟩ := hQ547
      have N547 := Fr.app N543 N547q
      have pre548 : ∀ t, Steps p.tables e below (T547.setTop (mkF m 142 #[.val (.int p0), .val (.int p1), .val (.int p2), .val (.int p3), .val (.int p4), .val (.int p5), .val (.int sA), .val (.int sB), .val (.int (2 : Int32)), .val (.int cn), .val (.int (1 : Int32)), .val (.ref b44), .val (.int ((p5 &&& (2147483647 : Int32)) % cn)), .unset] [(.int (own_slot (1 : Int32) (-sA) ga540 (((p5 &&& (2147483647 : Int32)) % cn) - sA)))])) t → Steps p.tables e below (s₁.setTop (entryFrame m #[(.int p0), (.int p1), (.int p2), (.int p3), (.int p4), (.int p5)] maxLocals)) t := fun t kont => pre546 t (st547.trans kont)
      have rq549 : (own_slot (1 : Int32) (-sA) ga540 (((p5 &&& (2147483647 : Int32)) % cn) - sA)) = ((p5 &&& (2147483647 : Int32)) % cn) := own_sA _ _ _
      rw [rq549] at pre548
      have pre550 : ∀ t, Steps p.tables e below (T547.setTop (mkF m 148 #[.val (.int p0), .val (.int p1), .val (.int p2), .val (.int p3), .val (.int p4), .val (.int p5), .val (.int sA), .val (.int sB), .val (.int (2 : Int32)), .val (.int cn), .val (.int (1 : Int32)), .val (.ref b44), .val (.int ((p5 &&& (2147483647 : Int32)) % cn)), .val (.int ((p5 &&& (2147483647 : Int32)) % cn))] [(.int ((p5 &&& (2147483647 : Int32)) % cn)), (.int ((p5 &&& (2147483647 : Int32)) % cn))])) t → Steps p.tables e below (s₁.setTop (entryFrame m #[(.int p0), (.int p1), (.int p2), (.int p3), (.int p4), (.int p5)] maxLocals)) t := by
        intro t kont
        refine pre548 t ?_
        show Steps p.tables e below (T547.setTop (mkF m 142 #[.val (.int p0), .val (.int p1), .val (.int p2), .val (.int p3), .val (.int p4), .val (.int p5), .val (.int sA), .val (.int sB), .val (.int (2 : Int32)), .val (.int cn), .val (.int (1 : Int32)), .val (.ref b44), .val (.int ((p5 &&& (2147483647 : Int32)) % cn)), .unset] [(.int ((p5 &&& (2147483647 : Int32)) % cn))])) _
        refine XS.istore X547.here hx rfl (hb hby at_142) rfl (l' := #[.val (.int p0), .val (.int p1), .val (.int p2), .val (.int p3), .val (.int p4), .val (.int p5), .val (.int sA), .val (.int sB), .val (.int (2 : Int32)), .val (.int cn), .val (.int (1 : Int32)), .val (.ref b44), .val (.int ((p5 &&& (2147483647 : Int32)) % cn)), .val (.int ((p5 &&& (2147483647 : Int32)) % cn))]) rfl ?_
        show Steps p.tables e below (T547.setTop (mkF m 144 #[.val (.int p0), .val (.int p1), .val (.int p2), .val (.int p3), .val (.int p4), .val (.int p5), .val (.int sA), .val (.int sB), .val (.int (2 : Int32)), .val (.int cn), .val (.int (1 : Int32)), .val (.ref b44), .val (.int ((p5 &&& (2147483647 : Int32)) % cn)), .val (.int ((p5 &&& (2147483647 : Int32)) % cn))] [])) _
        refine XS.iload X547.here hx rfl (hb hby at_144) rfl ?_
        show Steps p.tables e below (T547.setTop (mkF m 146 #[.val (.int p0), .val (.int p1), .val (.int p2), .val (.int p3), .val (.int p4), .val (.int p5), .val (.int sA), .val (.int sB), .val (.int (2 : Int32)), .val (.int cn), .val (.int (1 : Int32)), .val (.ref b44), .val (.int ((p5 &&& (2147483647 : Int32)) % cn)), .val (.int ((p5 &&& (2147483647 : Int32)) % cn))] [(.int ((p5 &&& (2147483647 : Int32)) % cn))])) _
        refine XS.iload X547.here hx rfl (hb hby at_146) rfl ?_
        exact kont
      by_cases hc148 : ((p5 &&& (2147483647 : Int32)) % cn) = ((p5 &&& (2147483647 : Int32)) % cn)
      · have pre551 : ∀ t, Steps p.tables e below (T547.setTop (mkF m 155 #[.val (.int p0), .val (.int p1), .val (.int p2), .val (.int p3), .val (.int p4), .val (.int p5), .val (.int sA), .val (.int sB), .val (.int (2 : Int32)), .val (.int cn), .val (.int (1 : Int32)), .val (.ref b44), .val (.int ((p5 &&& (2147483647 : Int32)) % cn)), .val (.int ((p5 &&& (2147483647 : Int32)) % cn))] [(.int ((p5 &&& (2147483647 : Int32)) % cn)), (.ref b44)])) t → Steps p.tables e below (s₁.setTop (entryFrame m #[(.int p0), (.int p1), (.int p2), (.int p3), (.int p4), (.int p5)] maxLocals)) t := by
          intro t kont
          refine pre550 t ?_
          show Steps p.tables e below (T547.setTop (mkF m 148 #[.val (.int p0), .val (.int p1), .val (.int p2), .val (.int p3), .val (.int p4), .val (.int p5), .val (.int sA), .val (.int sB), .val (.int (2 : Int32)), .val (.int cn), .val (.int (1 : Int32)), .val (.ref b44), .val (.int ((p5 &&& (2147483647 : Int32)) % cn)), .val (.int ((p5 &&& (2147483647 : Int32)) % cn))] [(.int ((p5 &&& (2147483647 : Int32)) % cn)), (.int ((p5 &&& (2147483647 : Int32)) % cn))])) _
          refine XS.icmpNo X547.here hx rfl (hb hby at_148) rfl (teq hc148).2 ?_
          show Steps p.tables e below (T547.setTop (mkF m 151 #[.val (.int p0), .val (.int p1), .val (.int p2), .val (.int p3), .val (.int p4), .val (.int p5), .val (.int sA), .val (.int sB), .val (.int (2 : Int32)), .val (.int cn), .val (.int (1 : Int32)), .val (.ref b44), .val (.int ((p5 &&& (2147483647 : Int32)) % cn)), .val (.int ((p5 &&& (2147483647 : Int32)) % cn))] [])) _
          refine XS.aload X547.here hx rfl (hb hby at_151) rfl rfl ?_
          show Steps p.tables e below (T547.setTop (mkF m 153 #[.val (.int p0), .val (.int p1), .val (.int p2), .val (.int p3), .val (.int p4), .val (.int p5), .val (.int sA), .val (.int sB), .val (.int (2 : Int32)), .val (.int cn), .val (.int (1 : Int32)), .val (.ref b44), .val (.int ((p5 &&& (2147483647 : Int32)) % cn)), .val (.int ((p5 &&& (2147483647 : Int32)) % cn))] [(.ref b44)])) _
          refine XS.iload X547.here hx rfl (hb hby at_153) rfl ?_
          exact kont
        obtain ⟨cq552, kq552, q552a, q552b, q552c⟩ := isOf hZ e547 (H543).1
        obtain ⟨_, _, ⟨T552, L552, k552, n552⟩, -, X552, ⟨Lc552, hQ552, l552, y552, z552⟩, st552⟩ := X547.virtualBack hx (y := (⟨"com/example/impronta/impronta/engine/Alignments", "end", "(I)I"⟩ : MethodName)) (z := (⟨"com/example/impronta/impronta/engine/Alignments", "end", "(I)I"⟩ : MethodName)) hown (mvT hZ (hw _ (List.mem_of_getElem? (i := 53) rfl))) (mvT hZ (hw _ (List.mem_of_getElem? (i := 54) rfl))) (notFace_of_selects (args := #[]) (mvT hZ (hw _ (List.mem_of_getElem? (i := 56) rfl)))) (mvT hZ (hw _ (List.mem_of_getElem? (i := 56) rfl))) (mvT hZ (hw _ (List.mem_of_getElem? (i := 55) rfl))) (by decide) (backOf (W := 0) (rm8 l Z a0 hw [] b44 ((p5 &&& (2147483647 : Int32)) % cn) be503 ba bn bf p0 (1 : Int32) (-sA) (0 : Int32) ne503 (fun _ => (0 : Int32)) ga540 gn540 gf540 ((p5 &&& (2147483647 : Int32)) % cn).toNatClampNeg  T543.heap n0 Z543 H543 (own_i0 hix.1) rfl (fun q => absurd q (by decide)) (fun _ => own_natlt hix.1 (by omega))) hZ (hw _ (List.mem_of_getElem? (i := 57) rfl)) (hw _ (List.mem_of_getElem? (i := 2) rfl)) (by decide) (by decide)) q552a q552c (g := (mkF m 155 #[.val (.int p0), .val (.int p1), .val (.int p2), .val (.int p3), .val (.int p4), .val (.int p5), .val (.int sA), .val (.int sB), .val (.int (2 : Int32)), .val (.int cn), .val (.int (1 : Int32)), .val (.ref b44), .val (.int ((p5 &&& (2147483647 : Int32)) % cn)), .val (.int ((p5 &&& (2147483647 : Int32)) % cn))] [(.int ((p5 &&& (2147483647 : Int32)) % cn)), (.ref b44)])) rfl (by rw [hml]; rfl) (Steps.refl _) (argsL := [(.int ((p5 &&& (2147483647 : Int32)) % cn))]) (rest := []) (lenOf pd_2 rfl) rfl (by show 2 * 0 + _ ≤ _; exact Nat.le_of_eq rfl) (hb hby at_155) (fun _ _ => ⟨rfl, e547, (by decide : 6 + 0 ≤ _), (by decide : 80 + 0 ≤ _)⟩)
        dsimp only [Pt.U, Pt.locs, Pt.cells, Pt.slots] at X552 l552 y552 z552 st552 hQ552
        subst l552 y552 z552
        obtain ⟨rfl, N552q, e552⟩ := hQ552
        have N552 := Fr.app N547 N552q
        have pre553 : ∀ t, Steps p.tables e below (T552.setTop (mkF m 158 #[.val (.int p0), .val (.int p1), .val (.int p2), .val (.int p3), .val (.int p4), .val (.int p5), .val (.int sA), .val (.int sB), .val (.int (2 : Int32)), .val (.int cn), .val (.int (1 : Int32)), .val (.ref b44), .val (.int ((p5 &&& (2147483647 : Int32)) % cn)), .val (.int ((p5 &&& (2147483647 : Int32)) % cn))] [(.int (own_end (1 : Int32) (fun _ => (0 : Int32)) gn540 ((p5 &&& (2147483647 : Int32)) % cn).toNatClampNeg))])) t → Steps p.tables e below (s₁.setTop (entryFrame m #[(.int p0), (.int p1), (.int p2), (.int p3), (.int p4), (.int p5)] maxLocals)) t := fun t kont => pre551 t (st552.trans kont)
        have rq554 : (own_end (1 : Int32) (fun _ => (0 : Int32)) gn540 ((p5 &&& (2147483647 : Int32)) % cn).toNatClampNeg) = (0 : Int32) := own_end1 _ _ _
        rw [rq554] at pre553
        have pre555 : ∀ t, Steps p.tables e below (T552.setTop (mkF m 166 #[.val (.int p0), .val (.int p1), .val (.int p2), .val (.int p3), .val (.int p4), .val (.int p5), .val (.int sA), .val (.int sB), .val (.int (2 : Int32)), .val (.int cn), .val (.int (1 : Int32)), .val (.ref b44), .val (.int ((p5 &&& (2147483647 : Int32)) % cn)), .val (.int ((p5 &&& (2147483647 : Int32)) % cn))] [(.int (1 : Int32))])) t → Steps p.tables e below (s₁.setTop (entryFrame m #[(.int p0), (.int p1), (.int p2), (.int p3), (.int p4), (.int p5)] maxLocals)) t := by
          intro t kont
          refine pre553 t ?_
          show Steps p.tables e below (T552.setTop (mkF m 158 #[.val (.int p0), .val (.int p1), .val (.int p2), .val (.int p3), .val (.int p4), .val (.int p5), .val (.int sA), .val (.int sB), .val (.int (2 : Int32)), .val (.int cn), .val (.int (1 : Int32)), .val (.ref b44), .val (.int ((p5 &&& (2147483647 : Int32)) % cn)), .val (.int ((p5 &&& (2147483647 : Int32)) % cn))] [(.int (0 : Int32))])) _
          refine XS.ifNo X552.here hx rfl (hb hby at_158) rfl ((if0 _ _).trans (teq (by decide)).2) ?_
          show Steps p.tables e below (T552.setTop (mkF m 161 #[.val (.int p0), .val (.int p1), .val (.int p2), .val (.int p3), .val (.int p4), .val (.int p5), .val (.int sA), .val (.int sB), .val (.int (2 : Int32)), .val (.int cn), .val (.int (1 : Int32)), .val (.ref b44), .val (.int ((p5 &&& (2147483647 : Int32)) % cn)), .val (.int ((p5 &&& (2147483647 : Int32)) % cn))] [])) _
          refine XS.iconst X552.here hx rfl (hb hby at_161) ?_
          show Steps p.tables e below (T552.setTop (mkF m 162 #[.val (.int p0), .val (.int p1), .val (.int p2), .val (.int p3), .val (.int p4), .val (.int p5), .val (.int sA), .val (.int sB), .val (.int (2 : Int32)), .val (.int cn), .val (.int (1 : Int32)), .val (.ref b44), .val (.int ((p5 &&& (2147483647 : Int32)) % cn)), .val (.int ((p5 &&& (2147483647 : Int32)) % cn))] [(.int (1 : Int32))])) _
          refine XS.goto X552.here hx rfl (pc0 := 162) (pc' := 166) rfl (hb hby at_162) (by decide) (by decide) ?_
          exact kont
        obtain ⟨fs, hr, hrun, hended, hW, hsame⟩ := X552.leave (v := some (.int (1 : Int32))) (fun h => by rw [Bd.returns] at h; cases h)
        refine ⟨_, _, pre555 _ ?_, hrun, hended, _, _, rfl, ?_, ⟨_, rfl⟩, hW, hsame.mono (by decide) (by decide)⟩
        · exact retN X552 hx (t := .boolean) Bd.returns (by simp) (hb hby at_166) hr
        · show Q0 Z p0 p1 p2 p3 p4 p5 h0 n0 _ T552.heap _
          rw [e552]
          exact ⟨rfl, N552⟩
      · exfalso
        first | exact hc158 rfl | exact hc148 rfl
    · rw [hn4] at pre504
      have pre556 : ∀ t, Steps p.tables e below (T503.setTop (mkF m 76 #[.val (.int p0), .val (.int p1), .val (.int p2), .val (.int p3), .val (.int p4), .val (.int p5), .val (.int sA), .val (.int sB), .val (.int (3 : Int32)), .val (.int cn), .val (.int (1 : Int32)), .val (.ref b44), .unset, .unset] [(.int p2), (.int cn), (.int sA), (.ref b44)])) t → Steps p.tables e below (s₁.setTop (entryFrame m #[(.int p0), (.int p1), (.int p2), (.int p3), (.int p4), (.int p5)] maxLocals)) t := by
        intro t kont
        refine pre504 t ?_
        show Steps p.tables e below (T503.setTop (mkF m 63 #[.val (.int p0), .val (.int p1), .val (.int p2), .val (.int p3), .val (.int p4), .val (.int p5), .val (.int sA), .val (.int sB), .val (.int (3 : Int32)), .val (.int cn), .val (.int (1 : Int32)), .val (.ref b44), .unset, .unset] [])) _
        refine XS.iload X503.here hx rfl (hb hby at_63) rfl ?_
        show Steps p.tables e below (T503.setTop (mkF m 65 #[.val (.int p0), .val (.int p1), .val (.int p2), .val (.int p3), .val (.int p4), .val (.int p5), .val (.int sA), .val (.int sB), .val (.int (3 : Int32)), .val (.int cn), .val (.int (1 : Int32)), .val (.ref b44), .unset, .unset] [(.int (3 : Int32))])) _
        refine XS.iconst X503.here hx rfl (hb hby at_65) ?_
        show Steps p.tables e below (T503.setTop (mkF m 66 #[.val (.int p0), .val (.int p1), .val (.int p2), .val (.int p3), .val (.int p4), .val (.int p5), .val (.int sA), .val (.int sB), .val (.int (3 : Int32)), .val (.int cn), .val (.int (1 : Int32)), .val (.ref b44), .unset, .unset] [(.int (1 : Int32)), (.int (3 : Int32))])) _
        refine XS.icmpNo X503.here hx rfl (hb hby at_66) rfl (flt (by decide)).1 ?_
        show Steps p.tables e below (T503.setTop (mkF m 69 #[.val (.int p0), .val (.int p1), .val (.int p2), .val (.int p3), .val (.int p4), .val (.int p5), .val (.int sA), .val (.int sB), .val (.int (3 : Int32)), .val (.int cn), .val (.int (1 : Int32)), .val (.ref b44), .unset, .unset] [])) _
        refine XS.aload X503.here hx rfl (hb hby at_69) rfl rfl ?_
        show Steps p.tables e below (T503.setTop (mkF m 71 #[.val (.int p0), .val (.int p1), .val (.int p2), .val (.int p3), .val (.int p4), .val (.int p5), .val (.int sA), .val (.int sB), .val (.int (3 : Int32)), .val (.int cn), .val (.int (1 : Int32)), .val (.ref b44), .unset, .unset] [(.ref b44)])) _
        refine XS.iload X503.here hx rfl (hb hby at_71) rfl ?_
        show Steps p.tables e below (T503.setTop (mkF m 73 #[.val (.int p0), .val (.int p1), .val (.int p2), .val (.int p3), .val (.int p4), .val (.int p5), .val (.int sA), .val (.int sB), .val (.int (3 : Int32)), .val (.int cn), .val (.int (1 : Int32)), .val (.ref b44), .unset, .unset] [(.int sA), (.ref b44)])) _
        refine XS.iload X503.here hx rfl (hb hby at_73) rfl ?_
        show Steps p.tables e below (T503.setTop (mkF m 75 #[.val (.int p0), .val (.int p1), .val (.int p2), .val (.int p3), .val (.int p4), .val (.int p5), .val (.int sA), .val (.int sB), .val (.int (3 : Int32)), .val (.int cn), .val (.int (1 : Int32)), .val (.ref b44), .unset, .unset] [(.int cn), (.int sA), (.ref b44)])) _
        refine XS.iloadN X503.here hx rfl (hb hby at_75) rfl ?_
        exact kont
      obtain ⟨_, _, ⟨T557, L557, k557, n557⟩, -, X557, ⟨Lc557, hQ557, l557, y557, z557⟩, st557⟩ := Jvm.LawKit.callS X503 hx (y := (⟨"com/example/impronta/impronta/engine/AlignmentsClearPinLaw", "putOne", "(Lcom/example/impronta/impronta/engine/Alignments;III)V"⟩ : MethodName)) hown (mvT hZ (hw _ (List.mem_of_getElem? (i := 59) rfl))) (mvT hZ (hw _ (List.mem_of_getElem? (i := 60) rfl))) (mvT hZ (hw _ (List.mem_of_getElem? (i := 61) rfl))) (mvT hZ (hw _ (List.mem_of_getElem? (i := 62) rfl))) (by decide) (backOf (W := 0) (rm9a l Z a0 hw [] b44 sA cn p2 be503 ba bn bf p0 (0 : Int32) ne503 (fun _ => (0 : Int32)) (fun _ => (-2147483648 : Int32)) (fun _ => (0 : Int32)) (fun _ => (0 : Int32)) 0  T503.heap n0 Z503 H503 hI0 (by decide) (by decide) (by decide) hcc) hZ (hw _ (List.mem_of_getElem? (i := 62) rfl)) (hw _ (List.mem_of_getElem? (i := 61) rfl)) (by decide) (by decide)) (g := (mkF m 76 #[.val (.int p0), .val (.int p1), .val (.int p2), .val (.int p3), .val (.int p4), .val (.int p5), .val (.int sA), .val (.int sB), .val (.int (3 : Int32)), .val (.int cn), .val (.int (1 : Int32)), .val (.ref b44), .unset, .unset] [(.int p2), (.int cn), (.int sA), (.ref b44)])) rfl (by rw [hml]; rfl) (argsL := [(.ref b44), (.int sA), (.int cn), (.int p2)]) (rest := []) (lenOf pd_7 rfl) rfl (by show 2 * 0 + _ ≤ _; exact Nat.le_of_eq rfl) (hb hby at_76) (fun _ _ => ⟨rfl, rfl, (by decide : 6 + 0 ≤ _), (by decide : 80 + 0 ≤ _)⟩)
      dsimp only [Pt.U, Pt.locs, Pt.cells, Pt.slots] at X557 l557 y557 z557 st557 hQ557
      subst l557 y557 z557
      obtain ⟨rfl, N557q, Z557, sz557, zn557, ge557, ga557, gn557, gf557, ww557, hz0557, hzn557, hI557, H557⟩ := hQ557
      have N557 := Fr.app N503 N557q
      have pre558 : ∀ t, Steps p.tables e below (T557.setTop (mkF m 79 #[.val (.int p0), .val (.int p1), .val (.int p2), .val (.int p3), .val (.int p4), .val (.int p5), .val (.int sA), .val (.int sB), .val (.int (3 : Int32)), .val (.int cn), .val (.int (1 : Int32)), .val (.ref b44), .unset, .unset] [])) t → Steps p.tables e below (s₁.setTop (entryFrame m #[(.int p0), (.int p1), (.int p2), (.int p3), (.int p4), (.int p5)] maxLocals)) t := fun t kont => pre556 t (st557 _ kont)
      have pre559 : ∀ t, Steps p.tables e below (T557.setTop (mkF m 92 #[.val (.int p0), .val (.int p1), .val (.int p2), .val (.int p3), .val (.int p4), .val (.int p5), .val (.int sA), .val (.int sB), .val (.int (3 : Int32)), .val (.int cn), .val (.int (1 : Int32)), .val (.ref b44), .unset, .unset] [(.int p3), (.int cn), (.int sA), (.ref b44)])) t → Steps p.tables e below (s₁.setTop (entryFrame m #[(.int p0), (.int p1), (.int p2), (.int p3), (.int p4), (.int p5)] maxLocals)) t := by
        intro t kont
        refine pre558 t ?_
        show Steps p.tables e below (T557.setTop (mkF m 79 #[.val (.int p0), .val (.int p1), .val (.int p2), .val (.int p3), .val (.int p4), .val (.int p5), .val (.int sA), .val (.int sB), .val (.int (3 : Int32)), .val (.int cn), .val (.int (1 : Int32)), .val (.ref b44), .unset, .unset] [])) _
        refine XS.iload X557.here hx rfl (hb hby at_79) rfl ?_
        show Steps p.tables e below (T557.setTop (mkF m 81 #[.val (.int p0), .val (.int p1), .val (.int p2), .val (.int p3), .val (.int p4), .val (.int p5), .val (.int sA), .val (.int sB), .val (.int (3 : Int32)), .val (.int cn), .val (.int (1 : Int32)), .val (.ref b44), .unset, .unset] [(.int (3 : Int32))])) _
        refine XS.iconst X557.here hx rfl (hb hby at_81) ?_
        show Steps p.tables e below (T557.setTop (mkF m 82 #[.val (.int p0), .val (.int p1), .val (.int p2), .val (.int p3), .val (.int p4), .val (.int p5), .val (.int sA), .val (.int sB), .val (.int (3 : Int32)), .val (.int cn), .val (.int (1 : Int32)), .val (.ref b44), .unset, .unset] [(.int (2 : Int32)), (.int (3 : Int32))])) _
        refine XS.icmpNo X557.here hx rfl (hb hby at_82) rfl (flt (by decide)).1 ?_
        show Steps p.tables e below (T557.setTop (mkF m 85 #[.val (.int p0), .val (.int p1), .val (.int p2), .val (.int p3), .val (.int p4), .val (.int p5), .val (.int sA), .val (.int sB), .val (.int (3 : Int32)), .val (.int cn), .val (.int (1 : Int32)), .val (.ref b44), .unset, .unset] [])) _
        refine XS.aload X557.here hx rfl (hb hby at_85) rfl rfl ?_
        show Steps p.tables e below (T557.setTop (mkF m 87 #[.val (.int p0), .val (.int p1), .val (.int p2), .val (.int p3), .val (.int p4), .val (.int p5), .val (.int sA), .val (.int sB), .val (.int (3 : Int32)), .val (.int cn), .val (.int (1 : Int32)), .val (.ref b44), .unset, .unset] [(.ref b44)])) _
        refine XS.iload X557.here hx rfl (hb hby at_87) rfl ?_
        show Steps p.tables e below (T557.setTop (mkF m 89 #[.val (.int p0), .val (.int p1), .val (.int p2), .val (.int p3), .val (.int p4), .val (.int p5), .val (.int sA), .val (.int sB), .val (.int (3 : Int32)), .val (.int cn), .val (.int (1 : Int32)), .val (.ref b44), .unset, .unset] [(.int sA), (.ref b44)])) _
        refine XS.iload X557.here hx rfl (hb hby at_89) rfl ?_
        show Steps p.tables e below (T557.setTop (mkF m 91 #[.val (.int p0), .val (.int p1), .val (.int p2), .val (.int p3), .val (.int p4), .val (.int p5), .val (.int sA), .val (.int sB), .val (.int (3 : Int32)), .val (.int cn), .val (.int (1 : Int32)), .val (.ref b44), .unset, .unset] [(.int cn), (.int sA), (.ref b44)])) _
        refine XS.iloadN X557.here hx rfl (hb hby at_91) rfl ?_
        exact kont
      obtain ⟨_, _, ⟨T560, L560, k560, n560⟩, -, X560, ⟨Lc560, hQ560, l560, y560, z560⟩, st560⟩ := Jvm.LawKit.callS X557 hx (y := (⟨"com/example/impronta/impronta/engine/AlignmentsClearPinLaw", "putOne", "(Lcom/example/impronta/impronta/engine/Alignments;III)V"⟩ : MethodName)) hown (mvT hZ (hw _ (List.mem_of_getElem? (i := 59) rfl))) (mvT hZ (hw _ (List.mem_of_getElem? (i := 60) rfl))) (mvT hZ (hw _ (List.mem_of_getElem? (i := 61) rfl))) (mvT hZ (hw _ (List.mem_of_getElem? (i := 62) rfl))) (by decide) (backOf (W := 0) (rm9a l Z a0 hw [] b44 sA cn p3 be503 ba bn bf p0 sz557 ne503 ge557 ga557 gn557 gf557 zn557  T557.heap n0 Z557 H557 hI557 hz0557 hzn557 (by omega) hcc) hZ (hw _ (List.mem_of_getElem? (i := 62) rfl)) (hw _ (List.mem_of_getElem? (i := 61) rfl)) (by decide) (by decide)) (g := (mkF m 92 #[.val (.int p0), .val (.int p1), .val (.int p2), .val (.int p3), .val (.int p4), .val (.int p5), .val (.int sA), .val (.int sB), .val (.int (3 : Int32)), .val (.int cn), .val (.int (1 : Int32)), .val (.ref b44), .unset, .unset] [(.int p3), (.int cn), (.int sA), (.ref b44)])) rfl (by rw [hml]; rfl) (argsL := [(.ref b44), (.int sA), (.int cn), (.int p3)]) (rest := []) (lenOf pd_7 rfl) rfl (by show 2 * 0 + _ ≤ _; exact Nat.le_of_eq rfl) (hb hby at_92) (fun _ _ => ⟨rfl, rfl, (by decide : 6 + 0 ≤ _), (by decide : 80 + 0 ≤ _)⟩)
      dsimp only [Pt.U, Pt.locs, Pt.cells, Pt.slots] at X560 l560 y560 z560 st560 hQ560
      subst l560 y560 z560
      obtain ⟨rfl, N560q, Z560, sz560, zn560, ge560, ga560, gn560, gf560, ww560, hz0560, hzn560, hI560, H560⟩ := hQ560
      have N560 := Fr.app N557 N560q
      have pre561 : ∀ t, Steps p.tables e below (T560.setTop (mkF m 95 #[.val (.int p0), .val (.int p1), .val (.int p2), .val (.int p3), .val (.int p4), .val (.int p5), .val (.int sA), .val (.int sB), .val (.int (3 : Int32)), .val (.int cn), .val (.int (1 : Int32)), .val (.ref b44), .unset, .unset] [])) t → Steps p.tables e below (s₁.setTop (entryFrame m #[(.int p0), (.int p1), (.int p2), (.int p3), (.int p4), (.int p5)] maxLocals)) t := fun t kont => pre559 t (st560 _ kont)
      have pre562 : ∀ t, Steps p.tables e below (T560.setTop (mkF m 109 #[.val (.int p0), .val (.int p1), .val (.int p2), .val (.int p3), .val (.int p4), .val (.int p5), .val (.int sA), .val (.int sB), .val (.int (3 : Int32)), .val (.int cn), .val (.int (1 : Int32)), .val (.ref b44), .unset, .unset] [(.int p4), (.int cn), (.int sA), (.ref b44)])) t → Steps p.tables e below (s₁.setTop (entryFrame m #[(.int p0), (.int p1), (.int p2), (.int p3), (.int p4), (.int p5)] maxLocals)) t := by
        intro t kont
        refine pre561 t ?_
        show Steps p.tables e below (T560.setTop (mkF m 95 #[.val (.int p0), .val (.int p1), .val (.int p2), .val (.int p3), .val (.int p4), .val (.int p5), .val (.int sA), .val (.int sB), .val (.int (3 : Int32)), .val (.int cn), .val (.int (1 : Int32)), .val (.ref b44), .unset, .unset] [])) _
        refine XS.iload X560.here hx rfl (hb hby at_95) rfl ?_
        show Steps p.tables e below (T560.setTop (mkF m 97 #[.val (.int p0), .val (.int p1), .val (.int p2), .val (.int p3), .val (.int p4), .val (.int p5), .val (.int sA), .val (.int sB), .val (.int (3 : Int32)), .val (.int cn), .val (.int (1 : Int32)), .val (.ref b44), .unset, .unset] [(.int (3 : Int32))])) _
        refine XS.iconst X560.here hx rfl (hb hby at_97) ?_
        show Steps p.tables e below (T560.setTop (mkF m 98 #[.val (.int p0), .val (.int p1), .val (.int p2), .val (.int p3), .val (.int p4), .val (.int p5), .val (.int sA), .val (.int sB), .val (.int (3 : Int32)), .val (.int cn), .val (.int (1 : Int32)), .val (.ref b44), .unset, .unset] [(.int (3 : Int32)), (.int (3 : Int32))])) _
        refine XS.icmpNo X560.here hx rfl (hb hby at_98) rfl (flt (by decide)).1 ?_
        show Steps p.tables e below (T560.setTop (mkF m 101 #[.val (.int p0), .val (.int p1), .val (.int p2), .val (.int p3), .val (.int p4), .val (.int p5), .val (.int sA), .val (.int sB), .val (.int (3 : Int32)), .val (.int cn), .val (.int (1 : Int32)), .val (.ref b44), .unset, .unset] [])) _
        refine XS.aload X560.here hx rfl (hb hby at_101) rfl rfl ?_
        show Steps p.tables e below (T560.setTop (mkF m 103 #[.val (.int p0), .val (.int p1), .val (.int p2), .val (.int p3), .val (.int p4), .val (.int p5), .val (.int sA), .val (.int sB), .val (.int (3 : Int32)), .val (.int cn), .val (.int (1 : Int32)), .val (.ref b44), .unset, .unset] [(.ref b44)])) _
        refine XS.iload X560.here hx rfl (hb hby at_103) rfl ?_
        show Steps p.tables e below (T560.setTop (mkF m 105 #[.val (.int p0), .val (.int p1), .val (.int p2), .val (.int p3), .val (.int p4), .val (.int p5), .val (.int sA), .val (.int sB), .val (.int (3 : Int32)), .val (.int cn), .val (.int (1 : Int32)), .val (.ref b44), .unset, .unset] [(.int sA), (.ref b44)])) _
        refine XS.iload X560.here hx rfl (hb hby at_105) rfl ?_
        show Steps p.tables e below (T560.setTop (mkF m 107 #[.val (.int p0), .val (.int p1), .val (.int p2), .val (.int p3), .val (.int p4), .val (.int p5), .val (.int sA), .val (.int sB), .val (.int (3 : Int32)), .val (.int cn), .val (.int (1 : Int32)), .val (.ref b44), .unset, .unset] [(.int cn), (.int sA), (.ref b44)])) _
        refine XS.iload X560.here hx rfl (hb hby at_107) rfl ?_
        exact kont
      obtain ⟨_, _, ⟨T563, L563, k563, n563⟩, -, X563, ⟨Lc563, hQ563, l563, y563, z563⟩, st563⟩ := Jvm.LawKit.callS X560 hx (y := (⟨"com/example/impronta/impronta/engine/AlignmentsClearPinLaw", "putOne", "(Lcom/example/impronta/impronta/engine/Alignments;III)V"⟩ : MethodName)) hown (mvT hZ (hw _ (List.mem_of_getElem? (i := 59) rfl))) (mvT hZ (hw _ (List.mem_of_getElem? (i := 60) rfl))) (mvT hZ (hw _ (List.mem_of_getElem? (i := 61) rfl))) (mvT hZ (hw _ (List.mem_of_getElem? (i := 62) rfl))) (by decide) (backOf (W := 0) (rm9a l Z a0 hw [] b44 sA cn p4 be503 ba bn bf p0 sz560 ne503 ge560 ga560 gn560 gf560 zn560  T560.heap n0 Z560 H560 hI560 hz0560 hzn560 (by omega) hcc) hZ (hw _ (List.mem_of_getElem? (i := 62) rfl)) (hw _ (List.mem_of_getElem? (i := 61) rfl)) (by decide) (by decide)) (g := (mkF m 109 #[.val (.int p0), .val (.int p1), .val (.int p2), .val (.int p3), .val (.int p4), .val (.int p5), .val (.int sA), .val (.int sB), .val (.int (3 : Int32)), .val (.int cn), .val (.int (1 : Int32)), .val (.ref b44), .unset, .unset] [(.int p4), (.int cn), (.int sA), (.ref b44)])) rfl (by rw [hml]; rfl) (argsL := [(.ref b44), (.int sA), (.int cn), (.int p4)]) (rest := []) (lenOf pd_7 rfl) rfl (by show 2 * 0 + _ ≤ _; exact Nat.le_of_eq rfl) (hb hby at_109) (fun _ _ => ⟨rfl, rfl, (by decide : 6 + 0 ≤ _), (by decide : 80 + 0 ≤ _)⟩)
      dsimp only [Pt.U, Pt.locs, Pt.cells, Pt.slots] at X563 l563 y563 z563 st563 hQ563
      subst l563 y563 z563
      obtain ⟨rfl, N563q, Z563, sz563, zn563, ge563, ga563, gn563, gf563, ww563, hz0563, hzn563, hI563, H563⟩ := hQ563
      have N563 := Fr.app N560 N563q
      have pre564 : ∀ t, Steps p.tables e below (T563.setTop (mkF m 112 #[.val (.int p0), .val (.int p1), .val (.int p2), .val (.int p3), .val (.int p4), .val (.int p5), .val (.int sA), .val (.int sB), .val (.int (3 : Int32)), .val (.int cn), .val (.int (1 : Int32)), .val (.ref b44), .unset, .unset] [])) t → Steps p.tables e below (s₁.setTop (entryFrame m #[(.int p0), (.int p1), (.int p2), (.int p3), (.int p4), (.int p5)] maxLocals)) t := fun t kont => pre562 t (st563 _ kont)
      have pre565 : ∀ t, Steps p.tables e below (T563.setTop (mkF m 114 #[.val (.int p0), .val (.int p1), .val (.int p2), .val (.int p3), .val (.int p4), .val (.int p5), .val (.int sA), .val (.int sB), .val (.int (3 : Int32)), .val (.int cn), .val (.int (1 : Int32)), .val (.ref b44), .unset, .unset] [(.ref b44)])) t → Steps p.tables e below (s₁.setTop (entryFrame m #[(.int p0), (.int p1), (.int p2), (.int p3), (.int p4), (.int p5)] maxLocals)) t := by
        intro t kont
        refine pre564 t ?_
        show Steps p.tables e below (T563.setTop (mkF m 112 #[.val (.int p0), .val (.int p1), .val (.int p2), .val (.int p3), .val (.int p4), .val (.int p5), .val (.int sA), .val (.int sB), .val (.int (3 : Int32)), .val (.int cn), .val (.int (1 : Int32)), .val (.ref b44), .unset, .unset] [])) _
        refine XS.aload X563.here hx rfl (hb hby at_112) rfl rfl ?_
        exact kont
      obtain ⟨cq566, kq566, q566a, q566b, q566c⟩ := isOf hZ rfl (H563).1
      obtain ⟨_, _, ⟨T566, L566, k566, n566⟩, -, X566, ⟨Lc566, hQ566, l566, y566, z566⟩, st566⟩ := X563.virtualBack hx (y := (⟨"com/example/impronta/impronta/engine/Alignments", "clear", "()V"⟩ : MethodName)) (z := (⟨"com/example/impronta/impronta/engine/Alignments", "clear", "()V"⟩ : MethodName)) hown (mvT hZ (hw _ (List.mem_of_getElem? (i := 39) rfl))) (mvT hZ (hw _ (List.mem_of_getElem? (i := 40) rfl))) (notFace_of_selects (args := #[]) (mvT hZ (hw _ (List.mem_of_getElem? (i := 42) rfl)))) (mvT hZ (hw _ (List.mem_of_getElem? (i := 42) rfl))) (mvT hZ (hw _ (List.mem_of_getElem? (i := 41) rfl))) (by decide) (backOf (W := 0) (rm6a l Z a0 hw [] b44 be503 ba bn bf p0 (-sA) sz563 ne503 ge563 ga563 gn563 gf563 zn563  T563.heap n0 Z563 H563 hI563 hzn563 (by omega)) hZ (hw _ (List.mem_of_getElem? (i := 43) rfl)) (hw _ (List.mem_of_getElem? (i := 2) rfl)) (by decide) (by decide)) q566a q566c (g := (mkF m 114 #[.val (.int p0), .val (.int p1), .val (.int p2), .val (.int p3), .val (.int p4), .val (.int p5), .val (.int sA), .val (.int sB), .val (.int (3 : Int32)), .val (.int cn), .val (.int (1 : Int32)), .val (.ref b44), .unset, .unset] [(.ref b44)])) rfl (by rw [hml]; rfl) (Steps.refl _) (argsL := []) (rest := []) (lenOf pd_6 rfl) rfl (by show 2 * 0 + _ ≤ _; exact Nat.le_of_eq rfl) (hb hby at_114) (fun _ _ => ⟨rfl, rfl, (by decide : 6 + 0 ≤ _), (by decide : 80 + 0 ≤ _)⟩)
      dsimp only [Pt.U, Pt.locs, Pt.cells, Pt.slots] at X566 l566 y566 z566 st566 hQ566
      subst l566 y566 z566
      obtain ⟨rfl, N566q, Z566, H566⟩ := hQ566
      have N566 := Fr.app N563 N566q
      have pre567 : ∀ t, Steps p.tables e below (T566.setTop (mkF m 117 #[.val (.int p0), .val (.int p1), .val (.int p2), .val (.int p3), .val (.int p4), .val (.int p5), .val (.int sA), .val (.int sB), .val (.int (3 : Int32)), .val (.int cn), .val (.int (1 : Int32)), .val (.ref b44), .unset, .unset] [])) t → Steps p.tables e below (s₁.setTop (entryFrame m #[(.int p0), (.int p1), (.int p2), (.int p3), (.int p4), (.int p5)] maxLocals)) t := fun t kont => pre565 t (st566.trans kont)
      have pre568 : ∀ t, Steps p.tables e below (T566.setTop (mkF m 132 #[.val (.int p0), .val (.int p1), .val (.int p2), .val (.int p3), .val (.int p4), .val (.int p5), .val (.int sA), .val (.int sB), .val (.int (3 : Int32)), .val (.int cn), .val (.int (1 : Int32)), .val (.ref b44), .val (.int ((p5 &&& (2147483647 : Int32)) % cn)), .unset] [])) t → Steps p.tables e below (s₁.setTop (entryFrame m #[(.int p0), (.int p1), (.int p2), (.int p3), (.int p4), (.int p5)] maxLocals)) t := by
        intro t kont
        refine pre567 t ?_
        show Steps p.tables e below (T566.setTop (mkF m 117 #[.val (.int p0), .val (.int p1), .val (.int p2), .val (.int p3), .val (.int p4), .val (.int p5), .val (.int sA), .val (.int sB), .val (.int (3 : Int32)), .val (.int cn), .val (.int (1 : Int32)), .val (.ref b44), .unset, .unset] [])) _
        refine XS.iload X566.here hx rfl (hb hby at_117) rfl ?_
        show Steps p.tables e below (T566.setTop (mkF m 119 #[.val (.int p0), .val (.int p1), .val (.int p2), .val (.int p3), .val (.int p4), .val (.int p5), .val (.int sA), .val (.int sB), .val (.int (3 : Int32)), .val (.int cn), .val (.int (1 : Int32)), .val (.ref b44), .unset, .unset] [(.int (1 : Int32))])) _
        refine XS.ifNo X566.here hx rfl (hb hby at_119) rfl ((if0 _ _).trans (feq (by decide)).1) ?_
        show Steps p.tables e below (T566.setTop (mkF m 122 #[.val (.int p0), .val (.int p1), .val (.int p2), .val (.int p3), .val (.int p4), .val (.int p5), .val (.int sA), .val (.int sB), .val (.int (3 : Int32)), .val (.int cn), .val (.int (1 : Int32)), .val (.ref b44), .unset, .unset] [])) _
        refine XS.iload X566.here hx rfl (hb hby at_122) rfl ?_
        show Steps p.tables e below (T566.setTop (mkF m 124 #[.val (.int p0), .val (.int p1), .val (.int p2), .val (.int p3), .val (.int p4), .val (.int p5), .val (.int sA), .val (.int sB), .val (.int (3 : Int32)), .val (.int cn), .val (.int (1 : Int32)), .val (.ref b44), .unset, .unset] [(.int p5)])) _
        refine X566.ldcInt hx hown (mvT hZ (hw _ (List.mem_of_getElem? (i := 58) rfl))) (g := (mkF m 124 #[.val (.int p0), .val (.int p1), .val (.int p2), .val (.int p3), .val (.int p4), .val (.int p5), .val (.int sA), .val (.int sB), .val (.int (3 : Int32)), .val (.int cn), .val (.int (1 : Int32)), .val (.ref b44), .unset, .unset] [(.int p5)])) rfl (hb hby at_124) _ ?_
        show Steps p.tables e below (T566.setTop (mkF m 126 #[.val (.int p0), .val (.int p1), .val (.int p2), .val (.int p3), .val (.int p4), .val (.int p5), .val (.int sA), .val (.int sB), .val (.int (3 : Int32)), .val (.int cn), .val (.int (1 : Int32)), .val (.ref b44), .unset, .unset] [(.int (2147483647 : Int32)), (.int p5)])) _
        refine XS.iand X566.here hx rfl (hb hby at_126) rfl ?_
        show Steps p.tables e below (T566.setTop (mkF m 127 #[.val (.int p0), .val (.int p1), .val (.int p2), .val (.int p3), .val (.int p4), .val (.int p5), .val (.int sA), .val (.int sB), .val (.int (3 : Int32)), .val (.int cn), .val (.int (1 : Int32)), .val (.ref b44), .unset, .unset] [(.int (p5 &&& (2147483647 : Int32)))])) _
        refine XS.iload X566.here hx rfl (hb hby at_127) rfl ?_
        show Steps p.tables e below (T566.setTop (mkF m 129 #[.val (.int p0), .val (.int p1), .val (.int p2), .val (.int p3), .val (.int p4), .val (.int p5), .val (.int sA), .val (.int sB), .val (.int (3 : Int32)), .val (.int cn), .val (.int (1 : Int32)), .val (.ref b44), .unset, .unset] [(.int cn), (.int (p5 &&& (2147483647 : Int32)))])) _
        refine iremM X566 hx rfl (hb hby at_129) rfl (own_cz hcc.1) ?_
        show Steps p.tables e below (T566.setTop (mkF m 130 #[.val (.int p0), .val (.int p1), .val (.int p2), .val (.int p3), .val (.int p4), .val (.int p5), .val (.int sA), .val (.int sB), .val (.int (3 : Int32)), .val (.int cn), .val (.int (1 : Int32)), .val (.ref b44), .unset, .unset] [(.int ((p5 &&& (2147483647 : Int32)) % cn))])) _
        refine XS.istore X566.here hx rfl (hb hby at_130) rfl (l' := #[.val (.int p0), .val (.int p1), .val (.int p2), .val (.int p3), .val (.int p4), .val (.int p5), .val (.int sA), .val (.int sB), .val (.int (3 : Int32)), .val (.int cn), .val (.int (1 : Int32)), .val (.ref b44), .val (.int ((p5 &&& (2147483647 : Int32)) % cn)), .unset]) rfl ?_
        exact kont
      have hix := own_mod2 p5 hcc.1
      have pre569 : ∀ t, Steps p.tables e below (T566.setTop (mkF m 139 #[.val (.int p0), .val (.int p1), .val (.int p2), .val (.int p3), .val (.int p4), .val (.int p5), .val (.int sA), .val (.int sB), .val (.int (3 : Int32)), .val (.int cn), .val (.int (1 : Int32)), .val (.ref b44), .val (.int ((p5 &&& (2147483647 : Int32)) % cn)), .unset] [(.int (((p5 &&& (2147483647 : Int32)) % cn) - sA)), (.ref b44)])) t → Steps p.tables e below (s₁.setTop (entryFrame m #[(.int p0), (.int p1), (.int p2), (.int p3), (.int p4), (.int p5)] maxLocals)) t := by
        intro t kont
        refine pre568 t ?_
        show Steps p.tables e below (T566.setTop (mkF m 132 #[.val (.int p0), .val (.int p1), .val (.int p2), .val (.int p3), .val (.int p4), .val (.int p5), .val (.int sA), .val (.int sB), .val (.int (3 : Int32)), .val (.int cn), .val (.int (1 : Int32)), .val (.ref b44), .val (.int ((p5 &&& (2147483647 : Int32)) % cn)), .unset] [])) _
        refine XS.aload X566.here hx rfl (hb hby at_132) rfl rfl ?_
        show Steps p.tables e below (T566.setTop (mkF m 134 #[.val (.int p0), .val (.int p1), .val (.int p2), .val (.int p3), .val (.int p4), .val (.int p5), .val (.int sA), .val (.int sB), .val (.int (3 : Int32)), .val (.int cn), .val (.int (1 : Int32)), .val (.ref b44), .val (.int ((p5 &&& (2147483647 : Int32)) % cn)), .unset] [(.ref b44)])) _
        refine XS.iload X566.here hx rfl (hb hby at_134) rfl ?_
        show Steps p.tables e below (T566.setTop (mkF m 136 #[.val (.int p0), .val (.int p1), .val (.int p2), .val (.int p3), .val (.int p4), .val (.int p5), .val (.int sA), .val (.int sB), .val (.int (3 : Int32)), .val (.int cn), .val (.int (1 : Int32)), .val (.ref b44), .val (.int ((p5 &&& (2147483647 : Int32)) % cn)), .unset] [(.int ((p5 &&& (2147483647 : Int32)) % cn)), (.ref b44)])) _
        refine XS.iload X566.here hx rfl (hb hby at_136) rfl ?_
        show Steps p.tables e below (T566.setTop (mkF m 138 #[.val (.int p0), .val (.int p1), .val (.int p2), .val (.int p3), .val (.int p4), .val (.int p5), .val (.int sA), .val (.int sB), .val (.int (3 : Int32)), .val (.int cn), .val (.int (1 : Int32)), .val (.ref b44), .val (.int ((p5 &&& (2147483647 : Int32)) % cn)), .unset] [(.int sA), (.int ((p5 &&& (2147483647 : Int32)) % cn)), (.ref b44)])) _
        refine XS.isub X566.here hx rfl (hb hby at_138) rfl ?_
        exact kont
      obtain ⟨cq570, kq570, q570a, q570b, q570c⟩ := isOf hZ rfl (H566).1
      obtain ⟨_, _, ⟨T570, L570, k570, n570⟩, -, X570, ⟨Lc570, hQ570, l570, y570, z570⟩, st570⟩ := X566.virtualBack hx (y := (⟨"com/example/impronta/impronta/engine/Alignments", "slot", "(I)I"⟩ : MethodName)) (z := (⟨"com/example/impronta/impronta/engine/Alignments", "slot", "(I)I"⟩ : MethodName)) hown (mvT hZ (hw _ (List.mem_of_getElem? (i := 46) rfl))) (mvT hZ (hw _ (List.mem_of_getElem? (i := 47) rfl))) (notFace_of_selects (args := #[]) (mvT hZ (hw _ (List.mem_of_getElem? (i := 49) rfl)))) (mvT hZ (hw _ (List.mem_of_getElem? (i := 49) rfl))) (mvT hZ (hw _ (List.mem_of_getElem? (i := 48) rfl))) (by decide) (backOf (W := 0) (rm7 l Z a0 hw [] b44 (((p5 &&& (2147483647 : Int32)) % cn) - sA) be503 ba bn bf p0 (1 : Int32) (-sA) (0 : Int32) ne503 (fun _ => (0 : Int32)) ga563 gn563 gf563  T566.heap n0 Z566 H566 (fun q => absurd q (by decide))) hZ (hw _ (List.mem_of_getElem? (i := 50) rfl)) (hw _ (List.mem_of_getElem? (i := 2) rfl)) (by decide) (by decide)) q570a q570c (g := (mkF m 139 #[.val (.int p0), .val (.int p1), .val (.int p2), .val (.int p3), .val (.int p4), .val (.int p5), .val (.int sA), .val (.int sB), .val (.int (3 : Int32)), .val (.int cn), .val (.int (1 : Int32)), .val (.ref b44), .val (.int ((p5 &&& (2147483647 : Int32)) % cn)), .unset] [(.int (((p5 &&& (2147483647 : Int32)) % cn) - sA)), (.ref b44)])) rfl (by rw [hml]; rfl) (Steps.refl _) (argsL := [(.int (((p5 &&& (2147483647 : Int32)) % cn) - sA))]) (rest := []) (lenOf pd_2 rfl) rfl (by show 2 * 0 + _ ≤ _; exact Nat.le_of_eq rfl) (hb hby at_139) (fun _ _ => ⟨rfl, rfl, (by decide : 6 + 0 ≤ _), (by decide : 80 + 0 ≤ _)⟩)
      dsimp only [Pt.U, Pt.locs, Pt.cells, Pt.slots] at X570 l570 y570 z570 st570 hQ570
      subst l570 y570 z570
      obtain ⟨rfl, N570q, e570⟩ := hQ570
      have N570 := Fr.app N566 N570q
      have pre571 : ∀ t, Steps p.tables e below (T570.setTop (mkF m 142 #[.val (.int p0), .val (.int p1), .val (.int p2), .val (.int p3), .val (.int p4), .val (.int p5), .val (.int sA), .val (.int sB), .val (.int (3 : Int32)), .val (.int cn), .val (.int (1 : Int32)), .val (.ref b44), .val (.int ((p5 &&& (2147483647 : Int32)) % cn)), .unset] [(.int (own_slot (1 : Int32) (-sA) ga563 (((p5 &&& (2147483647 : Int32)) % cn) - sA)))])) t → Steps p.tables e below (s₁.setTop (entryFrame m #[(.int p0), (.int p1), (.int p2), (.int p3), (.int p4), (.int p5)] maxLocals)) t := fun t kont => pre569 t (st570.trans kont)
      have rq572 : (own_slot (1 : Int32) (-sA) ga563 (((p5 &&& (2147483647 : Int32)) % cn) - sA)) = ((p5 &&& (2147483647 : Int32)) % cn) := own_sA _ _ _
      rw [rq572] at pre571
      have pre573 : ∀ t, Steps p.tables e below (T570.setTop (mkF m 148 #[.val (.int p0), .val (.int p1), .val (.int p2), .val (.int p3), .val (.int p4), .val (.int p5), .val (.int sA), .val (.int sB), .val (.int (3 : Int32)), .val (.int cn), .val (.int (1 : Int32)), .val (.ref b44), .val (.int ((p5 &&& (2147483647 : Int32)) % cn)), .val (.int ((p5 &&& (2147483647 : Int32)) % cn))] [(.int ((p5 &&& (2147483647 : Int32)) % cn)), (.int ((p5 &&& (2147483647 : Int32)) % cn))])) t → Steps p.tables e below (s₁.setTop (entryFrame m #[(.int p0), (.int p1), (.int p2), (.int p3), (.int p4), (.int p5)] maxLocals)) t := by
        intro t kont
        refine pre571 t ?_
        show Steps p.tables e below (T570.setTop (mkF m 142 #[.val (.int p0), .val (.int p1), .val (.int p2), .val (.int p3), .val (.int p4), .val (.int p5), .val (.int sA), .val (.int sB), .val (.int (3 : Int32)), .val (.int cn), .val (.int (1 : Int32)), .val (.ref b44), .val (.int ((p5 &&& (2147483647 : Int32)) % cn)), .unset] [(.int ((p5 &&& (2147483647 : Int32)) % cn))])) _
        refine XS.istore X570.here hx rfl (hb hby at_142) rfl (l' := #[.val (.int p0), .val (.int p1), .val (.int p2), .val (.int p3), .val (.int p4), .val (.int p5), .val (.int sA), .val (.int sB), .val (.int (3 : Int32)), .val (.int cn), .val (.int (1 : Int32)), .val (.ref b44), .val (.int ((p5 &&& (2147483647 : Int32)) % cn)), .val (.int ((p5 &&& (2147483647 : Int32)) % cn))]) rfl ?_
        show Steps p.tables e below (T570.setTop (mkF m 144 #[.val (.int p0), .val (.int p1), .val (.int p2), .val (.int p3), .val (.int p4), .val (.int p5), .val (.int sA), .val (.int sB), .val (.int (3 : Int32)), .val (.int cn), .val (.int (1 : Int32)), .val (.ref b44), .val (.int ((p5 &&& (2147483647 : Int32)) % cn)), .val (.int ((p5 &&& (2147483647 : Int32)) % cn))] [])) _
        refine XS.iload X570.here hx rfl (hb hby at_144) rfl ?_
        show Steps p.tables e below (T570.setTop (mkF m 146 #[.val (.int p0), .val (.int p1), .val (.int p2), .val (.int p3), .val (.int p4), .val (.int p5), .val (.int sA), .val (.int sB), .val (.int (3 : Int32)), .val (.int cn), .val (.int (1 : Int32)), .val (.ref b44), .val (.int ((p5 &&& (2147483647 : Int32)) % cn)), .val (.int ((p5 &&& (2147483647 : Int32)) % cn))] [(.int ((p5 &&& (2147483647 : Int32)) % cn))])) _
        refine XS.iload X570.here hx rfl (hb hby at_146) rfl ?_
        exact kont
      by_cases hc148 : ((p5 &&& (2147483647 : Int32)) % cn) = ((p5 &&& (2147483647 : Int32)) % cn)
      · have pre574 : ∀ t, Steps p.tables e below (T570.setTop (mkF m 155 #[.val (.int p0), .val (.int p1), .val (.int p2), .val (.int p3), .val (.int p4), .val (.int p5), .val (.int sA), .val (.int sB), .val (.int (3 : Int32)), .val (.int cn), .val (.int (1 : Int32)), .val (.ref b44), .val (.int ((p5 &&& (2147483647 : Int32)) % cn)), .val (.int ((p5 &&& (2147483647 : Int32)) % cn))] [(.int ((p5 &&& (2147483647 : Int32)) % cn)), (.ref b44)])) t → Steps p.tables e below (s₁.setTop (entryFrame m #[(.int p0), (.int p1), (.int p2), (.int p3), (.int p4), (.int p5)] maxLocals)) t := by
          intro t kont
          refine pre573 t ?_
          show Steps p.tables e below (T570.setTop (mkF m 148 #[.val (.int p0), .val (.int p1), .val (.int p2), .val (.int p3), .val (.int p4), .val (.int p5), .val (.int sA), .val (.int sB), .val (.int (3 : Int32)), .val (.int cn), .val (.int (1 : Int32)), .val (.ref b44), .val (.int ((p5 &&& (2147483647 : Int32)) % cn)), .val (.int ((p5 &&& (2147483647 : Int32)) % cn))] [(.int ((p5 &&& (2147483647 : Int32)) % cn)), (.int ((p5 &&& (2147483647 : Int32)) % cn))])) _
          refine XS.icmpNo X570.here hx rfl (hb hby at_148) rfl (teq hc148).2 ?_
          show Steps p.tables e below (T570.setTop (mkF m 151 #[.val (.int p0), .val (.int p1), .val (.int p2), .val (.int p3), .val (.int p4), .val (.int p5), .val (.int sA), .val (.int sB), .val (.int (3 : Int32)), .val (.int cn), .val (.int (1 : Int32)), .val (.ref b44), .val (.int ((p5 &&& (2147483647 : Int32)) % cn)), .val (.int ((p5 &&& (2147483647 : Int32)) % cn))] [])) _
          refine XS.aload X570.here hx rfl (hb hby at_151) rfl rfl ?_
          show Steps p.tables e below (T570.setTop (mkF m 153 #[.val (.int p0), .val (.int p1), .val (.int p2), .val (.int p3), .val (.int p4), .val (.int p5), .val (.int sA), .val (.int sB), .val (.int (3 : Int32)), .val (.int cn), .val (.int (1 : Int32)), .val (.ref b44), .val (.int ((p5 &&& (2147483647 : Int32)) % cn)), .val (.int ((p5 &&& (2147483647 : Int32)) % cn))] [(.ref b44)])) _
          refine XS.iload X570.here hx rfl (hb hby at_153) rfl ?_
          exact kont
        obtain ⟨cq575, kq575, q575a, q575b, q575c⟩ := isOf hZ e570 (H566).1
        obtain ⟨_, _, ⟨T575, L575, k575, n575⟩, -, X575, ⟨Lc575, hQ575, l575, y575, z575⟩, st575⟩ := X570.virtualBack hx (y := (⟨"com/example/impronta/impronta/engine/Alignments", "end", "(I)I"⟩ : MethodName)) (z := (⟨"com/example/impronta/impronta/engine/Alignments", "end", "(I)I"⟩ : MethodName)) hown (mvT hZ (hw _ (List.mem_of_getElem? (i := 53) rfl))) (mvT hZ (hw _ (List.mem_of_getElem? (i := 54) rfl))) (notFace_of_selects (args := #[]) (mvT hZ (hw _ (List.mem_of_getElem? (i := 56) rfl)))) (mvT hZ (hw _ (List.mem_of_getElem? (i := 56) rfl))) (mvT hZ (hw _ (List.mem_of_getElem? (i := 55) rfl))) (by decide) (backOf (W := 0) (rm8 l Z a0 hw [] b44 ((p5 &&& (2147483647 : Int32)) % cn) be503 ba bn bf p0 (1 : Int32) (-sA) (0 : Int32) ne503 (fun _ => (0 : Int32)) ga563 gn563 gf563 ((p5 &&& (2147483647 : Int32)) % cn).toNatClampNeg  T566.heap n0 Z566 H566 (own_i0 hix.1) rfl (fun q => absurd q (by decide)) (fun _ => own_natlt hix.1 (by omega))) hZ (hw _ (List.mem_of_getElem? (i := 57) rfl)) (hw _ (List.mem_of_getElem? (i := 2) rfl)) (by decide) (by decide)) q575a q575c (g := (mkF m 155 #[.val (.int p0), .val (.int p1), .val (.int p2), .val (.int p3), .val (.int p4), .val (.int p5), .val (.int sA), .val (.int sB), .val (.int (3 : Int32)), .val (.int cn), .val (.int (1 : Int32)), .val (.ref b44), .val (.int ((p5 &&& (2147483647 : Int32)) % cn)), .val (.int ((p5 &&& (2147483647 : Int32)) % cn))] [(.int ((p5 &&& (2147483647 : Int32)) % cn)), (.ref b44)])) rfl (by rw [hml]; rfl) (Steps.refl _) (argsL := [(.int ((p5 &&& (2147483647 : Int32)) % cn))]) (rest := []) (lenOf pd_2 rfl) rfl (by show 2 * 0 + _ ≤ _; exact Nat.le_of_eq rfl) (hb hby at_155) (fun _ _ => ⟨rfl, e570, (by decide : 6 + 0 ≤ _), (by decide : 80 + 0 ≤ _)⟩)
        dsimp only [Pt.U, Pt.locs, Pt.cells, Pt.slots] at X575 l575 y575 z575 st575 hQ575
        subst l575 y575 z575
        obtain ⟨rfl, N575q, e575⟩ := hQ575
        have N575 := Fr.app N570 N575q
        have pre576 : ∀ t, Steps p.tables e below (T575.setTop (mkF m 158 #[.val (.int p0), .val (.int p1), .val (.int p2), .val (.int p3), .val (.int p4), .val (.int p5), .val (.int sA), .val (.int sB), .val (.int (3 : Int32)), .val (.int cn), .val (.int (1 : Int32)), .val (.ref b44), .val (.int ((p5 &&& (2147483647 : Int32)) % cn)), .val (.int ((p5 &&& (2147483647 : Int32)) % cn))] [(.int (own_end (1 : Int32) (fun _ => (0 : Int32)) gn563 ((p5 &&& (2147483647 : Int32)) % cn).toNatClampNeg))])) t → Steps p.tables e below (s₁.setTop (entryFrame m #[(.int p0), (.int p1), (.int p2), (.int p3), (.int p4), (.int p5)] maxLocals)) t := fun t kont => pre574 t (st575.trans kont)
        have rq577 : (own_end (1 : Int32) (fun _ => (0 : Int32)) gn563 ((p5 &&& (2147483647 : Int32)) % cn).toNatClampNeg) = (0 : Int32) := own_end1 _ _ _
        rw [rq577] at pre576
        have pre578 : ∀ t, Steps p.tables e below (T575.setTop (mkF m 166 #[.val (.int p0), .val (.int p1), .val (.int p2), .val (.int p3), .val (.int p4), .val (.int p5), .val (.int sA), .val (.int sB), .val (.int (3 : Int32)), .val (.int cn), .val (.int (1 : Int32)), .val (.ref b44), .val (.int ((p5 &&& (2147483647 : Int32)) % cn)), .val (.int ((p5 &&& (2147483647 : Int32)) % cn))] [(.int (1 : Int32))])) t → Steps p.tables e below (s₁.setTop (entryFrame m #[(.int p0), (.int p1), (.int p2), (.int p3), (.int p4), (.int p5)] maxLocals)) t := by
          intro t kont
          refine pre576 t ?_
          show Steps p.tables e below (T575.setTop (mkF m 158 #[.val (.int p0), .val (.int p1), .val (.int p2), .val (.int p3), .val (.int p4), .val (.int p5), .val (.int sA), .val (.int sB), .val (.int (3 : Int32)), .val (.int cn), .val (.int (1 : Int32)), .val (.ref b44), .val (.int ((p5 &&& (2147483647 : Int32)) % cn)), .val (.int ((p5 &&& (2147483647 : Int32)) % cn))] [(.int (0 : Int32))])) _
          refine XS.ifNo X575.here hx rfl (hb hby at_158) rfl ((if0 _ _).trans (teq (by decide)).2) ?_
          show Steps p.tables e below (T575.setTop (mkF m 161 #[.val (.int p0), .val (.int p1), .val (.int p2), .val (.int p3), .val (.int p4), .val (.int p5), .val (.int sA), .val (.int sB), .val (.int (3 : Int32)), .val (.int cn), .val (.int (1 : Int32)), .val (.ref b44), .val (.int ((p5 &&& (2147483647 : Int32)) % cn)), .val (.int ((p5 &&& (2147483647 : Int32)) % cn))] [])) _
          refine XS.iconst X575.here hx rfl (hb hby at_161) ?_
          show Steps p.tables e below (T575.setTop (mkF m 162 #[.val (.int p0), .val (.int p1), .val (.int p2), .val (.int p3), .val (.int p4), .val (.int p5), .val (.int sA), .val (.int sB), .val (.int (3 : Int32)), .val (.int cn), .val (.int (1 : Int32)), .val (.ref b44), .val (.int ((p5 &&& (2147483647 : Int32)) % cn)), .val (.int ((p5 &&& (2147483647 : Int32)) % cn))] [(.int (1 : Int32))])) _
          refine XS.goto X575.here hx rfl (pc0 := 162) (pc' := 166) rfl (hb hby at_162) (by decide) (by decide) ?_
          exact kont
        obtain ⟨fs, hr, hrun, hended, hW, hsame⟩ := X575.leave (v := some (.int (1 : Int32))) (fun h => by rw [Bd.returns] at h; cases h)
        refine ⟨_, _, pre578 _ ?_, hrun, hended, _, _, rfl, ?_, ⟨_, rfl⟩, hW, hsame.mono (by decide) (by decide)⟩
        · exact retN X575 hx (t := .boolean) Bd.returns (by simp) (hb hby at_166) hr
        · show Q0 Z p0 p1 p2 p3 p4 p5 h0 n0 _ T575.heap _
          rw [e575]
          exact ⟨rfl, N575⟩
      · exfalso
        first | exact hc158 rfl | exact hc148 rfl
set_option maxRecDepth 65536 in
set_option maxHeartbeats 40000000 in
theorem comes_1 {Post : Tables → Env → Array Value → State → Outcome → State → Prop} (hpost : ∀ tb e args s v u, (limb_1_1.after args s (.returned v) u = true ∧ limb_1_2.after args s (.returned v) u = true ∧ True) → FrameEnd s (.returned v) u (Jvm.fieldLocs frame_1_writes args s ++ Jvm.arrayLocs frame_1_arrays args s ++ Jvm.staticLocs frame_1_statics s) 24 256 → Post tb e args s (.returned v) u) :
    ArmFor flags0 classFile x code maxLocals ret World_1 tables_1 room_1 Calls_1 rest_1 Pre_1 Post := by
  intro l hfl _ _ p e ha hc hk s m args below hf hA hF happ hP
  obtain ⟨hcalls, hrest, hpre⟩ := hP
  obtain ⟨-, -, -, hnamed, -, -, -, hat⟩ := (Spec.applies_iff hf).mp happ
  obtain ⟨hg, hn⟩ := and_e (Cond.before_iff.mp (show (Jvm.Cond.and given_1 narrow_1).before args s = true from hpre))
  obtain ⟨g1, g2⟩ := and_e hg
  obtain ⟨g3, g4⟩ := and_e g2
  obtain ⟨g5, g6⟩ := and_e g4
  obtain ⟨g7, g8⟩ := and_e g6
  obtain ⟨g9, g10⟩ := and_e g8
  obtain ⟨g11, g12⟩ := and_e g10
  obtain ⟨w0, w1, w2, w3, w4, w5, rfl⟩ : ∃ w0 w1 w2 w3 w4 w5 : Value, args = #[w0, w1, w2, w3, w4, w5] := by
    have hs : args.size = 6 := by simpa [Cond.value, given_1] using g1
    obtain ⟨L⟩ := args
    match L, hs with
    | [w0, w1, w2, w3, w4, w5], _ => exact ⟨w0, w1, w2, w3, w4, w5, rfl⟩
  have hw := fun d (hd : d ∈ tables_1) => atoms_spec (ws := Jvm.Cond.code x code maxLocals ret :: tables_1) hat d (List.mem_cons_of_mem _ hd)
  have hfit : Fit s := fun {y c} hc i hi => by
    obtain ⟨ha, rfl⟩ := Array.getElem?_eq_some_iff.mp hc
    have q := List.all_eq_true.mp ((Array.all_eq_true_iff_forall_mem.mp hF) _ (Array.getElem_mem ha)) i (List.mem_range.mpr hi)
    simpa [Array.getElem?_eq_getElem hi] using q
  obtain ⟨i0, ei0⟩ := is_v g3
  obtain rfl : w0 = (.int i0) := Option.some.inj ei0
  obtain ⟨i1, ei1⟩ := is_v g5
  obtain rfl : w1 = (.int i1) := Option.some.inj ei1
  obtain ⟨i2, ei2⟩ := is_v g7
  obtain rfl : w2 = (.int i2) := Option.some.inj ei2
  obtain ⟨i3, ei3⟩ := is_v g9
  obtain rfl : w3 = (.int i3) := Option.some.inj ei3
  obtain ⟨i4, ei4⟩ := is_v g11
  obtain rfl : w4 = (.int i4) := Option.some.inj ei4
  obtain ⟨i5, ei5⟩ := is_v g12
  obtain rfl : w5 = (.int i5) := Option.some.inj ei5
  obtain ⟨n, o, h1, h2, h3, _, L, rfl, ⟨rfl, N⟩, hq⟩ := rm0 l s _ hw tables_1 i0 i1 i2 i3 i4 i5 s.heap s.heap.size (Nat.le_refl _) p e ha hc hk s m _ below hf ((Spec.applies_iff_loose hf).mp happ).1 ⟨rfl, State.Warmed39.refl s, rfl⟩ trivial
  refine ⟨n, _, h1, h2, h3, hpost _ _ _ _ _ _ ⟨Cond.after_iff.mpr rfl, Cond.after_iff.mpr (eq_i res_at (Term.int_eval (1)) rfl), trivial⟩ ⟨hq.1, hq.2.1, (hq.2.2.sift fun y hy => Or.inr (N y hy)).mono (by decide) (by decide)⟩⟩
theorem main_1_1 : Claimed_1_1 := comes_1 fun _ _ _ _ _ _ h hF => ⟨h.1, hF⟩
theorem main_1_2 : Claimed_1_2 := comes_1 fun _ _ _ _ _ _ h hF => ⟨h.2.1, hF⟩
end Jvm.Pilot.@@N@@
namespace Jvm.Pilot.@@N@@
open Jvm Jvm.ClassFile Sem Op Lib Jvm.Free Jvm.Stand Jvm.Pilot.@@N@@.Jvm.D
/-! MADE BY PROGRAM (witnessworld.py) out of the Statement's table words and the real class files: 10 classes; the members and pool entries that the words name. The judged class is class 1, her method 1. -/
namespace start1
open Jvm.ClassFile
def u (s : String) : CpInfo := .utf8 (stringToUtf16 s)
/-- a pool by its gaps: so many unusable entries, then the entry; so many at the end -/
def gap : Nat → List CpInfo → List CpInfo
  | 0, r => r
  | n + 1, r => .unusable :: gap n r
def poolList (es : List (Nat × CpInfo)) (last : Nat) : List CpInfo := es.foldr (fun e r => gap e.1 (e.2 :: r)) (gap last [])
def pool (es : List (Nat × CpInfo)) (last : Nat) : Array CpInfo := ⟨poolList es last⟩
def fileOf (pool : Array CpInfo) (this : Nat) (attrs : Array Attribute := #[]) (ms : Array MethodInfo := #[]) (fl : Nat := 33) (sup : Nat := 0) (ifs : Array Nat := #[]) (fds : Array FieldInfo := #[]) : ClassFile where
  minorVersion := 0
  majorVersion := 65
  constantPool := pool
  accessFlags := fl
  thisClass := this
  superClass := sup
  interfaces := ifs
  fields := fds
  methods := ms
  attributes := attrs
def plain (name : String) (sup : Option ClassId) : Class where
  name := name
  kind := .ordinary
  loader := none
  accessFlags := 33
  super := sup
  interfaces := #[]
  cf := none
  fields := #[]
  methods := #[]
  instanceTypes := #[]
  staticTypes := #[]
  resolved := #[]
  callSites := []
  init := .initialized
  statics := none
  mirror := none

def pool0 : Array CpInfo := pool [(5, u "<init>"), (0, u "()V"), (1, .class_ 10), (1, u "java/lang/Object")] 113

def k0c0 : Code := { maxStack := 0, maxLocals := 1, code := object_method_1_code, exceptionTable := #[], attributes := #[] }
def k0m0 : Method := { name := "<init>", desc := "()V", sig := { parameters := [], returnType := none }, accessFlags := 1, code := some k0c0 }
/-- java/lang/Object -/
def k0 : Class := { plain "java/lang/Object" none with
  accessFlags := 33
  interfaces := #[]
  cf := some (fileOf pool0 8 #[] #[{ accessFlags := 1, nameIndex := 5, descriptorIndex := 6, attributes := #[] }] 33 0 #[] #[])
  fields := #[]
  methods := #[k0m0]
  instanceTypes := #[]
  staticTypes := #[]
  resolved := Array.replicate 124 none
  statics := none }

def pool1 : Array CpInfo := pool [(2, .class_ 4), (1, u "java/lang/Object"), (0, u "<init>"), (0, u "()V"), (0, .class_ 8), (0, u "com/example/impronta/impronta/engine/Alignments"), (0, .methodref 7 10), (0, .nameAndType 5 11), (0, u "(I)V"), (0, .methodref 7 13), (0, .nameAndType 14 15), (0, u "start"), (0, u "(II)V"), (0, .methodref 17 18), (0, .class_ 19), (0, .nameAndType 20 21), (0, u "com/example/impronta/impronta/engine/AlignmentsClearPinLaw"), (0, u "putOne"), (0, u "(Lcom/example/impronta/impronta/engine/Alignments;III)V"), (0, .methodref 7 23), (0, .nameAndType 24 6), (0, u "clear"), (0, .integer 2147483647), (0, .methodref 7 27), (0, .nameAndType 28 29), (0, u "slot"), (0, u "(I)I"), (0, .methodref 7 31), (0, .nameAndType 32 29), (0, u "end"), (0, .integer 2654435769), (0, .integer 65535), (0, .methodref 7 36), (0, .nameAndType 37 38), (0, u "put"), (0, u "(III)V"), (2, u "law"), (0, u "(IIIIII)Z")] 3

def k1m0 : Method := { name := "<init>", desc := "()V", sig := { parameters := [], returnType := none }, accessFlags := 1, code := none }
def k1c1 : Code := { maxStack := 4, maxLocals := 14, code := code, exceptionTable := #[], attributes := #[] }
def k1m1 : Method := { name := "law", desc := "(IIIIII)Z", sig := { parameters := [.int, .int, .int, .int, .int, .int], returnType := some .boolean }, accessFlags := 9, code := some k1c1 }
def k1c2 : Code := { maxStack := 5, maxLocals := 6, code := method_3_code, exceptionTable := #[], attributes := #[] }
def k1m2 : Method := { name := "putOne", desc := "(Lcom/example/impronta/impronta/engine/Alignments;III)V", sig := { parameters := [(.object "com/example/impronta/impronta/engine/Alignments"), .int, .int, .int], returnType := none }, accessFlags := 10, code := some k1c2 }
/-- com/example/impronta/impronta/engine/AlignmentsClearPinLaw -/
def k1 : Class := { plain "com/example/impronta/impronta/engine/AlignmentsClearPinLaw" (some 0) with
  accessFlags := 49
  interfaces := #[]
  cf := some (fileOf pool1 17 #[] #[{ accessFlags := 1, nameIndex := 5, descriptorIndex := 6, attributes := #[] }, { accessFlags := 9, nameIndex := 41, descriptorIndex := 42, attributes := #[] }, { accessFlags := 10, nameIndex := 20, descriptorIndex := 21, attributes := #[] }] 49 2 #[] #[])
  fields := #[]
  methods := #[k1m0, k1m1, k1m2]
  instanceTypes := #[]
  staticTypes := #[]
  resolved := Array.replicate 46 none
  statics := none }

def pool2 : Array CpInfo := pool [(3, .methodref 4 5), (0, .class_ 6), (0, .nameAndType 7 8), (0, u "java/lang/Object"), (0, u "<init>"), (0, u "()V"), (0, .fieldref 10 11), (0, .class_ 12), (0, .nameAndType 13 14), (0, u "com/example/impronta/impronta/engine/Alignments"), (0, u "endsByAlignment"), (0, u "[I"), (0, .methodref 10 16), (0, .nameAndType 17 18), (0, u "emptySlots"), (0, u "(I)[I"), (0, .fieldref 10 20), (0, .nameAndType 21 14), (0, u "alignments"), (0, .fieldref 10 23), (0, .nameAndType 24 14), (0, u "ends"), (0, .fieldref 10 26), (0, .nameAndType 27 28), (0, u "shift"), (0, u "I"), (0, .fieldref 10 30), (0, .nameAndType 31 14), (0, u "filled"), (0, .fieldref 10 33), (0, .nameAndType 34 28), (0, u "direct"), (0, .fieldref 10 36), (0, .nameAndType 37 38), (0, u "ownSlots"), (0, u "Z"), (0, .fieldref 10 40), (0, .nameAndType 41 28), (0, u "lowest"), (0, .integer 2654435769), (0, .integer 2147483648), (0, .methodref 10 45), (0, .nameAndType 46 47), (0, u "end"), (0, u "(I)I"), (0, .fieldref 10 49), (0, .nameAndType 50 28), (0, u "size"), (1, .class_ 54), (1, u "java/util/Arrays"), (7, u "slot"), (2, u "put"), (0, u "(III)V"), (0, .methodref 52 68), (0, .nameAndType 69 70), (0, u "fill"), (0, u "([II)V"), (0, u "EMPTY"), (1, u "(I)V"), (2, u "start"), (0, u "(II)V"), (1, u "clear")] 3

def k2c0 : Code := { maxStack := 2, maxLocals := 2, code := prog_18_method_1_code, exceptionTable := #[], attributes := #[] }
def k2m0 : Method := { name := "<init>", desc := "(I)V", sig := { parameters := [.int], returnType := none }, accessFlags := 0, code := some k2c0 }
def k2c1 : Code := { maxStack := 5, maxLocals := 5, code := prog_18_method_2_code, exceptionTable := #[], attributes := #[] }
def k2m1 : Method := { name := "start", desc := "(II)V", sig := { parameters := [.int, .int], returnType := none }, accessFlags := 0, code := some k2c1 }
def k2c2 : Code := { maxStack := 2, maxLocals := 4, code := prog_18_method_3_code, exceptionTable := #[], attributes := #[] }
def k2m2 : Method := { name := "slot", desc := "(I)I", sig := { parameters := [.int], returnType := some .int }, accessFlags := 0, code := some k2c2 }
def k2c3 : Code := { maxStack := 2, maxLocals := 2, code := prog_18_method_4_code, exceptionTable := #[], attributes := #[] }
def k2m3 : Method := { name := "end", desc := "(I)I", sig := { parameters := [.int], returnType := some .int }, accessFlags := 0, code := some k2c3 }
def k2c4 : Code := { maxStack := 5, maxLocals := 4, code := prog_18_method_5_code, exceptionTable := #[], attributes := #[] }
def k2m4 : Method := { name := "put", desc := "(III)V", sig := { parameters := [.int, .int, .int], returnType := none }, accessFlags := 0, code := some k2c4 }
def k2c5 : Code := { maxStack := 3, maxLocals := 2, code := prog_18_method_6_code, exceptionTable := #[], attributes := #[] }
def k2m5 : Method := { name := "clear", desc := "()V", sig := { parameters := [], returnType := none }, accessFlags := 0, code := some k2c5 }
def k2c6 : Code := { maxStack := 2, maxLocals := 2, code := prog_18_method_8_code, exceptionTable := #[], attributes := #[] }
def k2m6 : Method := { name := "emptySlots", desc := "(I)[I", sig := { parameters := [.int], returnType := some (.array .int) }, accessFlags := 10, code := some k2c6 }
/-- com/example/impronta/impronta/engine/Alignments -/
def k2 : Class := { plain "com/example/impronta/impronta/engine/Alignments" (some 0) with
  accessFlags := 32
  interfaces := #[]
  cf := some (fileOf pool2 10 #[] #[{ accessFlags := 0, nameIndex := 7, descriptorIndex := 73, attributes := #[] }, { accessFlags := 0, nameIndex := 76, descriptorIndex := 77, attributes := #[] }, { accessFlags := 0, nameIndex := 62, descriptorIndex := 47, attributes := #[] }, { accessFlags := 0, nameIndex := 46, descriptorIndex := 47, attributes := #[] }, { accessFlags := 0, nameIndex := 65, descriptorIndex := 66, attributes := #[] }, { accessFlags := 0, nameIndex := 79, descriptorIndex := 8, attributes := #[] }, { accessFlags := 10, nameIndex := 17, descriptorIndex := 18, attributes := #[] }] 32 4 #[] #[{ accessFlags := 26, nameIndex := 71, descriptorIndex := 28, attributes := #[] }, { accessFlags := 18, nameIndex := 34, descriptorIndex := 28, attributes := #[] }, { accessFlags := 2, nameIndex := 37, descriptorIndex := 38, attributes := #[] }, { accessFlags := 2, nameIndex := 41, descriptorIndex := 28, attributes := #[] }, { accessFlags := 2, nameIndex := 13, descriptorIndex := 14, attributes := #[] }, { accessFlags := 2, nameIndex := 21, descriptorIndex := 14, attributes := #[] }, { accessFlags := 2, nameIndex := 24, descriptorIndex := 14, attributes := #[] }, { accessFlags := 2, nameIndex := 27, descriptorIndex := 28, attributes := #[] }, { accessFlags := 2, nameIndex := 31, descriptorIndex := 14, attributes := #[] }, { accessFlags := 2, nameIndex := 50, descriptorIndex := 28, attributes := #[] }])
  fields := #[{ name := "EMPTY", type := .int, accessFlags := 26, slot := 0, constantValue := 0 }, { name := "direct", type := .int, accessFlags := 18, slot := 0, constantValue := 0 }, { name := "ownSlots", type := .boolean, accessFlags := 2, slot := 1, constantValue := 0 }, { name := "lowest", type := .int, accessFlags := 2, slot := 2, constantValue := 0 }, { name := "endsByAlignment", type := (.array .int), accessFlags := 2, slot := 3, constantValue := 0 }, { name := "alignments", type := (.array .int), accessFlags := 2, slot := 4, constantValue := 0 }, { name := "ends", type := (.array .int), accessFlags := 2, slot := 5, constantValue := 0 }, { name := "shift", type := .int, accessFlags := 2, slot := 6, constantValue := 0 }, { name := "filled", type := (.array .int), accessFlags := 2, slot := 7, constantValue := 0 }, { name := "size", type := .int, accessFlags := 2, slot := 8, constantValue := 0 }]
  methods := #[k2m0, k2m1, k2m2, k2m3, k2m4, k2m5, k2m6]
  instanceTypes := #[.int, .boolean, .int, (.array .int), (.array .int), (.array .int), .int, (.array .int), .int]
  staticTypes := #[.int]
  resolved := Array.replicate 83 none
  statics := none }

def pool3 : Array CpInfo := pool [(2, .class_ 4), (1, u "java/lang/Object"), (0, u "<init>"), (0, u "()V"), (7, .class_ 16), (1, u "java/util/Arrays"), (57, .class_ 76), (1, u "java/util/Arrays$NaturalOrder"), (36, .class_ 115), (1, u "java/util/Arrays$LegacyMergeSort"), (1, u "Z"), (257, .class_ 376), (0, u "java/util/Arrays$ArrayList"), (68, u "$assertionsDisabled"), (269, u "MIN_ARRAY_SORT_GRAN"), (0, u "I"), (2, u "INSERTIONSORT_THRESHOLD"), (120, u "fill"), (4, u "([II)V"), (129, .class_ 976), (0, u "java/util/Arrays$ArrayItr")] 52

def k3m0 : Method := { name := "<init>", desc := "()V", sig := { parameters := [], returnType := none }, accessFlags := 2, code := none }
def k3c1 : Code := { maxStack := 3, maxLocals := 4, code := jdk_65_method_103_code, exceptionTable := #[], attributes := #[] }
def k3m1 : Method := { name := "fill", desc := "([II)V", sig := { parameters := [(.array .int), .int], returnType := none }, accessFlags := 9, code := some k3c1 }
/-- java/util/Arrays -/
def k3 : Class := { plain "java/util/Arrays" (some 0) with
  accessFlags := 49
  interfaces := #[]
  cf := some (fileOf pool3 14 #[.nestMembers #[975, 375, 113, 74]] #[{ accessFlags := 2, nameIndex := 5, descriptorIndex := 6, attributes := #[] }, { accessFlags := 9, nameIndex := 840, descriptorIndex := 845, attributes := #[] }] 49 2 #[] #[{ accessFlags := 26, nameIndex := 715, descriptorIndex := 716, attributes := #[] }, { accessFlags := 26, nameIndex := 719, descriptorIndex := 716, attributes := #[] }, { accessFlags := 4120, nameIndex := 445, descriptorIndex := 117, attributes := #[] }])
  fields := #[{ name := "MIN_ARRAY_SORT_GRAN", type := .int, accessFlags := 26, slot := 0, constantValue := 0 }, { name := "INSERTIONSORT_THRESHOLD", type := .int, accessFlags := 26, slot := 1, constantValue := 0 }, { name := "$assertionsDisabled", type := .boolean, accessFlags := 4120, slot := 2, constantValue := 0 }]
  methods := #[k3m0, k3m1]
  instanceTypes := #[]
  staticTypes := #[.int, .int, .boolean]
  resolved := Array.replicate 1029 none
  statics := none }

def pool4 : Array CpInfo := pool [(1, u "java/lang/Cloneable"), (0, .class_ 1), (0, u "java/lang/Object"), (0, .class_ 3)] 3

/-- java/lang/Cloneable -/
def k4 : Class := { plain "java/lang/Cloneable" (some 0) with
  accessFlags := 1537
  interfaces := #[]
  cf := some (fileOf pool4 2 #[] #[] 1537 4 #[] #[])
  fields := #[]
  methods := #[]
  instanceTypes := #[]
  staticTypes := #[]
  resolved := Array.replicate 8 none
  statics := none }

def pool5 : Array CpInfo := pool [(1, u "java/io/Serializable"), (0, .class_ 1), (0, u "java/lang/Object"), (0, .class_ 3)] 3

/-- java/io/Serializable -/
def k5 : Class := { plain "java/io/Serializable" (some 0) with
  accessFlags := 1537
  interfaces := #[]
  cf := some (fileOf pool5 2 #[] #[] 1537 4 #[] #[])
  fields := #[]
  methods := #[]
  instanceTypes := #[]
  staticTypes := #[]
  resolved := Array.replicate 8 none
  statics := none }

/-- the primitive byte -/
def k6 : Class := { plain "byte" none with kind := .primitive 'B', accessFlags := 0x411 }
/-- [B -/
def k7 : Class := { plain "[B" (some 0) with kind := .array 6 .byte, interfaces := #[4, 5], accessFlags := 1041 }

/-- the primitive int -/
def k8 : Class := { plain "int" none with kind := .primitive 'I', accessFlags := 0x411 }
/-- [I -/
def k9 : Class := { plain "[I" (some 0) with kind := .array 8 .int, interfaces := #[4, 5], accessFlags := 1041 }

def heap : Heap := #[]
def classes : Array Class := #[k0, k1, k2, k3, k4, k5, k6, k7, k8, k9]
def interned : List (Array UInt16 × Addr) := []
def slotsUsed : Nat := 0
def theMethod : MethodId := ⟨1, 1⟩
def args0 : Array Value := #[.int 9, .int 10, .int 5, .int 1, .int 3, .int 2]
def aboutOver (below : List Frame) : State where
  vm := { classes := classes, interned := interned.toArray }
  heap := heap
  slotsUsed := slotsUsed
  threads := #[{ frames := .invoking theMethod args0 :: below }]
def below0 : List Frame := [.native { method := ⟨0, 0⟩, args := #[] }]
def about1 : State := aboutOver below0
def p0 : Program := .bare "" "" ""
def e0 : Env := launch0.env 0 0 0
theorem w_frames : about1.frames = Frame.invoking theMethod args0 :: below0 := rfl
set_option maxRecDepth 65536 in
theorem w_args : argsFit about1.vm theMethod args0 = true := by decide +kernel
set_option maxRecDepth 65536 in
theorem w_heap : heapFits about1 = true := by decide +kernel
set_option maxRecDepth 65536 in
theorem w_runnable : about1.curStatus? = some .runnable := by decide +kernel
set_option maxRecDepth 65536 in
theorem w_alone : about1.alone = true := by decide +kernel
set_option maxRecDepth 65536 in
theorem w_named : about1.methodNamed? x = some theMethod := by decide +kernel
set_option maxRecDepth 65536 in
theorem w_hears : about1.hears theMethod below0 = true := by decide +kernel
set_option maxRecDepth 65536 in
theorem w_ripe : about1.ripe theMethod args0 below0 = true := by decide +kernel
theorem w_running : about1.status = .running := rfl
set_option maxRecDepth 65536 in
theorem w_room : about1.hasRoom e0.platform room_1 = true :=
  launch0.hasRoom_least _ room_1 (by decide +kernel) (by decide +kernel) (by decide +kernel) (by decide +kernel) (by decide +kernel) (by decide +kernel)
theorem allAtoms_all (ts : List Jvm.Cond) (a : Array Jvm.Value) (st : Jvm.State) : (allAtoms ts).before a st = ts.all (fun c => c.before a st) := by
  induction ts with
  | nil => rfl
  | cons c t ih =>
    show (Jvm.Cond.and c (allAtoms t)).before a st = _
    rw [Jvm.Cond.before_and, ih, List.all_cons]
def words1 : List Jvm.Cond := Jvm.Cond.code x code maxLocals ret :: tables_1
/-- a 'code' word, met by the world's own term for the bytes: nothing is compared byte by byte -/
theorem code_word {y : MethodName} {bytes : ByteArray} {mx : Nat} {rt : Option FieldType} {a : Array Value} {s : State} {m : MethodId} {meth : Method} {c : Code} (h1 : s.methodNamed? y = some m) (h2 : s.vm.method? m = some meth) (h3 : meth.code = some c) (h4 : c.code = bytes)
    (h5 : (c.maxLocals == mx && c.exceptionTable.isEmpty && decide (c.maxStack ≤ mostOperands) && decide (meth.sig.returnType = rt) && !meth.locks && decide (parseMethodDescriptor y.desc = some meth.sig)) = true) : (Jvm.Cond.code y bytes mx rt).before a s = true := by
  simp only [Bool.and_eq_true, beq_iff_eq, Bool.not_eq_true', decide_eq_true_eq] at h5
  obtain ⟨⟨⟨⟨⟨g1, g2⟩, g3⟩, g4⟩, g5⟩, g6⟩ := h5
  simp [Cond.before, Cond.holds, Cond.value, h1, h2, h3, h4, g1, g2, g3, g4, g5, g6]
def isCode : Jvm.Cond → Bool
  | .code _ _ _ _ => true
  | _ => false
theorem all_split {L : List Jvm.Cond} {P : Jvm.Cond → Bool} (h1 : L.all (fun c => isCode c || P c) = true) (h2 : ∀ c ∈ L.filter isCode, P c = true) : L.all P = true := by
  refine List.all_eq_true.mpr fun c hc => ?_
  have h := List.all_eq_true.mp h1 c hc
  rcases Bool.eq_false_or_eq_true (isCode c) with hi | hi
  · exact h2 c (List.mem_filter.mpr ⟨hc, hi⟩)
  · simpa [hi] using h
set_option maxRecDepth 65536 in
theorem w_c0 : (Jvm.Cond.code x code maxLocals ret).before args0 about1 = true := code_word (m := ⟨1, 1⟩) (meth := k1m1) (c := k1c1) (by decide +kernel) rfl rfl rfl (by decide +kernel)
set_option maxRecDepth 65536 in
theorem w_c1 : (Jvm.Cond.code ({ cls := "com/example/impronta/impronta/engine/Alignments", name := "<init>", desc := "(I)V" } : Jvm.MethodName) prog_18_method_1_code (2 : Nat) (Option.none : Option Jvm.ClassFile.FieldType)).before args0 about1 = true := code_word (m := ⟨2, 0⟩) (meth := k2m0) (c := k2c0) (by decide +kernel) rfl rfl rfl (by decide +kernel)
set_option maxRecDepth 65536 in
theorem w_c2 : (Jvm.Cond.code ({ cls := "java/lang/Object", name := "<init>", desc := "()V" } : Jvm.MethodName) object_method_1_code (1 : Nat) (Option.none : Option Jvm.ClassFile.FieldType)).before args0 about1 = true := code_word (m := ⟨0, 0⟩) (meth := k0m0) (c := k0c0) (by decide +kernel) rfl rfl rfl (by decide +kernel)
set_option maxRecDepth 65536 in
theorem w_c3 : (Jvm.Cond.code ({ cls := "com/example/impronta/impronta/engine/Alignments", name := "emptySlots", desc := "(I)[I" } : Jvm.MethodName) prog_18_method_8_code (2 : Nat) (Option.some (Jvm.ClassFile.FieldType.array Jvm.ClassFile.FieldType.int))).before args0 about1 = true := code_word (m := ⟨2, 6⟩) (meth := k2m6) (c := k2c6) (by decide +kernel) rfl rfl rfl (by decide +kernel)
set_option maxRecDepth 65536 in
theorem w_c4 : (Jvm.Cond.code ({ cls := "java/util/Arrays", name := "fill", desc := "([II)V" } : Jvm.MethodName) jdk_65_method_103_code (4 : Nat) (Option.none : Option Jvm.ClassFile.FieldType)).before args0 about1 = true := code_word (m := ⟨3, 1⟩) (meth := k3m1) (c := k3c1) (by decide +kernel) rfl rfl rfl (by decide +kernel)
set_option maxRecDepth 65536 in
theorem w_c5 : (Jvm.Cond.code ({ cls := "com/example/impronta/impronta/engine/Alignments", name := "start", desc := "(II)V" } : Jvm.MethodName) prog_18_method_2_code (5 : Nat) (Option.none : Option Jvm.ClassFile.FieldType)).before args0 about1 = true := code_word (m := ⟨2, 1⟩) (meth := k2m1) (c := k2c1) (by decide +kernel) rfl rfl rfl (by decide +kernel)
set_option maxRecDepth 65536 in
theorem w_c6 : (Jvm.Cond.code ({ cls := "com/example/impronta/impronta/engine/Alignments", name := "clear", desc := "()V" } : Jvm.MethodName) prog_18_method_6_code (2 : Nat) (Option.none : Option Jvm.ClassFile.FieldType)).before args0 about1 = true := code_word (m := ⟨2, 5⟩) (meth := k2m5) (c := k2c5) (by decide +kernel) rfl rfl rfl (by decide +kernel)
set_option maxRecDepth 65536 in
theorem w_c7 : (Jvm.Cond.code ({ cls := "com/example/impronta/impronta/engine/Alignments", name := "slot", desc := "(I)I" } : Jvm.MethodName) prog_18_method_3_code (4 : Nat) (Option.some Jvm.ClassFile.FieldType.int)).before args0 about1 = true := code_word (m := ⟨2, 2⟩) (meth := k2m2) (c := k2c2) (by decide +kernel) rfl rfl rfl (by decide +kernel)
set_option maxRecDepth 65536 in
theorem w_c8 : (Jvm.Cond.code ({ cls := "com/example/impronta/impronta/engine/Alignments", name := "end", desc := "(I)I" } : Jvm.MethodName) prog_18_method_4_code (2 : Nat) (Option.some Jvm.ClassFile.FieldType.int)).before args0 about1 = true := code_word (m := ⟨2, 3⟩) (meth := k2m3) (c := k2c3) (by decide +kernel) rfl rfl rfl (by decide +kernel)
set_option maxRecDepth 65536 in
theorem w_c9 : (Jvm.Cond.code ({ cls := "com/example/impronta/impronta/engine/AlignmentsClearPinLaw", name := "putOne", desc := "(Lcom/example/impronta/impronta/engine/Alignments;III)V" } : Jvm.MethodName) method_3_code (6 : Nat) (Option.none : Option Jvm.ClassFile.FieldType)).before args0 about1 = true := code_word (m := ⟨1, 2⟩) (meth := k1m2) (c := k1c2) (by decide +kernel) rfl rfl rfl (by decide +kernel)
set_option maxRecDepth 65536 in
theorem w_c10 : (Jvm.Cond.code ({ cls := "com/example/impronta/impronta/engine/Alignments", name := "put", desc := "(III)V" } : Jvm.MethodName) prog_18_method_5_code (4 : Nat) (Option.none : Option Jvm.ClassFile.FieldType)).before args0 about1 = true := code_word (m := ⟨2, 4⟩) (meth := k2m4) (c := k2c4) (by decide +kernel) rfl rfl rfl (by decide +kernel)
def codes1 : List Jvm.Cond := [Jvm.Cond.code x code maxLocals ret, Jvm.Cond.code ({ cls := "com/example/impronta/impronta/engine/Alignments", name := "<init>", desc := "(I)V" } : Jvm.MethodName) prog_18_method_1_code (2 : Nat) (Option.none : Option Jvm.ClassFile.FieldType), Jvm.Cond.code ({ cls := "java/lang/Object", name := "<init>", desc := "()V" } : Jvm.MethodName) object_method_1_code (1 : Nat) (Option.none : Option Jvm.ClassFile.FieldType), Jvm.Cond.code ({ cls := "com/example/impronta/impronta/engine/Alignments", name := "emptySlots", desc := "(I)[I" } : Jvm.MethodName) prog_18_method_8_code (2 : Nat) (Option.some (Jvm.ClassFile.FieldType.array Jvm.ClassFile.FieldType.int)), Jvm.Cond.code ({ cls := "java/util/Arrays", name := "fill", desc := "([II)V" } : Jvm.MethodName) jdk_65_method_103_code (4 : Nat) (Option.none : Option Jvm.ClassFile.FieldType), Jvm.Cond.code ({ cls := "com/example/impronta/impronta/engine/Alignments", name := "start", desc := "(II)V" } : Jvm.MethodName) prog_18_method_2_code (5 : Nat) (Option.none : Option Jvm.ClassFile.FieldType), Jvm.Cond.code ({ cls := "com/example/impronta/impronta/engine/Alignments", name := "clear", desc := "()V" } : Jvm.MethodName) prog_18_method_6_code (2 : Nat) (Option.none : Option Jvm.ClassFile.FieldType), Jvm.Cond.code ({ cls := "com/example/impronta/impronta/engine/Alignments", name := "slot", desc := "(I)I" } : Jvm.MethodName) prog_18_method_3_code (4 : Nat) (Option.some Jvm.ClassFile.FieldType.int), Jvm.Cond.code ({ cls := "com/example/impronta/impronta/engine/Alignments", name := "end", desc := "(I)I" } : Jvm.MethodName) prog_18_method_4_code (2 : Nat) (Option.some Jvm.ClassFile.FieldType.int), Jvm.Cond.code ({ cls := "com/example/impronta/impronta/engine/AlignmentsClearPinLaw", name := "putOne", desc := "(Lcom/example/impronta/impronta/engine/Alignments;III)V" } : Jvm.MethodName) method_3_code (6 : Nat) (Option.none : Option Jvm.ClassFile.FieldType), Jvm.Cond.code ({ cls := "com/example/impronta/impronta/engine/Alignments", name := "put", desc := "(III)V" } : Jvm.MethodName) prog_18_method_5_code (4 : Nat) (Option.none : Option Jvm.ClassFile.FieldType)]
set_option maxRecDepth 65536 in
theorem codes_eq : words1.filter isCode = codes1 := rfl
theorem w_codes : ∀ c ∈ words1.filter isCode, c.before args0 about1 = true := by
  rw [codes_eq]
  intro c hc
  simp only [codes1, List.mem_cons, List.not_mem_nil, or_false] at hc
  rcases hc with rfl | rfl | rfl | rfl | rfl | rfl | rfl | rfl | rfl | rfl | rfl
  · exact w_c0
  · exact w_c1
  · exact w_c2
  · exact w_c3
  · exact w_c4
  · exact w_c5
  · exact w_c6
  · exact w_c7
  · exact w_c8
  · exact w_c9
  · exact w_c10
set_option maxRecDepth 65536 in
theorem w_t1 : (words1.take 24).all (fun c => isCode c || c.before args0 about1) = true := by decide +kernel
set_option maxRecDepth 65536 in
theorem w_t2 : ((words1.drop 24).take 24).all (fun c => isCode c || c.before args0 about1) = true := by decide +kernel
set_option maxRecDepth 65536 in
theorem w_t3 : ((words1.drop 24).drop 24).all (fun c => isCode c || c.before args0 about1) = true := by decide +kernel
theorem w_tables : (allAtoms (Jvm.Cond.code x code maxLocals ret :: tables_1)).before args0 about1 = true := by
  rw [allAtoms_all]
  show words1.all (fun c => c.before args0 about1) = true
  refine all_split ?_ w_codes
  rw [← List.take_append_drop 24 words1, List.all_append, w_t1, ← List.take_append_drop 24 (words1.drop 24), List.all_append, w_t2, w_t3]
  rfl
set_option maxRecDepth 65536 in
theorem w_case : (Jvm.Cond.and given_1 narrow_1).before args0 about1 = true := by decide +kernel
theorem w_applies : (headSpec (Jvm.Cond.code x code maxLocals ret :: tables_1) room_1).applies x e0.platform about1 = true :=
  (Spec.applies_iff w_frames).mpr ⟨w_running, w_runnable, w_alone, w_named, w_hears, w_ripe, w_room, w_tables⟩
theorem atStart : AtStart classFile x code maxLocals ret World_1 tables_1 room_1 Calls_1 rest_1 Pre_1 launch0 p0 e0 about1 theMethod args0 below0 :=
  ⟨lists_1, trivial, launch0.admits_env _ _ _, launch0.least_env, fairChoices_fair.cas, fairChoices_fair.clock, w_frames, w_args, w_heap, w_applies, trivial, trivial, w_case⟩
end start1
theorem witness_1 : WitnessClaimed_1 := ⟨start1.p0, start1.e0, start1.about1, start1.theMethod, start1.args0, start1.below0, start1.atStart⟩
end Jvm.Pilot.@@N@@
