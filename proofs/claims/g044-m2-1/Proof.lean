import JvmDerived
import JvmDerived.Pilot.@@N@@Statement
import JvmDerived.Pilot.@@N@@Code
set_option linter.unusedVariables false
set_option linter.unusedSimpArgs false
namespace Jvm.RoadKit
open Sem ClassFile Op Lib Jvm.Stand Jvm.Free Jvm.LawKit
section New
variable {p : Program} {l : Launch} {e : Env} {R : Room} {s : State} {m : MethodId} {args : Array Value} {below : List Frame} {meth : Method} {c : Code} {T : State} {locs : List Loc} {cells slots : Nat}
theorem retI (X : Stand p l e R s m args below meth c T locs cells slots) (hx : p.tables.exec = Jvm.exec) {pc : Nat} {Ls : Array Slot} {z : Int32} {rest : List Value} (hret : meth.sig.returnType = some .int) (hd : decode c.code pc = .ok (.ireturn, 1)) {fs : List Frame}
    (hl : ∀ (f : JFrame) (acts : List Action), f.method = m → f.locked = none → f.entered = [] → (doReturn e (T.setTop f) acts (some (.int z))).1 = T.setFrames fs) : Steps p.tables e below (T.setTop (mkF m pc Ls (.int z :: rest))) (T.setFrames fs) := by
  have hm' : T.vm.method? m = some meth := X.method'
  have hn : narrow .int (.int z) = .int z := rfl
  show Steps p.tables e below (T.setTop { method := m, pc := pc, locals := Ls, stack := _ :: rest, locked := none }) _
  jvm_step X.here [X.here.top, hx, hd, hm', hret, hn]
  first | (intro acts; rw [hl _ acts rfl rfl rfl]) | rw [hl _ _ rfl rfl rfl]
  exact Steps.refl _
end New
end Jvm.RoadKit
namespace Jvm.RoadKit
open Sem ClassFile Op Lib Jvm.Stand Jvm.Free Jvm.LawKit
section OwnArr
variable {p : Program} {l : Launch} {e : Env} {R : Room} {s : State} {m : MethodId} {args : Array Value} {below : List Frame} {meth : Method} {c : Code} {T : State} {locs : List Loc} {cells slots : Nat} {Z : State} {h h' : Heap} {a b : Addr} {ty : FieldType} {n : Nat} {f : Nat → Value}
/-- an array of n places, place j holds f j -/
def own_arr (Z : State) (h : Heap) (a : Addr) (ty : FieldType) (n : Nat) (f : Nat → Value) : Prop := ∃ c : Cell, Arr Z h a c ty ∧ c.slots.size = n ∧ ∀ j, j < n → c.slots[j]? = some (f j)
theorem own_arr.lt (F : own_arr Z h a ty n f) : a < h.size := by obtain ⟨c, A, -⟩ := F; exact A.lt
theorem own_arr.ext (F : own_arr Z h a ty n f) (E : Ext h h') : own_arr Z h' a ty n f := by obtain ⟨c, A, r⟩ := F; exact ⟨c, A.ext E, r⟩
theorem own_arr.other {sl : Nat} {v : Value} (F : own_arr Z h b ty n f) (W : Wr h h' a sl v) (q : b ≠ a) : own_arr Z h' b ty n f := by obtain ⟨c, A, r⟩ := F; exact ⟨c, A.other W q, r⟩
theorem own_arr.keep {ws : List Addr} (F : own_arr Z h a ty n f) (K : Keep h h' ws) (q : a ∉ ws) : own_arr Z h' a ty n f := by obtain ⟨c, A, r⟩ := F; exact ⟨c, ⟨K.2.1 a c A.1 q, A.2⟩, r⟩
theorem own_arr.to {n' : Nat} {f' : Nat → Value} (F : own_arr Z h a ty n f) (q : n = n') (r : ∀ j, j < n → f j = f' j) : own_arr Z h a ty n' f' := by obtain ⟨c, A, s, t⟩ := F; subst q; exact ⟨c, A, s, fun j hj => (t j hj).trans (congrArg some (r j hj))⟩
theorem own_arr.new {k : ClassId} {z : Int32} (A : Arr Z h a (newA k ty z) ty) : own_arr Z h a ty z.toNatClampNeg (fun _ => defaultValue ty) := ⟨_, A, sz_new _ _ _, fun j hj => by simp [newA, hj]⟩
theorem own_arr.newI {k : ClassId} {z : Int32} {i : Nat} (A : Arr Z h a (newA k .int z) .int) (q : z.toNatClampNeg = i) : own_arr Z h a .int i (fun _ => .int 0) := q ▸ own_arr.new A
theorem own_arr.newB {k : ClassId} {z : Int32} {i : Nat} (A : Arr Z h a (newA k .byte z) .byte) (q : z.toNatClampNeg = i) : own_arr Z h a .byte i (fun _ => .int 0) := q ▸ own_arr.new A
theorem own_arr.newJ {k : ClassId} {z : Int32} {i : Nat} (A : Arr Z h a (newA k .long z) .long) (q : z.toNatClampNeg = i) : own_arr Z h a .long i (fun _ => .long 0) := q ▸ own_arr.new A
theorem own_arr.set {j : Nat} {v : Value} (F : own_arr Z h a ty n f) (W : Wr h h' a j v) : own_arr Z h' a ty n (fun i => if i = j then v else f i) := by
  obtain ⟨c, A, s, t⟩ := F
  refine ⟨_, A.same W, by rw [sz_set]; exact s, fun i hi => ?_⟩
  by_cases q : i = j
  · subst q; simp [Cell.setSlot, s, hi]
  · simp only [q, if_false]; rw [← t i hi]; exact Array.getElem?_setIfInBounds_ne fun z => q z.symm
theorem own_in {j : Int32} {k : Nat} {cl : Cell} (h0 : ¬ j < 0) (hj : j.toNatClampNeg = k) (hk : k < n) (q : cl.slots.size = n) : ¬ (j < 0 ∨ cl.slots.size ≤ j.toNatClampNeg) := by
  rintro (r | r)
  · exact h0 r
  · omega
theorem own_ldI {g : Nat → Int32} (X : Stand p l e R s m args below meth c T locs cells slots) (hx : p.tables.exec = Jvm.exec) (hZ : Z.Warmed39 s.vm) (eT : T.heap = h) (A : own_arr Z h a .int n (fun i => .int (g i))) {j : Int32} {k : Nat} (h0 : ¬ j < 0) (hj : j.toNatClampNeg = k) (hk : k < n)
    {fr : JFrame} (hg : fr.method = m) {rest : List Value} (hs : fr.stack = .int j :: .ref a :: rest) (hd : decode c.code fr.pc = .ok (.iaload, 1)) (target : State)
    (hr : Steps p.tables e below (T.setTop { fr with pc := fr.pc + 1, stack := .int (g k) :: rest }) target) : Steps p.tables e below (T.setTop fr) target := by
  obtain ⟨cl, A, s, t⟩ := A
  exact X.iaload hx (by rw [eT]; exact A.1) (State.isArrayOf_alike hZ.alike A.2.1) A.2.2 (own_in h0 hj hk s) (by rw [hj]; exact t k hk) hg hs hd _ hr
theorem own_ldB {g : Nat → Int32} (X : Stand p l e R s m args below meth c T locs cells slots) (hx : p.tables.exec = Jvm.exec) (hZ : Z.Warmed39 s.vm) (eT : T.heap = h) (A : own_arr Z h a .byte n (fun i => .int (g i))) {j : Int32} {k : Nat} (h0 : ¬ j < 0) (hj : j.toNatClampNeg = k) (hk : k < n)
    {fr : JFrame} (hg : fr.method = m) {rest : List Value} (hs : fr.stack = .int j :: .ref a :: rest) (hd : decode c.code fr.pc = .ok (.baload, 1)) (target : State)
    (hr : Steps p.tables e below (T.setTop { fr with pc := fr.pc + 1, stack := .int (g k) :: rest }) target) : Steps p.tables e below (T.setTop fr) target := by
  obtain ⟨cl, A, s, t⟩ := A
  exact X.baloadBytes hx (by rw [eT]; exact A.1) (State.isArrayOf_alike hZ.alike A.2.1) A.2.2 (own_in h0 hj hk s) (by rw [hj]; exact t k hk) hg hs hd _ hr
theorem own_ldJ {g : Nat → Int64} (X : Stand p l e R s m args below meth c T locs cells slots) (hx : p.tables.exec = Jvm.exec) (hZ : Z.Warmed39 s.vm) (eT : T.heap = h) (A : own_arr Z h a .long n (fun i => .long (g i))) {j : Int32} {k : Nat} (h0 : ¬ j < 0) (hj : j.toNatClampNeg = k) (hk : k < n)
    {fr : JFrame} (hg : fr.method = m) {rest : List Value} (hs : fr.stack = .int j :: .ref a :: rest) (hd : decode c.code fr.pc = .ok (.laload, 1)) (target : State)
    (hr : Steps p.tables e below (T.setTop { fr with pc := fr.pc + 1, stack := .long (g k) :: rest }) target) : Steps p.tables e below (T.setTop fr) target := by
  obtain ⟨cl, A, s, t⟩ := A
  exact X.laload hx (by rw [eT]; exact A.1) (State.isArrayOf_alike hZ.alike A.2.1) A.2.2 (own_in h0 hj hk s) (by rw [hj]; exact t k hk) hg hs hd _ hr
theorem own_len (X : Stand p l e R s m args below meth c T locs cells slots) (hx : p.tables.exec = Jvm.exec) (hZ : Z.Warmed39 s.vm) (eT : T.heap = h) (A : own_arr Z h a ty n f) {z : Int32} (q : n.toInt32 = z)
    {fr : JFrame} (hg : fr.method = m) {rest : List Value} (hs : fr.stack = .ref a :: rest) (hd : decode c.code fr.pc = .ok (.arraylength, 1)) (target : State)
    (hr : Steps p.tables e below (T.setTop { fr with pc := fr.pc + 1, stack := .int z :: rest }) target) : Steps p.tables e below (T.setTop fr) target := by
  obtain ⟨cl, A, s, t⟩ := A
  refine X.arraylength hx (by rw [eT]; exact A.1) (State.isArrayOf_alike hZ.alike A.2.1) hg hs hd _ ?_
  rw [s, q]; exact hr
theorem own_stI {g : Nat → Int32} (X : Stand p l e R s m args below meth c T locs cells slots) (hx : p.tables.exec = Jvm.exec) (hZ : Z.Warmed39 s.vm) (eT : T.heap = h) (A : own_arr Z h a .int n (fun i => .int (g i))) {j x : Int32} {k : Nat} (h0 : ¬ j < 0) (hj : j.toNatClampNeg = k) (hk : k < n)
    {fr : JFrame} (hg : fr.method = m) {rest : List Value} (hs : fr.stack = .int x :: .int j :: .ref a :: rest) (hd : decode c.code fr.pc = .ok (.iastore, 1)) :
    ∃ T' h', Stand p l e R s m args below meth c T' (locs ++ [⟨a, k⟩]) cells slots ∧ T'.heap = h' ∧ Wr h h' a k (.int x) ∧ own_arr Z h' a .int n (fun i => .int (if i = k then x else g i)) ∧ ∀ target, Steps p.tables e below (T'.setTop { fr with pc := fr.pc + 1, stack := rest }) target → Steps p.tables e below (T.setTop fr) target := by
  have A' := A
  obtain ⟨cl, A, s, t⟩ := A
  obtain ⟨T', h', X', e', W, st⟩ := stI X hx hZ eT A (own_in h0 hj hk s) hg hs hd
  rw [hj] at X' W
  exact ⟨T', h', X', e', W, (A'.set W).to rfl fun j _ => by by_cases q : j = k <;> simp [q], st⟩
theorem own_stJ {g : Nat → Int64} (X : Stand p l e R s m args below meth c T locs cells slots) (hx : p.tables.exec = Jvm.exec) (hZ : Z.Warmed39 s.vm) (eT : T.heap = h) (A : own_arr Z h a .long n (fun i => .long (g i))) {j : Int32} {x : Int64} {k : Nat} (h0 : ¬ j < 0) (hj : j.toNatClampNeg = k) (hk : k < n)
    {fr : JFrame} (hg : fr.method = m) {rest : List Value} (hs : fr.stack = .long x :: .int j :: .ref a :: rest) (hd : decode c.code fr.pc = .ok (.lastore, 1)) :
    ∃ T' h', Stand p l e R s m args below meth c T' (locs ++ [⟨a, k⟩]) cells slots ∧ T'.heap = h' ∧ Wr h h' a k (.long x) ∧ own_arr Z h' a .long n (fun i => .long (if i = k then x else g i)) ∧ ∀ target, Steps p.tables e below (T'.setTop { fr with pc := fr.pc + 1, stack := rest }) target → Steps p.tables e below (T.setTop fr) target := by
  have A' := A
  obtain ⟨cl, A, s, t⟩ := A
  obtain ⟨T', h', X', e', W, st⟩ := stJ X hx hZ eT A (own_in h0 hj hk s) hg hs hd
  rw [hj] at X' W
  exact ⟨T', h', X', e', W, (A'.set W).to rfl fun j _ => by by_cases q : j = k <;> simp [q], st⟩
theorem own_stB {g : Nat → Int32} (X : Stand p l e R s m args below meth c T locs cells slots) (hx : p.tables.exec = Jvm.exec) (hZ : Z.Warmed39 s.vm) (eT : T.heap = h) (A : own_arr Z h a .byte n (fun i => .int (g i))) {j x : Int32} {k : Nat} (h0 : ¬ j < 0) (hj : j.toNatClampNeg = k) (hk : k < n)
    {fr : JFrame} (hg : fr.method = m) {rest : List Value} (hs : fr.stack = .int x :: .int j :: .ref a :: rest) (hd : decode c.code fr.pc = .ok (.bastore, 1)) :
    ∃ T' h', Stand p l e R s m args below meth c T' (locs ++ [⟨a, k⟩]) cells slots ∧ T'.heap = h' ∧ Wr h h' a k (.int (x.toInt8.toInt32)) ∧ own_arr Z h' a .byte n (fun i => .int (if i = k then x.toInt8.toInt32 else g i)) ∧ ∀ target, Steps p.tables e below (T'.setTop { fr with pc := fr.pc + 1, stack := rest }) target → Steps p.tables e below (T.setTop fr) target := by
  have A' := A
  obtain ⟨cl, A, s, t⟩ := A
  obtain ⟨T', h', X', e', W, st⟩ := stB X hx hZ eT A (own_in h0 hj hk s) hg hs hd
  rw [hj] at X' W
  exact ⟨T', h', X', e', W, (A'.set W).to rfl fun j _ => by by_cases q : j = k <;> simp [q, nar], st⟩
end OwnArr
end Jvm.RoadKit
namespace Jvm.Pilot.@@N@@
open Jvm Jvm.ClassFile Sem Op Lib Jvm.Free Jvm.Stand Jvm.LawKit Jvm.RoadKit Bundle Jvm.Pilot.@@N@@.Jvm.D
def own_hit (g : Nat → Int32) (p1 p2 p3 p4 : Int32) : Int32 := if p2 < p3 then (0 : Int32) else if p2 < p4 then (if g p2.toNatClampNeg = p1 then (1 : Int32) else (0 : Int32)) else (0 : Int32)
theorem d2_0 : decode method_3_code 0 = .ok (.iload_n 3, 1) := by decide +kernel
theorem d2_1 : decode method_3_code 1 = .ok (.iload_n 2, 1) := by decide +kernel
theorem d2_2 : decode method_3_code 2 = .ok (.if_icmp .gt 20, 3) := by decide +kernel
theorem d2_22 : decode method_3_code 22 = .ok (.iconst 0, 1) := by decide +kernel
theorem d2_23 : decode method_3_code 23 = .ok (.ireturn, 1) := by decide +kernel
theorem d2_5 : decode method_3_code 5 = .ok (.iload_n 2, 1) := by decide +kernel
theorem d2_6 : decode method_3_code 6 = .ok (.iload 4, 2) := by decide +kernel
theorem d2_8 : decode method_3_code 8 = .ok (.if_icmp .ge 14, 3) := by decide +kernel
theorem d2_11 : decode method_3_code 11 = .ok (.aload_n 0, 1) := by decide +kernel
theorem d2_12 : decode method_3_code 12 = .ok (.iload_n 2, 1) := by decide +kernel
theorem d2_13 : decode method_3_code 13 = .ok (.baload, 1) := by decide +kernel
theorem d2_14 : decode method_3_code 14 = .ok (.iload_n 1, 1) := by decide +kernel
theorem d2_15 : decode method_3_code 15 = .ok (.if_icmp .ne 7, 3) := by decide +kernel
theorem d2_18 : decode method_3_code 18 = .ok (.iconst 1, 1) := by decide +kernel
theorem d2_19 : decode method_3_code 19 = .ok (.goto 4, 3) := by decide +kernel
theorem pn_2 : plainName "com/example/cribble/cribble/message/HeaderReaderIndexOfPinLaw" = true := by first | (simp [plainName, overriddenIn]; done) | decide +kernel
theorem ef_2 (m : MethodId) (x0 : Addr) (x1 : Int32) (x2 : Int32) (x3 : Int32) (x4 : Int32) : entryFrame m #[(.ref x0), (.int x1), (.int x2), (.int x3), (.int x4)] 5 = mkF m 0 #[.val (.ref x0), .val (.int x1), .val (.int x2), .val (.int x3), .val (.int x4)] [] := by first | (simp [entryFrame, mkF, argsToLocals, Value.category]; done) | rfl
def Q2 (Z : State) (p0 : Addr) (p1 : Int32) (p2 : Int32) (p3 : Int32) (p4 : Int32) (g : Nat → Int32) (h0 : Heap) (n0 : Nat) (v : Option Value) (h : Heap) (L : List Loc) : Prop := v = some (.int (own_hit g p1 p2 p3 p4)) ∧ Fr n0 L ∧ h = h0
set_option maxRecDepth 65536 in
set_option maxHeartbeats 40000000 in
theorem rm2 (l : Launch) (Z : State) (a0 : Array Value) (hw : ∀ d ∈ tables_1, d.before a0 Z = true) (ws : List Jvm.Cond) (p0 : Addr) (p1 : Int32) (p2 : Int32) (p3 : Int32) (p4 : Int32) (g : Nat → Int32) (h0 : Heap) (n0 : Nat) (Z0 : n0 ≤ h0.size) (Ap : own_arr Z h0 p0 .byte 4 (fun i => .int (g i))) (hi0 : ¬ p2 < 0) (hi1 : p2.toNatClampNeg < 4) :
    MetFree l (⟨"com/example/cribble/cribble/message/HeaderReaderIndexOfPinLaw", "hit", "([BBIII)Z"⟩ : MethodName) (head1 (Jvm.Cond.code (⟨"com/example/cribble/cribble/message/HeaderReaderIndexOfPinLaw", "hit", "([BBIII)Z"⟩ : MethodName) method_3_code 5 (some .boolean) :: ws) ({ frames := 0, cells := 0, slots := 0, locals := 0 } : Room)) (fun a U => a = #[(.ref p0), (.int p1), (.int p2), (.int p3), (.int p4)] ∧ Z.Warmed39 U.vm ∧ U.heap = h0) (fun _ _ _ _ _ => True) (fun _ U o U' => ∃ v L, o = .returned v ∧ Q2 Z p0 p1 p2 p3 p4 g h0 n0 v U'.heap L ∧ FrameEnd U o U' L ({ frames := 0, cells := 0, slots := 0, locals := 0 } : Room).cells ({ frames := 0, cells := 0, slots := 0, locals := 0 } : Room).slots) := by
  refine MetFree.of_bodySF (plainFor_of_name pn_2) hisR ?_
  intro p e s m args below meth c s₁ Bd hml0 hP hK
  obtain ⟨rfl, hZ, hh⟩ := hP
  have hx := Bd.exec
  have hby := Bd.bytes
  have hml : c.maxLocals = 5 := hml0
  have hown : s.vm.findClass "com/example/cribble/cribble/message/HeaderReaderIndexOfPinLaw" = some m.cls := findClass_of_methodNamed Bd.named
  have hnm := (name_of_methodNamed Bd.named Bd.method).1
  have X0 : Stand p l e ({ frames := 0, cells := 0, slots := 0, locals := 0 } : Room) s m #[(.ref p0), (.int p1), (.int p2), (.int p3), (.int p4)] below meth c s₁ [] 0 0 := Stand.of_body Bd
  have e0 : s₁.heap = h0 := by rw [← hh, Bd.state]; rfl
  have N0 := Fr.nil n0
  have pre0 : ∀ t, Steps p.tables e below (s₁.setTop (mkF m 0 #[.val (.ref p0), .val (.int p1), .val (.int p2), .val (.int p3), .val (.int p4)] [])) t → Steps p.tables e below (s₁.setTop (entryFrame m #[(.ref p0), (.int p1), (.int p2), (.int p3), (.int p4)] 5)) t := fun t k => castTop (ef_2 m p0 p1 p2 p3 p4) k
  have pre1 : ∀ t, Steps p.tables e below (s₁.setTop (mkF m 2 #[.val (.ref p0), .val (.int p1), .val (.int p2), .val (.int p3), .val (.int p4)] [(.int p2), (.int p3)])) t → Steps p.tables e below (s₁.setTop (entryFrame m #[(.ref p0), (.int p1), (.int p2), (.int p3), (.int p4)] 5)) t := by
    intro t kont
    refine pre0 t ?_
    show Steps p.tables e below (s₁.setTop (mkF m 0 #[.val (.ref p0), .val (.int p1), .val (.int p2), .val (.int p3), .val (.int p4)] [])) _
    refine XS.iloadN X0.here hx rfl (hb hby d2_0) rfl ?_
    show Steps p.tables e below (s₁.setTop (mkF m 1 #[.val (.ref p0), .val (.int p1), .val (.int p2), .val (.int p3), .val (.int p4)] [(.int p3)])) _
    refine XS.iloadN X0.here hx rfl (hb hby d2_1) rfl ?_
    exact kont
  by_cases hc2 : p2 < p3
  · have pre2 : ∀ t, Steps p.tables e below (s₁.setTop (mkF m 23 #[.val (.ref p0), .val (.int p1), .val (.int p2), .val (.int p3), .val (.int p4)] [(.int (0 : Int32))])) t → Steps p.tables e below (s₁.setTop (entryFrame m #[(.ref p0), (.int p1), (.int p2), (.int p3), (.int p4)] 5)) t := by
      intro t kont
      refine pre1 t ?_
      show Steps p.tables e below (s₁.setTop (mkF m 2 #[.val (.ref p0), .val (.int p1), .val (.int p2), .val (.int p3), .val (.int p4)] [(.int p2), (.int p3)])) _
      refine XS.icmpYes X0.here hx rfl (pc0 := 2) (pc' := 22) rfl (hb hby d2_2) rfl (tlt hc2).2.2.1 (by decide) (by decide) ?_
      show Steps p.tables e below (s₁.setTop (mkF m 22 #[.val (.ref p0), .val (.int p1), .val (.int p2), .val (.int p3), .val (.int p4)] [])) _
      refine XS.iconst X0.here hx rfl (hb hby d2_22) ?_
      exact kont
    obtain ⟨fs, hr, hrun, hended, hW, hsame⟩ := X0.leave (v := some (.int (0 : Int32))) (fun h => by rw [Bd.returns] at h; cases h)
    refine ⟨_, _, pre2 _ ?_, hrun, hended, _, _, rfl, ?_, ⟨_, rfl⟩, hW, hsame.mono (by decide) (by decide)⟩
    · exact retN X0 hx (t := .boolean) Bd.returns (by simp) (hb hby d2_23) hr
    · show Q2 Z p0 p1 p2 p3 p4 g h0 n0 _ s₁.heap _
      rw [e0]
      refine ⟨?_, N0, rfl⟩
      unfold own_hit; rw [if_pos hc2]
  · have pre3 : ∀ t, Steps p.tables e below (s₁.setTop (mkF m 8 #[.val (.ref p0), .val (.int p1), .val (.int p2), .val (.int p3), .val (.int p4)] [(.int p4), (.int p2)])) t → Steps p.tables e below (s₁.setTop (entryFrame m #[(.ref p0), (.int p1), (.int p2), (.int p3), (.int p4)] 5)) t := by
      intro t kont
      refine pre1 t ?_
      show Steps p.tables e below (s₁.setTop (mkF m 2 #[.val (.ref p0), .val (.int p1), .val (.int p2), .val (.int p3), .val (.int p4)] [(.int p2), (.int p3)])) _
      refine XS.icmpNo X0.here hx rfl (hb hby d2_2) rfl (flt hc2).2.2.1 ?_
      show Steps p.tables e below (s₁.setTop (mkF m 5 #[.val (.ref p0), .val (.int p1), .val (.int p2), .val (.int p3), .val (.int p4)] [])) _
      refine XS.iloadN X0.here hx rfl (hb hby d2_5) rfl ?_
      show Steps p.tables e below (s₁.setTop (mkF m 6 #[.val (.ref p0), .val (.int p1), .val (.int p2), .val (.int p3), .val (.int p4)] [(.int p2)])) _
      refine XS.iload X0.here hx rfl (hb hby d2_6) rfl ?_
      exact kont
    by_cases hc8 : p2 < p4
    · have pre4 : ∀ t, Steps p.tables e below (s₁.setTop (mkF m 15 #[.val (.ref p0), .val (.int p1), .val (.int p2), .val (.int p3), .val (.int p4)] [(.int p1), (.int (g (p2.toNatClampNeg)))])) t → Steps p.tables e below (s₁.setTop (entryFrame m #[(.ref p0), (.int p1), (.int p2), (.int p3), (.int p4)] 5)) t := by
        intro t kont
        refine pre3 t ?_
        show Steps p.tables e below (s₁.setTop (mkF m 8 #[.val (.ref p0), .val (.int p1), .val (.int p2), .val (.int p3), .val (.int p4)] [(.int p4), (.int p2)])) _
        refine XS.icmpNo X0.here hx rfl (hb hby d2_8) rfl (tlt hc8).2.1 ?_
        show Steps p.tables e below (s₁.setTop (mkF m 11 #[.val (.ref p0), .val (.int p1), .val (.int p2), .val (.int p3), .val (.int p4)] [])) _
        refine XS.aloadN X0.here hx rfl (hb hby d2_11) rfl rfl ?_
        show Steps p.tables e below (s₁.setTop (mkF m 12 #[.val (.ref p0), .val (.int p1), .val (.int p2), .val (.int p3), .val (.int p4)] [(.ref p0)])) _
        refine XS.iloadN X0.here hx rfl (hb hby d2_12) rfl ?_
        show Steps p.tables e below (s₁.setTop (mkF m 13 #[.val (.ref p0), .val (.int p1), .val (.int p2), .val (.int p3), .val (.int p4)] [(.int p2), (.ref p0)])) _
        refine own_ldB X0 hx hZ e0 Ap (k := p2.toNatClampNeg) hi0 rfl hi1 (fr := (mkF m 13 #[.val (.ref p0), .val (.int p1), .val (.int p2), .val (.int p3), .val (.int p4)] [(.int p2), (.ref p0)])) rfl rfl (hb hby d2_13) _ ?_
        show Steps p.tables e below (s₁.setTop (mkF m 14 #[.val (.ref p0), .val (.int p1), .val (.int p2), .val (.int p3), .val (.int p4)] [(.int (g (p2.toNatClampNeg)))])) _
        refine XS.iloadN X0.here hx rfl (hb hby d2_14) rfl ?_
        exact kont
      by_cases hc15 : (g (p2.toNatClampNeg)) = p1
      · have pre5 : ∀ t, Steps p.tables e below (s₁.setTop (mkF m 23 #[.val (.ref p0), .val (.int p1), .val (.int p2), .val (.int p3), .val (.int p4)] [(.int (1 : Int32))])) t → Steps p.tables e below (s₁.setTop (entryFrame m #[(.ref p0), (.int p1), (.int p2), (.int p3), (.int p4)] 5)) t := by
          intro t kont
          refine pre4 t ?_
          show Steps p.tables e below (s₁.setTop (mkF m 15 #[.val (.ref p0), .val (.int p1), .val (.int p2), .val (.int p3), .val (.int p4)] [(.int p1), (.int (g (p2.toNatClampNeg)))])) _
          refine XS.icmpNo X0.here hx rfl (hb hby d2_15) rfl (teq hc15).2 ?_
          show Steps p.tables e below (s₁.setTop (mkF m 18 #[.val (.ref p0), .val (.int p1), .val (.int p2), .val (.int p3), .val (.int p4)] [])) _
          refine XS.iconst X0.here hx rfl (hb hby d2_18) ?_
          show Steps p.tables e below (s₁.setTop (mkF m 19 #[.val (.ref p0), .val (.int p1), .val (.int p2), .val (.int p3), .val (.int p4)] [(.int (1 : Int32))])) _
          refine XS.goto X0.here hx rfl (pc0 := 19) (pc' := 23) rfl (hb hby d2_19) (by decide) (by decide) ?_
          exact kont
        obtain ⟨fs, hr, hrun, hended, hW, hsame⟩ := X0.leave (v := some (.int (1 : Int32))) (fun h => by rw [Bd.returns] at h; cases h)
        refine ⟨_, _, pre5 _ ?_, hrun, hended, _, _, rfl, ?_, ⟨_, rfl⟩, hW, hsame.mono (by decide) (by decide)⟩
        · exact retN X0 hx (t := .boolean) Bd.returns (by simp) (hb hby d2_23) hr
        · show Q2 Z p0 p1 p2 p3 p4 g h0 n0 _ s₁.heap _
          rw [e0]
          refine ⟨?_, N0, rfl⟩
          unfold own_hit; rw [if_neg hc2, if_pos hc8, if_pos hc15]
      · have pre6 : ∀ t, Steps p.tables e below (s₁.setTop (mkF m 23 #[.val (.ref p0), .val (.int p1), .val (.int p2), .val (.int p3), .val (.int p4)] [(.int (0 : Int32))])) t → Steps p.tables e below (s₁.setTop (entryFrame m #[(.ref p0), (.int p1), (.int p2), (.int p3), (.int p4)] 5)) t := by
          intro t kont
          refine pre4 t ?_
          show Steps p.tables e below (s₁.setTop (mkF m 15 #[.val (.ref p0), .val (.int p1), .val (.int p2), .val (.int p3), .val (.int p4)] [(.int p1), (.int (g (p2.toNatClampNeg)))])) _
          refine XS.icmpYes X0.here hx rfl (pc0 := 15) (pc' := 22) rfl (hb hby d2_15) rfl (feq hc15).2 (by decide) (by decide) ?_
          show Steps p.tables e below (s₁.setTop (mkF m 22 #[.val (.ref p0), .val (.int p1), .val (.int p2), .val (.int p3), .val (.int p4)] [])) _
          refine XS.iconst X0.here hx rfl (hb hby d2_22) ?_
          exact kont
        obtain ⟨fs, hr, hrun, hended, hW, hsame⟩ := X0.leave (v := some (.int (0 : Int32))) (fun h => by rw [Bd.returns] at h; cases h)
        refine ⟨_, _, pre6 _ ?_, hrun, hended, _, _, rfl, ?_, ⟨_, rfl⟩, hW, hsame.mono (by decide) (by decide)⟩
        · exact retN X0 hx (t := .boolean) Bd.returns (by simp) (hb hby d2_23) hr
        · show Q2 Z p0 p1 p2 p3 p4 g h0 n0 _ s₁.heap _
          rw [e0]
          refine ⟨?_, N0, rfl⟩
          unfold own_hit; rw [if_neg hc2, if_pos hc8, if_neg hc15]
    · have pre7 : ∀ t, Steps p.tables e below (s₁.setTop (mkF m 23 #[.val (.ref p0), .val (.int p1), .val (.int p2), .val (.int p3), .val (.int p4)] [(.int (0 : Int32))])) t → Steps p.tables e below (s₁.setTop (entryFrame m #[(.ref p0), (.int p1), (.int p2), (.int p3), (.int p4)] 5)) t := by
        intro t kont
        refine pre3 t ?_
        show Steps p.tables e below (s₁.setTop (mkF m 8 #[.val (.ref p0), .val (.int p1), .val (.int p2), .val (.int p3), .val (.int p4)] [(.int p4), (.int p2)])) _
        refine XS.icmpYes X0.here hx rfl (pc0 := 8) (pc' := 22) rfl (hb hby d2_8) rfl (flt hc8).2.1 (by decide) (by decide) ?_
        show Steps p.tables e below (s₁.setTop (mkF m 22 #[.val (.ref p0), .val (.int p1), .val (.int p2), .val (.int p3), .val (.int p4)] [])) _
        refine XS.iconst X0.here hx rfl (hb hby d2_22) ?_
        exact kont
      obtain ⟨fs, hr, hrun, hended, hW, hsame⟩ := X0.leave (v := some (.int (0 : Int32))) (fun h => by rw [Bd.returns] at h; cases h)
      refine ⟨_, _, pre7 _ ?_, hrun, hended, _, _, rfl, ?_, ⟨_, rfl⟩, hW, hsame.mono (by decide) (by decide)⟩
      · exact retN X0 hx (t := .boolean) Bd.returns (by simp) (hb hby d2_23) hr
      · show Q2 Z p0 p1 p2 p3 p4 g h0 n0 _ s₁.heap _
        rw [e0]
        refine ⟨?_, N0, rfl⟩
        unfold own_hit; rw [if_neg hc2, if_neg hc8]
def own_expd (g : Nat → Int32) (p1 p2 p3 : Int32) : Int32 := if (own_hit g p1 (0 : Int32) p2 p3) = (0 : Int32) then (if (own_hit g p1 (1 : Int32) p2 p3) = (0 : Int32) then (if (own_hit g p1 (2 : Int32) p2 p3) = (0 : Int32) then (if (own_hit g p1 (3 : Int32) p2 p3) = (0 : Int32) then (p3) else (3 : Int32)) else (2 : Int32)) else (1 : Int32)) else (0 : Int32)
theorem d1_0 : decode method_4_code 0 = .ok (.aload_n 0, 1) := by decide +kernel
theorem d1_1 : decode method_4_code 1 = .ok (.iload_n 1, 1) := by decide +kernel
theorem d1_2 : decode method_4_code 2 = .ok (.iconst 0, 1) := by decide +kernel
theorem d1_3 : decode method_4_code 3 = .ok (.iload_n 2, 1) := by decide +kernel
theorem d1_4 : decode method_4_code 4 = .ok (.iload_n 3, 1) := by decide +kernel
theorem d1_5 : decode method_4_code 5 = .ok (.invokestatic 19, 3) := by decide +kernel
theorem pd_0 : parseMethodDescriptor "([BBIII)Z" = some ⟨[(.array .byte), .byte, .int, .int, .int], some .boolean⟩ := by decide +kernel
theorem d1_8 : decode method_4_code 8 = .ok (.ifCond .eq 5, 3) := by decide +kernel
theorem d1_13 : decode method_4_code 13 = .ok (.aload_n 0, 1) := by decide +kernel
theorem d1_14 : decode method_4_code 14 = .ok (.iload_n 1, 1) := by decide +kernel
theorem d1_15 : decode method_4_code 15 = .ok (.iconst 1, 1) := by decide +kernel
theorem d1_16 : decode method_4_code 16 = .ok (.iload_n 2, 1) := by decide +kernel
theorem d1_17 : decode method_4_code 17 = .ok (.iload_n 3, 1) := by decide +kernel
theorem d1_18 : decode method_4_code 18 = .ok (.invokestatic 19, 3) := by decide +kernel
theorem d1_21 : decode method_4_code 21 = .ok (.ifCond .eq 5, 3) := by decide +kernel
theorem d1_26 : decode method_4_code 26 = .ok (.aload_n 0, 1) := by decide +kernel
theorem d1_27 : decode method_4_code 27 = .ok (.iload_n 1, 1) := by decide +kernel
theorem d1_28 : decode method_4_code 28 = .ok (.iconst 2, 1) := by decide +kernel
theorem d1_29 : decode method_4_code 29 = .ok (.iload_n 2, 1) := by decide +kernel
theorem d1_30 : decode method_4_code 30 = .ok (.iload_n 3, 1) := by decide +kernel
theorem d1_31 : decode method_4_code 31 = .ok (.invokestatic 19, 3) := by decide +kernel
theorem d1_34 : decode method_4_code 34 = .ok (.ifCond .eq 5, 3) := by decide +kernel
theorem d1_39 : decode method_4_code 39 = .ok (.aload_n 0, 1) := by decide +kernel
theorem d1_40 : decode method_4_code 40 = .ok (.iload_n 1, 1) := by decide +kernel
theorem d1_41 : decode method_4_code 41 = .ok (.iconst 3, 1) := by decide +kernel
theorem d1_42 : decode method_4_code 42 = .ok (.iload_n 2, 1) := by decide +kernel
theorem d1_43 : decode method_4_code 43 = .ok (.iload_n 3, 1) := by decide +kernel
theorem d1_44 : decode method_4_code 44 = .ok (.invokestatic 19, 3) := by decide +kernel
theorem d1_47 : decode method_4_code 47 = .ok (.ifCond .eq 5, 3) := by decide +kernel
theorem d1_52 : decode method_4_code 52 = .ok (.iload_n 3, 1) := by decide +kernel
theorem d1_53 : decode method_4_code 53 = .ok (.ireturn, 1) := by decide +kernel
theorem d1_50 : decode method_4_code 50 = .ok (.iconst 3, 1) := by decide +kernel
theorem d1_51 : decode method_4_code 51 = .ok (.ireturn, 1) := by decide +kernel
theorem d1_37 : decode method_4_code 37 = .ok (.iconst 2, 1) := by decide +kernel
theorem d1_38 : decode method_4_code 38 = .ok (.ireturn, 1) := by decide +kernel
theorem d1_24 : decode method_4_code 24 = .ok (.iconst 1, 1) := by decide +kernel
theorem d1_25 : decode method_4_code 25 = .ok (.ireturn, 1) := by decide +kernel
theorem d1_11 : decode method_4_code 11 = .ok (.iconst 0, 1) := by decide +kernel
theorem d1_12 : decode method_4_code 12 = .ok (.ireturn, 1) := by decide +kernel
theorem ef_1 (m : MethodId) (x0 : Addr) (x1 : Int32) (x2 : Int32) (x3 : Int32) : entryFrame m #[(.ref x0), (.int x1), (.int x2), (.int x3)] 4 = mkF m 0 #[.val (.ref x0), .val (.int x1), .val (.int x2), .val (.int x3)] [] := by first | (simp [entryFrame, mkF, argsToLocals, Value.category]; done) | rfl
def Q1 (Z : State) (p0 : Addr) (p1 : Int32) (p2 : Int32) (p3 : Int32) (g : Nat → Int32) (h0 : Heap) (n0 : Nat) (v : Option Value) (h : Heap) (L : List Loc) : Prop := v = some (.int (own_expd g p1 p2 p3)) ∧ Fr n0 L ∧ h = h0
set_option maxRecDepth 65536 in
set_option maxHeartbeats 40000000 in
theorem rm1 (l : Launch) (Z : State) (a0 : Array Value) (hw : ∀ d ∈ tables_1, d.before a0 Z = true) (ws : List Jvm.Cond) (p0 : Addr) (p1 : Int32) (p2 : Int32) (p3 : Int32) (g : Nat → Int32) (h0 : Heap) (n0 : Nat) (Z0 : n0 ≤ h0.size) (Ap : own_arr Z h0 p0 .byte 4 (fun i => .int (g i))) :
    MetFree l (⟨"com/example/cribble/cribble/message/HeaderReaderIndexOfPinLaw", "expected", "([BBII)I"⟩ : MethodName) (head1 (Jvm.Cond.code (⟨"com/example/cribble/cribble/message/HeaderReaderIndexOfPinLaw", "expected", "([BBII)I"⟩ : MethodName) method_4_code 4 (some .int) :: ws) ({ frames := 1, cells := 0, slots := 0, locals := 16 } : Room)) (fun a U => a = #[(.ref p0), (.int p1), (.int p2), (.int p3)] ∧ Z.Warmed39 U.vm ∧ U.heap = h0) (fun _ _ _ _ _ => True) (fun _ U o U' => ∃ v L, o = .returned v ∧ Q1 Z p0 p1 p2 p3 g h0 n0 v U'.heap L ∧ FrameEnd U o U' L ({ frames := 1, cells := 0, slots := 0, locals := 16 } : Room).cells ({ frames := 1, cells := 0, slots := 0, locals := 16 } : Room).slots) := by
  refine MetFree.of_bodySF (plainFor_of_name pn_2) hisR ?_
  intro p e s m args below meth c s₁ Bd hml0 hP hK
  obtain ⟨rfl, hZ, hh⟩ := hP
  have hx := Bd.exec
  have hby := Bd.bytes
  have hml : c.maxLocals = 4 := hml0
  have hown : s.vm.findClass "com/example/cribble/cribble/message/HeaderReaderIndexOfPinLaw" = some m.cls := findClass_of_methodNamed Bd.named
  have hnm := (name_of_methodNamed Bd.named Bd.method).1
  have X0 : Stand p l e ({ frames := 1, cells := 0, slots := 0, locals := 16 } : Room) s m #[(.ref p0), (.int p1), (.int p2), (.int p3)] below meth c s₁ [] 0 0 := Stand.of_body Bd
  have e0 : s₁.heap = h0 := by rw [← hh, Bd.state]; rfl
  have N0 := Fr.nil n0
  have pre0 : ∀ t, Steps p.tables e below (s₁.setTop (mkF m 0 #[.val (.ref p0), .val (.int p1), .val (.int p2), .val (.int p3)] [])) t → Steps p.tables e below (s₁.setTop (entryFrame m #[(.ref p0), (.int p1), (.int p2), (.int p3)] 4)) t := fun t k => castTop (ef_1 m p0 p1 p2 p3) k
  have pre8 : ∀ t, Steps p.tables e below (s₁.setTop (mkF m 5 #[.val (.ref p0), .val (.int p1), .val (.int p2), .val (.int p3)] [(.int p3), (.int p2), (.int (0 : Int32)), (.int p1), (.ref p0)])) t → Steps p.tables e below (s₁.setTop (entryFrame m #[(.ref p0), (.int p1), (.int p2), (.int p3)] 4)) t := by
    intro t kont
    refine pre0 t ?_
    show Steps p.tables e below (s₁.setTop (mkF m 0 #[.val (.ref p0), .val (.int p1), .val (.int p2), .val (.int p3)] [])) _
    refine XS.aloadN X0.here hx rfl (hb hby d1_0) rfl rfl ?_
    show Steps p.tables e below (s₁.setTop (mkF m 1 #[.val (.ref p0), .val (.int p1), .val (.int p2), .val (.int p3)] [(.ref p0)])) _
    refine XS.iloadN X0.here hx rfl (hb hby d1_1) rfl ?_
    show Steps p.tables e below (s₁.setTop (mkF m 2 #[.val (.ref p0), .val (.int p1), .val (.int p2), .val (.int p3)] [(.int p1), (.ref p0)])) _
    refine XS.iconst X0.here hx rfl (hb hby d1_2) ?_
    show Steps p.tables e below (s₁.setTop (mkF m 3 #[.val (.ref p0), .val (.int p1), .val (.int p2), .val (.int p3)] [(.int (0 : Int32)), (.int p1), (.ref p0)])) _
    refine XS.iloadN X0.here hx rfl (hb hby d1_3) rfl ?_
    show Steps p.tables e below (s₁.setTop (mkF m 4 #[.val (.ref p0), .val (.int p1), .val (.int p2), .val (.int p3)] [(.int p2), (.int (0 : Int32)), (.int p1), (.ref p0)])) _
    refine XS.iloadN X0.here hx rfl (hb hby d1_4) rfl ?_
    exact kont
  obtain ⟨_, _, ⟨T9, L9, k9, n9⟩, -, X9, ⟨Lc9, hQ9, l9, y9, z9⟩, st9⟩ := Jvm.LawKit.callS X0 hx (y := (⟨"com/example/cribble/cribble/message/HeaderReaderIndexOfPinLaw", "hit", "([BBIII)Z"⟩ : MethodName)) hown (mvT hZ (hw _ (List.mem_of_getElem? (i := 6) rfl))) (mvT hZ (hw _ (List.mem_of_getElem? (i := 7) rfl))) (mvT hZ (hw _ (List.mem_of_getElem? (i := 4) rfl))) (mvT hZ (hw _ (List.mem_of_getElem? (i := 8) rfl))) (by decide) (backOf (W := 0) (rm2 l Z a0 hw [] p0 p1 (0 : Int32) p2 p3 g  h0 n0 Z0 Ap (by decide) (by decide)) hZ (hw _ (List.mem_of_getElem? (i := 8) rfl)) (hw _ (List.mem_of_getElem? (i := 4) rfl)) (by decide) (by decide)) (g := (mkF m 5 #[.val (.ref p0), .val (.int p1), .val (.int p2), .val (.int p3)] [(.int p3), (.int p2), (.int (0 : Int32)), (.int p1), (.ref p0)])) rfl (by rw [hml]; rfl) (argsL := [(.ref p0), (.int p1), (.int (0 : Int32)), (.int p2), (.int p3)]) (rest := []) (lenOf pd_0 rfl) rfl (by show 2 * 0 + _ ≤ _; exact Nat.le_of_eq rfl) (hb hby d1_5) (fun _ _ => ⟨rfl, e0, (by decide : 0 + 0 ≤ _), (by decide : 0 + 0 ≤ _)⟩)
  dsimp only [Pt.U, Pt.locs, Pt.cells, Pt.slots] at X9 l9 y9 z9 st9 hQ9
  subst l9 y9 z9
  obtain ⟨rfl, N9q, e9⟩ := hQ9
  have N9 := Fr.app N0 N9q
  have pre10 : ∀ t, Steps p.tables e below (T9.setTop (mkF m 8 #[.val (.ref p0), .val (.int p1), .val (.int p2), .val (.int p3)] [(.int (own_hit g p1 (0 : Int32) p2 p3))])) t → Steps p.tables e below (s₁.setTop (entryFrame m #[(.ref p0), (.int p1), (.int p2), (.int p3)] 4)) t := fun t kont => pre8 t (st9 _ kont)
  by_cases hc8 : (own_hit g p1 (0 : Int32) p2 p3) = (0 : Int32)
  · have pre11 : ∀ t, Steps p.tables e below (T9.setTop (mkF m 18 #[.val (.ref p0), .val (.int p1), .val (.int p2), .val (.int p3)] [(.int p3), (.int p2), (.int (1 : Int32)), (.int p1), (.ref p0)])) t → Steps p.tables e below (s₁.setTop (entryFrame m #[(.ref p0), (.int p1), (.int p2), (.int p3)] 4)) t := by
      intro t kont
      refine pre10 t ?_
      show Steps p.tables e below (T9.setTop (mkF m 8 #[.val (.ref p0), .val (.int p1), .val (.int p2), .val (.int p3)] [(.int (own_hit g p1 (0 : Int32) p2 p3))])) _
      refine XS.ifYes X9.here hx rfl (pc0 := 8) (pc' := 13) rfl (hb hby d1_8) rfl ((if0 _ _).trans (teq hc8).1) (by decide) (by decide) ?_
      show Steps p.tables e below (T9.setTop (mkF m 13 #[.val (.ref p0), .val (.int p1), .val (.int p2), .val (.int p3)] [])) _
      refine XS.aloadN X9.here hx rfl (hb hby d1_13) rfl rfl ?_
      show Steps p.tables e below (T9.setTop (mkF m 14 #[.val (.ref p0), .val (.int p1), .val (.int p2), .val (.int p3)] [(.ref p0)])) _
      refine XS.iloadN X9.here hx rfl (hb hby d1_14) rfl ?_
      show Steps p.tables e below (T9.setTop (mkF m 15 #[.val (.ref p0), .val (.int p1), .val (.int p2), .val (.int p3)] [(.int p1), (.ref p0)])) _
      refine XS.iconst X9.here hx rfl (hb hby d1_15) ?_
      show Steps p.tables e below (T9.setTop (mkF m 16 #[.val (.ref p0), .val (.int p1), .val (.int p2), .val (.int p3)] [(.int (1 : Int32)), (.int p1), (.ref p0)])) _
      refine XS.iloadN X9.here hx rfl (hb hby d1_16) rfl ?_
      show Steps p.tables e below (T9.setTop (mkF m 17 #[.val (.ref p0), .val (.int p1), .val (.int p2), .val (.int p3)] [(.int p2), (.int (1 : Int32)), (.int p1), (.ref p0)])) _
      refine XS.iloadN X9.here hx rfl (hb hby d1_17) rfl ?_
      exact kont
    obtain ⟨_, _, ⟨T12, L12, k12, n12⟩, -, X12, ⟨Lc12, hQ12, l12, y12, z12⟩, st12⟩ := Jvm.LawKit.callS X9 hx (y := (⟨"com/example/cribble/cribble/message/HeaderReaderIndexOfPinLaw", "hit", "([BBIII)Z"⟩ : MethodName)) hown (mvT hZ (hw _ (List.mem_of_getElem? (i := 6) rfl))) (mvT hZ (hw _ (List.mem_of_getElem? (i := 7) rfl))) (mvT hZ (hw _ (List.mem_of_getElem? (i := 4) rfl))) (mvT hZ (hw _ (List.mem_of_getElem? (i := 8) rfl))) (by decide) (backOf (W := 0) (rm2 l Z a0 hw [] p0 p1 (1 : Int32) p2 p3 g  h0 n0 Z0 Ap (by decide) (by decide)) hZ (hw _ (List.mem_of_getElem? (i := 8) rfl)) (hw _ (List.mem_of_getElem? (i := 4) rfl)) (by decide) (by decide)) (g := (mkF m 18 #[.val (.ref p0), .val (.int p1), .val (.int p2), .val (.int p3)] [(.int p3), (.int p2), (.int (1 : Int32)), (.int p1), (.ref p0)])) rfl (by rw [hml]; rfl) (argsL := [(.ref p0), (.int p1), (.int (1 : Int32)), (.int p2), (.int p3)]) (rest := []) (lenOf pd_0 rfl) rfl (by show 2 * 0 + _ ≤ _; exact Nat.le_of_eq rfl) (hb hby d1_18) (fun _ _ => ⟨rfl, e9, (by decide : 0 + 0 ≤ _), (by decide : 0 + 0 ≤ _)⟩)
    dsimp only [Pt.U, Pt.locs, Pt.cells, Pt.slots] at X12 l12 y12 z12 st12 hQ12
    subst l12 y12 z12
    obtain ⟨rfl, N12q, e12⟩ := hQ12
    have N12 := Fr.app N9 N12q
    have pre13 : ∀ t, Steps p.tables e below (T12.setTop (mkF m 21 #[.val (.ref p0), .val (.int p1), .val (.int p2), .val (.int p3)] [(.int (own_hit g p1 (1 : Int32) p2 p3))])) t → Steps p.tables e below (s₁.setTop (entryFrame m #[(.ref p0), (.int p1), (.int p2), (.int p3)] 4)) t := fun t kont => pre11 t (st12 _ kont)
    by_cases hc21 : (own_hit g p1 (1 : Int32) p2 p3) = (0 : Int32)
    · have pre14 : ∀ t, Steps p.tables e below (T12.setTop (mkF m 31 #[.val (.ref p0), .val (.int p1), .val (.int p2), .val (.int p3)] [(.int p3), (.int p2), (.int (2 : Int32)), (.int p1), (.ref p0)])) t → Steps p.tables e below (s₁.setTop (entryFrame m #[(.ref p0), (.int p1), (.int p2), (.int p3)] 4)) t := by
        intro t kont
        refine pre13 t ?_
        show Steps p.tables e below (T12.setTop (mkF m 21 #[.val (.ref p0), .val (.int p1), .val (.int p2), .val (.int p3)] [(.int (own_hit g p1 (1 : Int32) p2 p3))])) _
        refine XS.ifYes X12.here hx rfl (pc0 := 21) (pc' := 26) rfl (hb hby d1_21) rfl ((if0 _ _).trans (teq hc21).1) (by decide) (by decide) ?_
        show Steps p.tables e below (T12.setTop (mkF m 26 #[.val (.ref p0), .val (.int p1), .val (.int p2), .val (.int p3)] [])) _
        refine XS.aloadN X12.here hx rfl (hb hby d1_26) rfl rfl ?_
        show Steps p.tables e below (T12.setTop (mkF m 27 #[.val (.ref p0), .val (.int p1), .val (.int p2), .val (.int p3)] [(.ref p0)])) _
        refine XS.iloadN X12.here hx rfl (hb hby d1_27) rfl ?_
        show Steps p.tables e below (T12.setTop (mkF m 28 #[.val (.ref p0), .val (.int p1), .val (.int p2), .val (.int p3)] [(.int p1), (.ref p0)])) _
        refine XS.iconst X12.here hx rfl (hb hby d1_28) ?_
        show Steps p.tables e below (T12.setTop (mkF m 29 #[.val (.ref p0), .val (.int p1), .val (.int p2), .val (.int p3)] [(.int (2 : Int32)), (.int p1), (.ref p0)])) _
        refine XS.iloadN X12.here hx rfl (hb hby d1_29) rfl ?_
        show Steps p.tables e below (T12.setTop (mkF m 30 #[.val (.ref p0), .val (.int p1), .val (.int p2), .val (.int p3)] [(.int p2), (.int (2 : Int32)), (.int p1), (.ref p0)])) _
        refine XS.iloadN X12.here hx rfl (hb hby d1_30) rfl ?_
        exact kont
      obtain ⟨_, _, ⟨T15, L15, k15, n15⟩, -, X15, ⟨Lc15, hQ15, l15, y15, z15⟩, st15⟩ := Jvm.LawKit.callS X12 hx (y := (⟨"com/example/cribble/cribble/message/HeaderReaderIndexOfPinLaw", "hit", "([BBIII)Z"⟩ : MethodName)) hown (mvT hZ (hw _ (List.mem_of_getElem? (i := 6) rfl))) (mvT hZ (hw _ (List.mem_of_getElem? (i := 7) rfl))) (mvT hZ (hw _ (List.mem_of_getElem? (i := 4) rfl))) (mvT hZ (hw _ (List.mem_of_getElem? (i := 8) rfl))) (by decide) (backOf (W := 0) (rm2 l Z a0 hw [] p0 p1 (2 : Int32) p2 p3 g  h0 n0 Z0 Ap (by decide) (by decide)) hZ (hw _ (List.mem_of_getElem? (i := 8) rfl)) (hw _ (List.mem_of_getElem? (i := 4) rfl)) (by decide) (by decide)) (g := (mkF m 31 #[.val (.ref p0), .val (.int p1), .val (.int p2), .val (.int p3)] [(.int p3), (.int p2), (.int (2 : Int32)), (.int p1), (.ref p0)])) rfl (by rw [hml]; rfl) (argsL := [(.ref p0), (.int p1), (.int (2 : Int32)), (.int p2), (.int p3)]) (rest := []) (lenOf pd_0 rfl) rfl (by show 2 * 0 + _ ≤ _; exact Nat.le_of_eq rfl) (hb hby d1_31) (fun _ _ => ⟨rfl, e12, (by decide : 0 + 0 ≤ _), (by decide : 0 + 0 ≤ _)⟩)
      dsimp only [Pt.U, Pt.locs, Pt.cells, Pt.slots] at X15 l15 y15 z15 st15 hQ15
      subst l15 y15 z15
      obtain ⟨rfl, N15q, e15⟩ := hQ15
      have N15 := Fr.app N12 N15q
      have pre16 : ∀ t, Steps p.tables e below (T15.setTop (mkF m 34 #[.val (.ref p0), .val (.int p1), .val (.int p2), .val (.int p3)] [(.int (own_hit g p1 (2 : Int32) p2 p3))])) t → Steps p.tables e below (s₁.setTop (entryFrame m #[(.ref p0), (.int p1), (.int p2), (.int p3)] 4)) t := fun t kont => pre14 t (st15 _ kont)
      by_cases hc34 : (own_hit g p1 (2 : Int32) p2 p3) = (0 : Int32)
      · have pre17 : ∀ t, Steps p.tables e below (T15.setTop (mkF m 44 #[.val (.ref p0), .val (.int p1), .val (.int p2), .val (.int p3)] [(.int p3), (.int p2), (.int (3 : Int32)), (.int p1), (.ref p0)])) t → Steps p.tables e below (s₁.setTop (entryFrame m #[(.ref p0), (.int p1), (.int p2), (.int p3)] 4)) t := by
          intro t kont
          refine pre16 t ?_
          show Steps p.tables e below (T15.setTop (mkF m 34 #[.val (.ref p0), .val (.int p1), .val (.int p2), .val (.int p3)] [(.int (own_hit g p1 (2 : Int32) p2 p3))])) _
          refine XS.ifYes X15.here hx rfl (pc0 := 34) (pc' := 39) rfl (hb hby d1_34) rfl ((if0 _ _).trans (teq hc34).1) (by decide) (by decide) ?_
          show Steps p.tables e below (T15.setTop (mkF m 39 #[.val (.ref p0), .val (.int p1), .val (.int p2), .val (.int p3)] [])) _
          refine XS.aloadN X15.here hx rfl (hb hby d1_39) rfl rfl ?_
          show Steps p.tables e below (T15.setTop (mkF m 40 #[.val (.ref p0), .val (.int p1), .val (.int p2), .val (.int p3)] [(.ref p0)])) _
          refine XS.iloadN X15.here hx rfl (hb hby d1_40) rfl ?_
          show Steps p.tables e below (T15.setTop (mkF m 41 #[.val (.ref p0), .val (.int p1), .val (.int p2), .val (.int p3)] [(.int p1), (.ref p0)])) _
          refine XS.iconst X15.here hx rfl (hb hby d1_41) ?_
          show Steps p.tables e below (T15.setTop (mkF m 42 #[.val (.ref p0), .val (.int p1), .val (.int p2), .val (.int p3)] [(.int (3 : Int32)), (.int p1), (.ref p0)])) _
          refine XS.iloadN X15.here hx rfl (hb hby d1_42) rfl ?_
          show Steps p.tables e below (T15.setTop (mkF m 43 #[.val (.ref p0), .val (.int p1), .val (.int p2), .val (.int p3)] [(.int p2), (.int (3 : Int32)), (.int p1), (.ref p0)])) _
          refine XS.iloadN X15.here hx rfl (hb hby d1_43) rfl ?_
          exact kont
        obtain ⟨_, _, ⟨T18, L18, k18, n18⟩, -, X18, ⟨Lc18, hQ18, l18, y18, z18⟩, st18⟩ := Jvm.LawKit.callS X15 hx (y := (⟨"com/example/cribble/cribble/message/HeaderReaderIndexOfPinLaw", "hit", "([BBIII)Z"⟩ : MethodName)) hown (mvT hZ (hw _ (List.mem_of_getElem? (i := 6) rfl))) (mvT hZ (hw _ (List.mem_of_getElem? (i := 7) rfl))) (mvT hZ (hw _ (List.mem_of_getElem? (i := 4) rfl))) (mvT hZ (hw _ (List.mem_of_getElem? (i := 8) rfl))) (by decide) (backOf (W := 0) (rm2 l Z a0 hw [] p0 p1 (3 : Int32) p2 p3 g  h0 n0 Z0 Ap (by decide) (by decide)) hZ (hw _ (List.mem_of_getElem? (i := 8) rfl)) (hw _ (List.mem_of_getElem? (i := 4) rfl)) (by decide) (by decide)) (g := (mkF m 44 #[.val (.ref p0), .val (.int p1), .val (.int p2), .val (.int p3)] [(.int p3), (.int p2), (.int (3 : Int32)), (.int p1), (.ref p0)])) rfl (by rw [hml]; rfl) (argsL := [(.ref p0), (.int p1), (.int (3 : Int32)), (.int p2), (.int p3)]) (rest := []) (lenOf pd_0 rfl) rfl (by show 2 * 0 + _ ≤ _; exact Nat.le_of_eq rfl) (hb hby d1_44) (fun _ _ => ⟨rfl, e15, (by decide : 0 + 0 ≤ _), (by decide : 0 + 0 ≤ _)⟩)
        dsimp only [Pt.U, Pt.locs, Pt.cells, Pt.slots] at X18 l18 y18 z18 st18 hQ18
        subst l18 y18 z18
        obtain ⟨rfl, N18q, e18⟩ := hQ18
        have N18 := Fr.app N15 N18q
        have pre19 : ∀ t, Steps p.tables e below (T18.setTop (mkF m 47 #[.val (.ref p0), .val (.int p1), .val (.int p2), .val (.int p3)] [(.int (own_hit g p1 (3 : Int32) p2 p3))])) t → Steps p.tables e below (s₁.setTop (entryFrame m #[(.ref p0), (.int p1), (.int p2), (.int p3)] 4)) t := fun t kont => pre17 t (st18 _ kont)
        by_cases hc47 : (own_hit g p1 (3 : Int32) p2 p3) = (0 : Int32)
        · have pre20 : ∀ t, Steps p.tables e below (T18.setTop (mkF m 53 #[.val (.ref p0), .val (.int p1), .val (.int p2), .val (.int p3)] [(.int p3)])) t → Steps p.tables e below (s₁.setTop (entryFrame m #[(.ref p0), (.int p1), (.int p2), (.int p3)] 4)) t := by
            intro t kont
            refine pre19 t ?_
            show Steps p.tables e below (T18.setTop (mkF m 47 #[.val (.ref p0), .val (.int p1), .val (.int p2), .val (.int p3)] [(.int (own_hit g p1 (3 : Int32) p2 p3))])) _
            refine XS.ifYes X18.here hx rfl (pc0 := 47) (pc' := 52) rfl (hb hby d1_47) rfl ((if0 _ _).trans (teq hc47).1) (by decide) (by decide) ?_
            show Steps p.tables e below (T18.setTop (mkF m 52 #[.val (.ref p0), .val (.int p1), .val (.int p2), .val (.int p3)] [])) _
            refine XS.iloadN X18.here hx rfl (hb hby d1_52) rfl ?_
            exact kont
          obtain ⟨fs, hr, hrun, hended, hW, hsame⟩ := X18.leave (v := some (.int p3)) (fun h => by rw [Bd.returns] at h; cases h)
          refine ⟨_, _, pre20 _ ?_, hrun, hended, _, _, rfl, ?_, ⟨_, rfl⟩, hW, hsame.mono (by decide) (by decide)⟩
          · exact retI X18 hx Bd.returns (hb hby d1_53) hr
          · show Q1 Z p0 p1 p2 p3 g h0 n0 _ T18.heap _
            rw [e18]
            refine ⟨?_, N18, rfl⟩
            unfold own_expd; rw [if_pos hc8, if_pos hc21, if_pos hc34, if_pos hc47]
        · have pre21 : ∀ t, Steps p.tables e below (T18.setTop (mkF m 51 #[.val (.ref p0), .val (.int p1), .val (.int p2), .val (.int p3)] [(.int (3 : Int32))])) t → Steps p.tables e below (s₁.setTop (entryFrame m #[(.ref p0), (.int p1), (.int p2), (.int p3)] 4)) t := by
            intro t kont
            refine pre19 t ?_
            show Steps p.tables e below (T18.setTop (mkF m 47 #[.val (.ref p0), .val (.int p1), .val (.int p2), .val (.int p3)] [(.int (own_hit g p1 (3 : Int32) p2 p3))])) _
            refine XS.ifNo X18.here hx rfl (hb hby d1_47) rfl ((if0 _ _).trans (feq hc47).1) ?_
            show Steps p.tables e below (T18.setTop (mkF m 50 #[.val (.ref p0), .val (.int p1), .val (.int p2), .val (.int p3)] [])) _
            refine XS.iconst X18.here hx rfl (hb hby d1_50) ?_
            exact kont
          obtain ⟨fs, hr, hrun, hended, hW, hsame⟩ := X18.leave (v := some (.int (3 : Int32))) (fun h => by rw [Bd.returns] at h; cases h)
          refine ⟨_, _, pre21 _ ?_, hrun, hended, _, _, rfl, ?_, ⟨_, rfl⟩, hW, hsame.mono (by decide) (by decide)⟩
          · exact retI X18 hx Bd.returns (hb hby d1_51) hr
          · show Q1 Z p0 p1 p2 p3 g h0 n0 _ T18.heap _
            rw [e18]
            refine ⟨?_, N18, rfl⟩
            unfold own_expd; rw [if_pos hc8, if_pos hc21, if_pos hc34, if_neg hc47]
      · have pre22 : ∀ t, Steps p.tables e below (T15.setTop (mkF m 38 #[.val (.ref p0), .val (.int p1), .val (.int p2), .val (.int p3)] [(.int (2 : Int32))])) t → Steps p.tables e below (s₁.setTop (entryFrame m #[(.ref p0), (.int p1), (.int p2), (.int p3)] 4)) t := by
          intro t kont
          refine pre16 t ?_
          show Steps p.tables e below (T15.setTop (mkF m 34 #[.val (.ref p0), .val (.int p1), .val (.int p2), .val (.int p3)] [(.int (own_hit g p1 (2 : Int32) p2 p3))])) _
          refine XS.ifNo X15.here hx rfl (hb hby d1_34) rfl ((if0 _ _).trans (feq hc34).1) ?_
          show Steps p.tables e below (T15.setTop (mkF m 37 #[.val (.ref p0), .val (.int p1), .val (.int p2), .val (.int p3)] [])) _
          refine XS.iconst X15.here hx rfl (hb hby d1_37) ?_
          exact kont
        obtain ⟨fs, hr, hrun, hended, hW, hsame⟩ := X15.leave (v := some (.int (2 : Int32))) (fun h => by rw [Bd.returns] at h; cases h)
        refine ⟨_, _, pre22 _ ?_, hrun, hended, _, _, rfl, ?_, ⟨_, rfl⟩, hW, hsame.mono (by decide) (by decide)⟩
        · exact retI X15 hx Bd.returns (hb hby d1_38) hr
        · show Q1 Z p0 p1 p2 p3 g h0 n0 _ T15.heap _
          rw [e15]
          refine ⟨?_, N15, rfl⟩
          unfold own_expd; rw [if_pos hc8, if_pos hc21, if_neg hc34]
    · have pre23 : ∀ t, Steps p.tables e below (T12.setTop (mkF m 25 #[.val (.ref p0), .val (.int p1), .val (.int p2), .val (.int p3)] [(.int (1 : Int32))])) t → Steps p.tables e below (s₁.setTop (entryFrame m #[(.ref p0), (.int p1), (.int p2), (.int p3)] 4)) t := by
        intro t kont
        refine pre13 t ?_
        show Steps p.tables e below (T12.setTop (mkF m 21 #[.val (.ref p0), .val (.int p1), .val (.int p2), .val (.int p3)] [(.int (own_hit g p1 (1 : Int32) p2 p3))])) _
        refine XS.ifNo X12.here hx rfl (hb hby d1_21) rfl ((if0 _ _).trans (feq hc21).1) ?_
        show Steps p.tables e below (T12.setTop (mkF m 24 #[.val (.ref p0), .val (.int p1), .val (.int p2), .val (.int p3)] [])) _
        refine XS.iconst X12.here hx rfl (hb hby d1_24) ?_
        exact kont
      obtain ⟨fs, hr, hrun, hended, hW, hsame⟩ := X12.leave (v := some (.int (1 : Int32))) (fun h => by rw [Bd.returns] at h; cases h)
      refine ⟨_, _, pre23 _ ?_, hrun, hended, _, _, rfl, ?_, ⟨_, rfl⟩, hW, hsame.mono (by decide) (by decide)⟩
      · exact retI X12 hx Bd.returns (hb hby d1_25) hr
      · show Q1 Z p0 p1 p2 p3 g h0 n0 _ T12.heap _
        rw [e12]
        refine ⟨?_, N12, rfl⟩
        unfold own_expd; rw [if_pos hc8, if_neg hc21]
  · have pre24 : ∀ t, Steps p.tables e below (T9.setTop (mkF m 12 #[.val (.ref p0), .val (.int p1), .val (.int p2), .val (.int p3)] [(.int (0 : Int32))])) t → Steps p.tables e below (s₁.setTop (entryFrame m #[(.ref p0), (.int p1), (.int p2), (.int p3)] 4)) t := by
      intro t kont
      refine pre10 t ?_
      show Steps p.tables e below (T9.setTop (mkF m 8 #[.val (.ref p0), .val (.int p1), .val (.int p2), .val (.int p3)] [(.int (own_hit g p1 (0 : Int32) p2 p3))])) _
      refine XS.ifNo X9.here hx rfl (hb hby d1_8) rfl ((if0 _ _).trans (feq hc8).1) ?_
      show Steps p.tables e below (T9.setTop (mkF m 11 #[.val (.ref p0), .val (.int p1), .val (.int p2), .val (.int p3)] [])) _
      refine XS.iconst X9.here hx rfl (hb hby d1_11) ?_
      exact kont
    obtain ⟨fs, hr, hrun, hended, hW, hsame⟩ := X9.leave (v := some (.int (0 : Int32))) (fun h => by rw [Bd.returns] at h; cases h)
    refine ⟨_, _, pre24 _ ?_, hrun, hended, _, _, rfl, ?_, ⟨_, rfl⟩, hW, hsame.mono (by decide) (by decide)⟩
    · exact retI X9 hx Bd.returns (hb hby d1_12) hr
    · show Q1 Z p0 p1 p2 p3 g h0 n0 _ T9.heap _
      rw [e9]
      refine ⟨?_, N9, rfl⟩
      unfold own_expd; rw [if_neg hc8]
theorem own_up {i t : Int32} (h0 : 0 ≤ i.toInt) (h1 : i < t) : 0 ≤ (i + (1 : Int32)).toInt := by
  rw [Int32.lt_iff_toInt_lt] at h1
  have a := c_iadd i 1
  have r := rng32 (i + 1)
  have r2 := rng32 t
  have o : (1 : Int32).toInt = 1 := rfl
  omega
theorem own_inb {i t : Int32} (h0 : 0 ≤ i.toInt) (h1 : i < t) (h2 : t.toInt ≤ 4) : ¬ i < 0 ∧ i.toNatClampNeg < 4 := by
  rw [Int32.lt_iff_toInt_lt] at h1
  rw [Int32.lt_iff_toInt_lt, Int32.toNatClampNeg]
  have o : (0 : Int32).toInt = 0 := rfl
  omega
theorem own_five {i t : Int32} (h0 : 0 ≤ i.toInt) (h2 : t.toInt ≤ 4) (a1 : i + (1 : Int32) < t) (a2 : i + (1 : Int32) + (1 : Int32) < t) (a3 : i + (1 : Int32) + (1 : Int32) + (1 : Int32) < t) (a4 : i + (1 : Int32) + (1 : Int32) + (1 : Int32) + (1 : Int32) < t) (a0 : i < t) : False := by
  have c1 := c_iadd i 1
  have c2 := c_iadd (i + 1) 1
  have c3 := c_iadd (i + 1 + 1) 1
  have c4 := c_iadd (i + 1 + 1 + 1) 1
  have r1 := rng32 (i + 1)
  have r2 := rng32 (i + 1 + 1)
  have r3 := rng32 (i + 1 + 1 + 1)
  have r4 := rng32 (i + 1 + 1 + 1 + 1)
  have o : (1 : Int32).toInt = 1 := rfl
  simp only [Int32.lt_iff_toInt_lt] at a0 a1 a2 a3 a4
  omega
def own_ix (g : Nat → Int32) (p1 p2 p3 : Int32) : Int32 := if p2 < p3 then (if g p2.toNatClampNeg = p1 then p2 else if (p2 + (1 : Int32)) < p3 then (if g (p2 + (1 : Int32)).toNatClampNeg = p1 then (p2 + (1 : Int32)) else if ((p2 + (1 : Int32)) + (1 : Int32)) < p3 then (if g ((p2 + (1 : Int32)) + (1 : Int32)).toNatClampNeg = p1 then ((p2 + (1 : Int32)) + (1 : Int32)) else if (((p2 + (1 : Int32)) + (1 : Int32)) + (1 : Int32)) < p3 then (if g (((p2 + (1 : Int32)) + (1 : Int32)) + (1 : Int32)).toNatClampNeg = p1 then (((p2 + (1 : Int32)) + (1 : Int32)) + (1 : Int32)) else (if ((((p2 + (1 : Int32)) + (1 : Int32)) + (1 : Int32)) + (1 : Int32)) < p3 then (0 : Int32) else p3)) else p3) else p3) else p3) else p3
theorem d3_0 : decode prog_61_method_17_code 0 = .ok (.iload_n 2, 1) := by decide +kernel
theorem d3_1 : decode prog_61_method_17_code 1 = .ok (.istore 4, 2) := by decide +kernel
theorem d3_3 : decode prog_61_method_17_code 3 = .ok (.iload 4, 2) := by decide +kernel
theorem d3_5 : decode prog_61_method_17_code 5 = .ok (.iload_n 3, 1) := by decide +kernel
theorem d3_6 : decode prog_61_method_17_code 6 = .ok (.if_icmp .ge 20, 3) := by decide +kernel
theorem d3_9 : decode prog_61_method_17_code 9 = .ok (.aload_n 0, 1) := by decide +kernel
theorem d3_10 : decode prog_61_method_17_code 10 = .ok (.iload 4, 2) := by decide +kernel
theorem d3_12 : decode prog_61_method_17_code 12 = .ok (.baload, 1) := by decide +kernel
theorem d3_13 : decode prog_61_method_17_code 13 = .ok (.iload_n 1, 1) := by decide +kernel
theorem d3_14 : decode prog_61_method_17_code 14 = .ok (.if_icmp .ne 6, 3) := by decide +kernel
theorem d3_17 : decode prog_61_method_17_code 17 = .ok (.iload 4, 2) := by decide +kernel
theorem d3_19 : decode prog_61_method_17_code 19 = .ok (.ireturn, 1) := by decide +kernel
theorem d3_20 : decode prog_61_method_17_code 20 = .ok (.iinc 4 1, 3) := by decide +kernel
theorem d3_23 : decode prog_61_method_17_code 23 = .ok (.goto (-20), 3) := by decide +kernel
theorem d3_26 : decode prog_61_method_17_code 26 = .ok (.iload_n 3, 1) := by decide +kernel
theorem d3_27 : decode prog_61_method_17_code 27 = .ok (.ireturn, 1) := by decide +kernel
theorem pn_3 : plainName "com/example/cribble/cribble/message/HeaderReader" = true := by first | (simp [plainName, overriddenIn]; done) | decide +kernel
theorem ef_3 (m : MethodId) (x0 : Addr) (x1 : Int32) (x2 : Int32) (x3 : Int32) : entryFrame m #[(.ref x0), (.int x1), (.int x2), (.int x3)] 5 = mkF m 0 #[.val (.ref x0), .val (.int x1), .val (.int x2), .val (.int x3), .unset] [] := by first | (simp [entryFrame, mkF, argsToLocals, Value.category]; done) | rfl
def Q3 (Z : State) (p0 : Addr) (p1 : Int32) (p2 : Int32) (p3 : Int32) (g : Nat → Int32) (h0 : Heap) (n0 : Nat) (v : Option Value) (h : Heap) (L : List Loc) : Prop := v = some (.int (own_ix g p1 p2 p3)) ∧ Fr n0 L ∧ h = h0
set_option maxRecDepth 65536 in
set_option maxHeartbeats 40000000 in
theorem rm3 (l : Launch) (Z : State) (a0 : Array Value) (hw : ∀ d ∈ tables_1, d.before a0 Z = true) (ws : List Jvm.Cond) (p0 : Addr) (p1 : Int32) (p2 : Int32) (p3 : Int32) (g : Nat → Int32) (h0 : Heap) (n0 : Nat) (Z0 : n0 ≤ h0.size) (Ap : own_arr Z h0 p0 .byte 4 (fun i => .int (g i))) (hf : 0 ≤ p2.toInt) (ht : p3.toInt ≤ 4) :
    MetFree l (⟨"com/example/cribble/cribble/message/HeaderReader", "indexOf", "([BBII)I"⟩ : MethodName) (head1 (Jvm.Cond.code (⟨"com/example/cribble/cribble/message/HeaderReader", "indexOf", "([BBII)I"⟩ : MethodName) prog_61_method_17_code 5 (some .int) :: ws) ({ frames := 0, cells := 0, slots := 0, locals := 0 } : Room)) (fun a U => a = #[(.ref p0), (.int p1), (.int p2), (.int p3)] ∧ Z.Warmed39 U.vm ∧ U.heap = h0) (fun _ _ _ _ _ => True) (fun _ U o U' => ∃ v L, o = .returned v ∧ Q3 Z p0 p1 p2 p3 g h0 n0 v U'.heap L ∧ FrameEnd U o U' L ({ frames := 0, cells := 0, slots := 0, locals := 0 } : Room).cells ({ frames := 0, cells := 0, slots := 0, locals := 0 } : Room).slots) := by
  refine MetFree.of_bodySF (plainFor_of_name pn_3) hisR ?_
  intro p e s m args below meth c s₁ Bd hml0 hP hK
  obtain ⟨rfl, hZ, hh⟩ := hP
  have hx := Bd.exec
  have hby := Bd.bytes
  have hml : c.maxLocals = 5 := hml0
  have hown : s.vm.findClass "com/example/cribble/cribble/message/HeaderReader" = some m.cls := findClass_of_methodNamed Bd.named
  have hnm := (name_of_methodNamed Bd.named Bd.method).1
  have X0 : Stand p l e ({ frames := 0, cells := 0, slots := 0, locals := 0 } : Room) s m #[(.ref p0), (.int p1), (.int p2), (.int p3)] below meth c s₁ [] 0 0 := Stand.of_body Bd
  have e0 : s₁.heap = h0 := by rw [← hh, Bd.state]; rfl
  have N0 := Fr.nil n0
  have pre0 : ∀ t, Steps p.tables e below (s₁.setTop (mkF m 0 #[.val (.ref p0), .val (.int p1), .val (.int p2), .val (.int p3), .unset] [])) t → Steps p.tables e below (s₁.setTop (entryFrame m #[(.ref p0), (.int p1), (.int p2), (.int p3)] 5)) t := fun t k => castTop (ef_3 m p0 p1 p2 p3) k
  have pre25 : ∀ t, Steps p.tables e below (s₁.setTop (mkF m 6 #[.val (.ref p0), .val (.int p1), .val (.int p2), .val (.int p3), .val (.int p2)] [(.int p3), (.int p2)])) t → Steps p.tables e below (s₁.setTop (entryFrame m #[(.ref p0), (.int p1), (.int p2), (.int p3)] 5)) t := by
    intro t kont
    refine pre0 t ?_
    show Steps p.tables e below (s₁.setTop (mkF m 0 #[.val (.ref p0), .val (.int p1), .val (.int p2), .val (.int p3), .unset] [])) _
    refine XS.iloadN X0.here hx rfl (hb hby d3_0) rfl ?_
    show Steps p.tables e below (s₁.setTop (mkF m 1 #[.val (.ref p0), .val (.int p1), .val (.int p2), .val (.int p3), .unset] [(.int p2)])) _
    refine XS.istore X0.here hx rfl (hb hby d3_1) rfl (l' := #[.val (.ref p0), .val (.int p1), .val (.int p2), .val (.int p3), .val (.int p2)]) rfl ?_
    show Steps p.tables e below (s₁.setTop (mkF m 3 #[.val (.ref p0), .val (.int p1), .val (.int p2), .val (.int p3), .val (.int p2)] [])) _
    refine XS.iload X0.here hx rfl (hb hby d3_3) rfl ?_
    show Steps p.tables e below (s₁.setTop (mkF m 5 #[.val (.ref p0), .val (.int p1), .val (.int p2), .val (.int p3), .val (.int p2)] [(.int p2)])) _
    refine XS.iloadN X0.here hx rfl (hb hby d3_5) rfl ?_
    exact kont
  by_cases hc6 : p2 < p3
  · have pre26 : ∀ t, Steps p.tables e below (s₁.setTop (mkF m 9 #[.val (.ref p0), .val (.int p1), .val (.int p2), .val (.int p3), .val (.int p2)] [])) t → Steps p.tables e below (s₁.setTop (entryFrame m #[(.ref p0), (.int p1), (.int p2), (.int p3)] 5)) t := by
      intro t kont
      refine pre25 t ?_
      show Steps p.tables e below (s₁.setTop (mkF m 6 #[.val (.ref p0), .val (.int p1), .val (.int p2), .val (.int p3), .val (.int p2)] [(.int p3), (.int p2)])) _
      refine XS.icmpNo X0.here hx rfl (hb hby d3_6) rfl (tlt hc6).2.1 ?_
      exact kont
    have q1 : 0 ≤ p2.toInt := hf
    have r1 := own_inb q1 hc6 ht
    have pre27 : ∀ t, Steps p.tables e below (s₁.setTop (mkF m 14 #[.val (.ref p0), .val (.int p1), .val (.int p2), .val (.int p3), .val (.int p2)] [(.int p1), (.int (g (p2.toNatClampNeg)))])) t → Steps p.tables e below (s₁.setTop (entryFrame m #[(.ref p0), (.int p1), (.int p2), (.int p3)] 5)) t := by
      intro t kont
      refine pre26 t ?_
      show Steps p.tables e below (s₁.setTop (mkF m 9 #[.val (.ref p0), .val (.int p1), .val (.int p2), .val (.int p3), .val (.int p2)] [])) _
      refine XS.aloadN X0.here hx rfl (hb hby d3_9) rfl rfl ?_
      show Steps p.tables e below (s₁.setTop (mkF m 10 #[.val (.ref p0), .val (.int p1), .val (.int p2), .val (.int p3), .val (.int p2)] [(.ref p0)])) _
      refine XS.iload X0.here hx rfl (hb hby d3_10) rfl ?_
      show Steps p.tables e below (s₁.setTop (mkF m 12 #[.val (.ref p0), .val (.int p1), .val (.int p2), .val (.int p3), .val (.int p2)] [(.int p2), (.ref p0)])) _
      refine own_ldB X0 hx hZ e0 Ap (k := p2.toNatClampNeg) r1.1 rfl r1.2 (fr := (mkF m 12 #[.val (.ref p0), .val (.int p1), .val (.int p2), .val (.int p3), .val (.int p2)] [(.int p2), (.ref p0)])) rfl rfl (hb hby d3_12) _ ?_
      show Steps p.tables e below (s₁.setTop (mkF m 13 #[.val (.ref p0), .val (.int p1), .val (.int p2), .val (.int p3), .val (.int p2)] [(.int (g (p2.toNatClampNeg)))])) _
      refine XS.iloadN X0.here hx rfl (hb hby d3_13) rfl ?_
      exact kont
    by_cases hc14 : (g (p2.toNatClampNeg)) = p1
    · have pre28 : ∀ t, Steps p.tables e below (s₁.setTop (mkF m 19 #[.val (.ref p0), .val (.int p1), .val (.int p2), .val (.int p3), .val (.int p2)] [(.int p2)])) t → Steps p.tables e below (s₁.setTop (entryFrame m #[(.ref p0), (.int p1), (.int p2), (.int p3)] 5)) t := by
        intro t kont
        refine pre27 t ?_
        show Steps p.tables e below (s₁.setTop (mkF m 14 #[.val (.ref p0), .val (.int p1), .val (.int p2), .val (.int p3), .val (.int p2)] [(.int p1), (.int (g (p2.toNatClampNeg)))])) _
        refine XS.icmpNo X0.here hx rfl (hb hby d3_14) rfl (teq hc14).2 ?_
        show Steps p.tables e below (s₁.setTop (mkF m 17 #[.val (.ref p0), .val (.int p1), .val (.int p2), .val (.int p3), .val (.int p2)] [])) _
        refine XS.iload X0.here hx rfl (hb hby d3_17) rfl ?_
        exact kont
      obtain ⟨fs, hr, hrun, hended, hW, hsame⟩ := X0.leave (v := some (.int p2)) (fun h => by rw [Bd.returns] at h; cases h)
      refine ⟨_, _, pre28 _ ?_, hrun, hended, _, _, rfl, ?_, ⟨_, rfl⟩, hW, hsame.mono (by decide) (by decide)⟩
      · exact retI X0 hx Bd.returns (hb hby d3_19) hr
      · show Q3 Z p0 p1 p2 p3 g h0 n0 _ s₁.heap _
        rw [e0]
        refine ⟨?_, N0, rfl⟩
        unfold own_ix; rw [if_pos hc6, if_pos hc14]
    · have pre29 : ∀ t, Steps p.tables e below (s₁.setTop (mkF m 6 #[.val (.ref p0), .val (.int p1), .val (.int p2), .val (.int p3), .val (.int (p2 + (1 : Int32)))] [(.int p3), (.int (p2 + (1 : Int32)))])) t → Steps p.tables e below (s₁.setTop (entryFrame m #[(.ref p0), (.int p1), (.int p2), (.int p3)] 5)) t := by
        intro t kont
        refine pre27 t ?_
        show Steps p.tables e below (s₁.setTop (mkF m 14 #[.val (.ref p0), .val (.int p1), .val (.int p2), .val (.int p3), .val (.int p2)] [(.int p1), (.int (g (p2.toNatClampNeg)))])) _
        refine XS.icmpYes X0.here hx rfl (pc0 := 14) (pc' := 20) rfl (hb hby d3_14) rfl (feq hc14).2 (by decide) (by decide) ?_
        show Steps p.tables e below (s₁.setTop (mkF m 20 #[.val (.ref p0), .val (.int p1), .val (.int p2), .val (.int p3), .val (.int p2)] [])) _
        refine XS.iinc X0.here hx rfl (hb hby d3_20) rfl (l' := #[.val (.ref p0), .val (.int p1), .val (.int p2), .val (.int p3), .val (.int (p2 + (1 : Int32)))]) rfl ?_
        show Steps p.tables e below (s₁.setTop (mkF m 23 #[.val (.ref p0), .val (.int p1), .val (.int p2), .val (.int p3), .val (.int (p2 + (1 : Int32)))] [])) _
        refine XS.goto X0.here hx rfl (pc0 := 23) (pc' := 3) rfl (hb hby d3_23) (by decide) (by decide) ?_
        show Steps p.tables e below (s₁.setTop (mkF m 3 #[.val (.ref p0), .val (.int p1), .val (.int p2), .val (.int p3), .val (.int (p2 + (1 : Int32)))] [])) _
        refine XS.iload X0.here hx rfl (hb hby d3_3) rfl ?_
        show Steps p.tables e below (s₁.setTop (mkF m 5 #[.val (.ref p0), .val (.int p1), .val (.int p2), .val (.int p3), .val (.int (p2 + (1 : Int32)))] [(.int (p2 + (1 : Int32)))])) _
        refine XS.iloadN X0.here hx rfl (hb hby d3_5) rfl ?_
        exact kont
      by_cases hc6' : (p2 + (1 : Int32)) < p3
      · have pre30 : ∀ t, Steps p.tables e below (s₁.setTop (mkF m 9 #[.val (.ref p0), .val (.int p1), .val (.int p2), .val (.int p3), .val (.int (p2 + (1 : Int32)))] [])) t → Steps p.tables e below (s₁.setTop (entryFrame m #[(.ref p0), (.int p1), (.int p2), (.int p3)] 5)) t := by
          intro t kont
          refine pre29 t ?_
          show Steps p.tables e below (s₁.setTop (mkF m 6 #[.val (.ref p0), .val (.int p1), .val (.int p2), .val (.int p3), .val (.int (p2 + (1 : Int32)))] [(.int p3), (.int (p2 + (1 : Int32)))])) _
          refine XS.icmpNo X0.here hx rfl (hb hby d3_6) rfl (tlt hc6').2.1 ?_
          exact kont
        have q2 : 0 ≤ (p2 + (1 : Int32)).toInt := own_up q1 hc6
        have r2 := own_inb q2 hc6' ht
        have pre31 : ∀ t, Steps p.tables e below (s₁.setTop (mkF m 14 #[.val (.ref p0), .val (.int p1), .val (.int p2), .val (.int p3), .val (.int (p2 + (1 : Int32)))] [(.int p1), (.int (g ((p2 + (1 : Int32)).toNatClampNeg)))])) t → Steps p.tables e below (s₁.setTop (entryFrame m #[(.ref p0), (.int p1), (.int p2), (.int p3)] 5)) t := by
          intro t kont
          refine pre30 t ?_
          show Steps p.tables e below (s₁.setTop (mkF m 9 #[.val (.ref p0), .val (.int p1), .val (.int p2), .val (.int p3), .val (.int (p2 + (1 : Int32)))] [])) _
          refine XS.aloadN X0.here hx rfl (hb hby d3_9) rfl rfl ?_
          show Steps p.tables e below (s₁.setTop (mkF m 10 #[.val (.ref p0), .val (.int p1), .val (.int p2), .val (.int p3), .val (.int (p2 + (1 : Int32)))] [(.ref p0)])) _
          refine XS.iload X0.here hx rfl (hb hby d3_10) rfl ?_
          show Steps p.tables e below (s₁.setTop (mkF m 12 #[.val (.ref p0), .val (.int p1), .val (.int p2), .val (.int p3), .val (.int (p2 + (1 : Int32)))] [(.int (p2 + (1 : Int32))), (.ref p0)])) _
          refine own_ldB X0 hx hZ e0 Ap (k := (p2 + (1 : Int32)).toNatClampNeg) r2.1 rfl r2.2 (fr := (mkF m 12 #[.val (.ref p0), .val (.int p1), .val (.int p2), .val (.int p3), .val (.int (p2 + (1 : Int32)))] [(.int (p2 + (1 : Int32))), (.ref p0)])) rfl rfl (hb hby d3_12) _ ?_
          show Steps p.tables e below (s₁.setTop (mkF m 13 #[.val (.ref p0), .val (.int p1), .val (.int p2), .val (.int p3), .val (.int (p2 + (1 : Int32)))] [(.int (g ((p2 + (1 : Int32)).toNatClampNeg)))])) _
          refine XS.iloadN X0.here hx rfl (hb hby d3_13) rfl ?_
          exact kont
        by_cases hc14' : (g ((p2 + (1 : Int32)).toNatClampNeg)) = p1
        · have pre32 : ∀ t, Steps p.tables e below (s₁.setTop (mkF m 19 #[.val (.ref p0), .val (.int p1), .val (.int p2), .val (.int p3), .val (.int (p2 + (1 : Int32)))] [(.int (p2 + (1 : Int32)))])) t → Steps p.tables e below (s₁.setTop (entryFrame m #[(.ref p0), (.int p1), (.int p2), (.int p3)] 5)) t := by
            intro t kont
            refine pre31 t ?_
            show Steps p.tables e below (s₁.setTop (mkF m 14 #[.val (.ref p0), .val (.int p1), .val (.int p2), .val (.int p3), .val (.int (p2 + (1 : Int32)))] [(.int p1), (.int (g ((p2 + (1 : Int32)).toNatClampNeg)))])) _
            refine XS.icmpNo X0.here hx rfl (hb hby d3_14) rfl (teq hc14').2 ?_
            show Steps p.tables e below (s₁.setTop (mkF m 17 #[.val (.ref p0), .val (.int p1), .val (.int p2), .val (.int p3), .val (.int (p2 + (1 : Int32)))] [])) _
            refine XS.iload X0.here hx rfl (hb hby d3_17) rfl ?_
            exact kont
          obtain ⟨fs, hr, hrun, hended, hW, hsame⟩ := X0.leave (v := some (.int (p2 + (1 : Int32)))) (fun h => by rw [Bd.returns] at h; cases h)
          refine ⟨_, _, pre32 _ ?_, hrun, hended, _, _, rfl, ?_, ⟨_, rfl⟩, hW, hsame.mono (by decide) (by decide)⟩
          · exact retI X0 hx Bd.returns (hb hby d3_19) hr
          · show Q3 Z p0 p1 p2 p3 g h0 n0 _ s₁.heap _
            rw [e0]
            refine ⟨?_, N0, rfl⟩
            unfold own_ix; rw [if_pos hc6, if_neg hc14, if_pos hc6', if_pos hc14']
        · have pre33 : ∀ t, Steps p.tables e below (s₁.setTop (mkF m 6 #[.val (.ref p0), .val (.int p1), .val (.int p2), .val (.int p3), .val (.int ((p2 + (1 : Int32)) + (1 : Int32)))] [(.int p3), (.int ((p2 + (1 : Int32)) + (1 : Int32)))])) t → Steps p.tables e below (s₁.setTop (entryFrame m #[(.ref p0), (.int p1), (.int p2), (.int p3)] 5)) t := by
            intro t kont
            refine pre31 t ?_
            show Steps p.tables e below (s₁.setTop (mkF m 14 #[.val (.ref p0), .val (.int p1), .val (.int p2), .val (.int p3), .val (.int (p2 + (1 : Int32)))] [(.int p1), (.int (g ((p2 + (1 : Int32)).toNatClampNeg)))])) _
            refine XS.icmpYes X0.here hx rfl (pc0 := 14) (pc' := 20) rfl (hb hby d3_14) rfl (feq hc14').2 (by decide) (by decide) ?_
            show Steps p.tables e below (s₁.setTop (mkF m 20 #[.val (.ref p0), .val (.int p1), .val (.int p2), .val (.int p3), .val (.int (p2 + (1 : Int32)))] [])) _
            refine XS.iinc X0.here hx rfl (hb hby d3_20) rfl (l' := #[.val (.ref p0), .val (.int p1), .val (.int p2), .val (.int p3), .val (.int ((p2 + (1 : Int32)) + (1 : Int32)))]) rfl ?_
            show Steps p.tables e below (s₁.setTop (mkF m 23 #[.val (.ref p0), .val (.int p1), .val (.int p2), .val (.int p3), .val (.int ((p2 + (1 : Int32)) + (1 : Int32)))] [])) _
            refine XS.goto X0.here hx rfl (pc0 := 23) (pc' := 3) rfl (hb hby d3_23) (by decide) (by decide) ?_
            show Steps p.tables e below (s₁.setTop (mkF m 3 #[.val (.ref p0), .val (.int p1), .val (.int p2), .val (.int p3), .val (.int ((p2 + (1 : Int32)) + (1 : Int32)))] [])) _
            refine XS.iload X0.here hx rfl (hb hby d3_3) rfl ?_
            show Steps p.tables e below (s₁.setTop (mkF m 5 #[.val (.ref p0), .val (.int p1), .val (.int p2), .val (.int p3), .val (.int ((p2 + (1 : Int32)) + (1 : Int32)))] [(.int ((p2 + (1 : Int32)) + (1 : Int32)))])) _
            refine XS.iloadN X0.here hx rfl (hb hby d3_5) rfl ?_
            exact kont
          by_cases hc6'' : ((p2 + (1 : Int32)) + (1 : Int32)) < p3
          · have pre34 : ∀ t, Steps p.tables e below (s₁.setTop (mkF m 9 #[.val (.ref p0), .val (.int p1), .val (.int p2), .val (.int p3), .val (.int ((p2 + (1 : Int32)) + (1 : Int32)))] [])) t → Steps p.tables e below (s₁.setTop (entryFrame m #[(.ref p0), (.int p1), (.int p2), (.int p3)] 5)) t := by
              intro t kont
              refine pre33 t ?_
              show Steps p.tables e below (s₁.setTop (mkF m 6 #[.val (.ref p0), .val (.int p1), .val (.int p2), .val (.int p3), .val (.int ((p2 + (1 : Int32)) + (1 : Int32)))] [(.int p3), (.int ((p2 + (1 : Int32)) + (1 : Int32)))])) _
              refine XS.icmpNo X0.here hx rfl (hb hby d3_6) rfl (tlt hc6'').2.1 ?_
              exact kont
            have q3 : 0 ≤ ((p2 + (1 : Int32)) + (1 : Int32)).toInt := own_up q2 hc6'
            have r3 := own_inb q3 hc6'' ht
            have pre35 : ∀ t, Steps p.tables e below (s₁.setTop (mkF m 14 #[.val (.ref p0), .val (.int p1), .val (.int p2), .val (.int p3), .val (.int ((p2 + (1 : Int32)) + (1 : Int32)))] [(.int p1), (.int (g (((p2 + (1 : Int32)) + (1 : Int32)).toNatClampNeg)))])) t → Steps p.tables e below (s₁.setTop (entryFrame m #[(.ref p0), (.int p1), (.int p2), (.int p3)] 5)) t := by
              intro t kont
              refine pre34 t ?_
              show Steps p.tables e below (s₁.setTop (mkF m 9 #[.val (.ref p0), .val (.int p1), .val (.int p2), .val (.int p3), .val (.int ((p2 + (1 : Int32)) + (1 : Int32)))] [])) _
              refine XS.aloadN X0.here hx rfl (hb hby d3_9) rfl rfl ?_
              show Steps p.tables e below (s₁.setTop (mkF m 10 #[.val (.ref p0), .val (.int p1), .val (.int p2), .val (.int p3), .val (.int ((p2 + (1 : Int32)) + (1 : Int32)))] [(.ref p0)])) _
              refine XS.iload X0.here hx rfl (hb hby d3_10) rfl ?_
              show Steps p.tables e below (s₁.setTop (mkF m 12 #[.val (.ref p0), .val (.int p1), .val (.int p2), .val (.int p3), .val (.int ((p2 + (1 : Int32)) + (1 : Int32)))] [(.int ((p2 + (1 : Int32)) + (1 : Int32))), (.ref p0)])) _
              refine own_ldB X0 hx hZ e0 Ap (k := ((p2 + (1 : Int32)) + (1 : Int32)).toNatClampNeg) r3.1 rfl r3.2 (fr := (mkF m 12 #[.val (.ref p0), .val (.int p1), .val (.int p2), .val (.int p3), .val (.int ((p2 + (1 : Int32)) + (1 : Int32)))] [(.int ((p2 + (1 : Int32)) + (1 : Int32))), (.ref p0)])) rfl rfl (hb hby d3_12) _ ?_
              show Steps p.tables e below (s₁.setTop (mkF m 13 #[.val (.ref p0), .val (.int p1), .val (.int p2), .val (.int p3), .val (.int ((p2 + (1 : Int32)) + (1 : Int32)))] [(.int (g (((p2 + (1 : Int32)) + (1 : Int32)).toNatClampNeg)))])) _
              refine XS.iloadN X0.here hx rfl (hb hby d3_13) rfl ?_
              exact kont
            by_cases hc14'' : (g (((p2 + (1 : Int32)) + (1 : Int32)).toNatClampNeg)) = p1
            · have pre36 : ∀ t, Steps p.tables e below (s₁.setTop (mkF m 19 #[.val (.ref p0), .val (.int p1), .val (.int p2), .val (.int p3), .val (.int ((p2 + (1 : Int32)) + (1 : Int32)))] [(.int ((p2 + (1 : Int32)) + (1 : Int32)))])) t → Steps p.tables e below (s₁.setTop (entryFrame m #[(.ref p0), (.int p1), (.int p2), (.int p3)] 5)) t := by
                intro t kont
                refine pre35 t ?_
                show Steps p.tables e below (s₁.setTop (mkF m 14 #[.val (.ref p0), .val (.int p1), .val (.int p2), .val (.int p3), .val (.int ((p2 + (1 : Int32)) + (1 : Int32)))] [(.int p1), (.int (g (((p2 + (1 : Int32)) + (1 : Int32)).toNatClampNeg)))])) _
                refine XS.icmpNo X0.here hx rfl (hb hby d3_14) rfl (teq hc14'').2 ?_
                show Steps p.tables e below (s₁.setTop (mkF m 17 #[.val (.ref p0), .val (.int p1), .val (.int p2), .val (.int p3), .val (.int ((p2 + (1 : Int32)) + (1 : Int32)))] [])) _
                refine XS.iload X0.here hx rfl (hb hby d3_17) rfl ?_
                exact kont
              obtain ⟨fs, hr, hrun, hended, hW, hsame⟩ := X0.leave (v := some (.int ((p2 + (1 : Int32)) + (1 : Int32)))) (fun h => by rw [Bd.returns] at h; cases h)
              refine ⟨_, _, pre36 _ ?_, hrun, hended, _, _, rfl, ?_, ⟨_, rfl⟩, hW, hsame.mono (by decide) (by decide)⟩
              · exact retI X0 hx Bd.returns (hb hby d3_19) hr
              · show Q3 Z p0 p1 p2 p3 g h0 n0 _ s₁.heap _
                rw [e0]
                refine ⟨?_, N0, rfl⟩
                unfold own_ix; rw [if_pos hc6, if_neg hc14, if_pos hc6', if_neg hc14', if_pos hc6'', if_pos hc14'']
            · have pre37 : ∀ t, Steps p.tables e below (s₁.setTop (mkF m 6 #[.val (.ref p0), .val (.int p1), .val (.int p2), .val (.int p3), .val (.int (((p2 + (1 : Int32)) + (1 : Int32)) + (1 : Int32)))] [(.int p3), (.int (((p2 + (1 : Int32)) + (1 : Int32)) + (1 : Int32)))])) t → Steps p.tables e below (s₁.setTop (entryFrame m #[(.ref p0), (.int p1), (.int p2), (.int p3)] 5)) t := by
                intro t kont
                refine pre35 t ?_
                show Steps p.tables e below (s₁.setTop (mkF m 14 #[.val (.ref p0), .val (.int p1), .val (.int p2), .val (.int p3), .val (.int ((p2 + (1 : Int32)) + (1 : Int32)))] [(.int p1), (.int (g (((p2 + (1 : Int32)) + (1 : Int32)).toNatClampNeg)))])) _
                refine XS.icmpYes X0.here hx rfl (pc0 := 14) (pc' := 20) rfl (hb hby d3_14) rfl (feq hc14'').2 (by decide) (by decide) ?_
                show Steps p.tables e below (s₁.setTop (mkF m 20 #[.val (.ref p0), .val (.int p1), .val (.int p2), .val (.int p3), .val (.int ((p2 + (1 : Int32)) + (1 : Int32)))] [])) _
                refine XS.iinc X0.here hx rfl (hb hby d3_20) rfl (l' := #[.val (.ref p0), .val (.int p1), .val (.int p2), .val (.int p3), .val (.int (((p2 + (1 : Int32)) + (1 : Int32)) + (1 : Int32)))]) rfl ?_
                show Steps p.tables e below (s₁.setTop (mkF m 23 #[.val (.ref p0), .val (.int p1), .val (.int p2), .val (.int p3), .val (.int (((p2 + (1 : Int32)) + (1 : Int32)) + (1 : Int32)))] [])) _
                refine XS.goto X0.here hx rfl (pc0 := 23) (pc' := 3) rfl (hb hby d3_23) (by decide) (by decide) ?_
                show Steps p.tables e below (s₁.setTop (mkF m 3 #[.val (.ref p0), .val (.int p1), .val (.int p2), .val (.int p3), .val (.int (((p2 + (1 : Int32)) + (1 : Int32)) + (1 : Int32)))] [])) _
                refine XS.iload X0.here hx rfl (hb hby d3_3) rfl ?_
                show Steps p.tables e below (s₁.setTop (mkF m 5 #[.val (.ref p0), .val (.int p1), .val (.int p2), .val (.int p3), .val (.int (((p2 + (1 : Int32)) + (1 : Int32)) + (1 : Int32)))] [(.int (((p2 + (1 : Int32)) + (1 : Int32)) + (1 : Int32)))])) _
                refine XS.iloadN X0.here hx rfl (hb hby d3_5) rfl ?_
                exact kont
              by_cases hc6''' : (((p2 + (1 : Int32)) + (1 : Int32)) + (1 : Int32)) < p3
              · have pre38 : ∀ t, Steps p.tables e below (s₁.setTop (mkF m 9 #[.val (.ref p0), .val (.int p1), .val (.int p2), .val (.int p3), .val (.int (((p2 + (1 : Int32)) + (1 : Int32)) + (1 : Int32)))] [])) t → Steps p.tables e below (s₁.setTop (entryFrame m #[(.ref p0), (.int p1), (.int p2), (.int p3)] 5)) t := by
                  intro t kont
                  refine pre37 t ?_
                  show Steps p.tables e below (s₁.setTop (mkF m 6 #[.val (.ref p0), .val (.int p1), .val (.int p2), .val (.int p3), .val (.int (((p2 + (1 : Int32)) + (1 : Int32)) + (1 : Int32)))] [(.int p3), (.int (((p2 + (1 : Int32)) + (1 : Int32)) + (1 : Int32)))])) _
                  refine XS.icmpNo X0.here hx rfl (hb hby d3_6) rfl (tlt hc6''').2.1 ?_
                  exact kont
                have q4 : 0 ≤ (((p2 + (1 : Int32)) + (1 : Int32)) + (1 : Int32)).toInt := own_up q3 hc6''
                have r4 := own_inb q4 hc6''' ht
                have pre39 : ∀ t, Steps p.tables e below (s₁.setTop (mkF m 14 #[.val (.ref p0), .val (.int p1), .val (.int p2), .val (.int p3), .val (.int (((p2 + (1 : Int32)) + (1 : Int32)) + (1 : Int32)))] [(.int p1), (.int (g ((((p2 + (1 : Int32)) + (1 : Int32)) + (1 : Int32)).toNatClampNeg)))])) t → Steps p.tables e below (s₁.setTop (entryFrame m #[(.ref p0), (.int p1), (.int p2), (.int p3)] 5)) t := by
                  intro t kont
                  refine pre38 t ?_
                  show Steps p.tables e below (s₁.setTop (mkF m 9 #[.val (.ref p0), .val (.int p1), .val (.int p2), .val (.int p3), .val (.int (((p2 + (1 : Int32)) + (1 : Int32)) + (1 : Int32)))] [])) _
                  refine XS.aloadN X0.here hx rfl (hb hby d3_9) rfl rfl ?_
                  show Steps p.tables e below (s₁.setTop (mkF m 10 #[.val (.ref p0), .val (.int p1), .val (.int p2), .val (.int p3), .val (.int (((p2 + (1 : Int32)) + (1 : Int32)) + (1 : Int32)))] [(.ref p0)])) _
                  refine XS.iload X0.here hx rfl (hb hby d3_10) rfl ?_
                  show Steps p.tables e below (s₁.setTop (mkF m 12 #[.val (.ref p0), .val (.int p1), .val (.int p2), .val (.int p3), .val (.int (((p2 + (1 : Int32)) + (1 : Int32)) + (1 : Int32)))] [(.int (((p2 + (1 : Int32)) + (1 : Int32)) + (1 : Int32))), (.ref p0)])) _
                  refine own_ldB X0 hx hZ e0 Ap (k := (((p2 + (1 : Int32)) + (1 : Int32)) + (1 : Int32)).toNatClampNeg) r4.1 rfl r4.2 (fr := (mkF m 12 #[.val (.ref p0), .val (.int p1), .val (.int p2), .val (.int p3), .val (.int (((p2 + (1 : Int32)) + (1 : Int32)) + (1 : Int32)))] [(.int (((p2 + (1 : Int32)) + (1 : Int32)) + (1 : Int32))), (.ref p0)])) rfl rfl (hb hby d3_12) _ ?_
                  show Steps p.tables e below (s₁.setTop (mkF m 13 #[.val (.ref p0), .val (.int p1), .val (.int p2), .val (.int p3), .val (.int (((p2 + (1 : Int32)) + (1 : Int32)) + (1 : Int32)))] [(.int (g ((((p2 + (1 : Int32)) + (1 : Int32)) + (1 : Int32)).toNatClampNeg)))])) _
                  refine XS.iloadN X0.here hx rfl (hb hby d3_13) rfl ?_
                  exact kont
                by_cases hc14''' : (g ((((p2 + (1 : Int32)) + (1 : Int32)) + (1 : Int32)).toNatClampNeg)) = p1
                · have pre40 : ∀ t, Steps p.tables e below (s₁.setTop (mkF m 19 #[.val (.ref p0), .val (.int p1), .val (.int p2), .val (.int p3), .val (.int (((p2 + (1 : Int32)) + (1 : Int32)) + (1 : Int32)))] [(.int (((p2 + (1 : Int32)) + (1 : Int32)) + (1 : Int32)))])) t → Steps p.tables e below (s₁.setTop (entryFrame m #[(.ref p0), (.int p1), (.int p2), (.int p3)] 5)) t := by
                    intro t kont
                    refine pre39 t ?_
                    show Steps p.tables e below (s₁.setTop (mkF m 14 #[.val (.ref p0), .val (.int p1), .val (.int p2), .val (.int p3), .val (.int (((p2 + (1 : Int32)) + (1 : Int32)) + (1 : Int32)))] [(.int p1), (.int (g ((((p2 + (1 : Int32)) + (1 : Int32)) + (1 : Int32)).toNatClampNeg)))])) _
                    refine XS.icmpNo X0.here hx rfl (hb hby d3_14) rfl (teq hc14''').2 ?_
                    show Steps p.tables e below (s₁.setTop (mkF m 17 #[.val (.ref p0), .val (.int p1), .val (.int p2), .val (.int p3), .val (.int (((p2 + (1 : Int32)) + (1 : Int32)) + (1 : Int32)))] [])) _
                    refine XS.iload X0.here hx rfl (hb hby d3_17) rfl ?_
                    exact kont
                  obtain ⟨fs, hr, hrun, hended, hW, hsame⟩ := X0.leave (v := some (.int (((p2 + (1 : Int32)) + (1 : Int32)) + (1 : Int32)))) (fun h => by rw [Bd.returns] at h; cases h)
                  refine ⟨_, _, pre40 _ ?_, hrun, hended, _, _, rfl, ?_, ⟨_, rfl⟩, hW, hsame.mono (by decide) (by decide)⟩
                  · exact retI X0 hx Bd.returns (hb hby d3_19) hr
                  · show Q3 Z p0 p1 p2 p3 g h0 n0 _ s₁.heap _
                    rw [e0]
                    refine ⟨?_, N0, rfl⟩
                    unfold own_ix; rw [if_pos hc6, if_neg hc14, if_pos hc6', if_neg hc14', if_pos hc6'', if_neg hc14'', if_pos hc6''', if_pos hc14''']
                · have pre41 : ∀ t, Steps p.tables e below (s₁.setTop (mkF m 6 #[.val (.ref p0), .val (.int p1), .val (.int p2), .val (.int p3), .val (.int ((((p2 + (1 : Int32)) + (1 : Int32)) + (1 : Int32)) + (1 : Int32)))] [(.int p3), (.int ((((p2 + (1 : Int32)) + (1 : Int32)) + (1 : Int32)) + (1 : Int32)))])) t → Steps p.tables e below (s₁.setTop (entryFrame m #[(.ref p0), (.int p1), (.int p2), (.int p3)] 5)) t := by
                    intro t kont
                    refine pre39 t ?_
                    show Steps p.tables e below (s₁.setTop (mkF m 14 #[.val (.ref p0), .val (.int p1), .val (.int p2), .val (.int p3), .val (.int (((p2 + (1 : Int32)) + (1 : Int32)) + (1 : Int32)))] [(.int p1), (.int (g ((((p2 + (1 : Int32)) + (1 : Int32)) + (1 : Int32)).toNatClampNeg)))])) _
                    refine XS.icmpYes X0.here hx rfl (pc0 := 14) (pc' := 20) rfl (hb hby d3_14) rfl (feq hc14''').2 (by decide) (by decide) ?_
                    show Steps p.tables e below (s₁.setTop (mkF m 20 #[.val (.ref p0), .val (.int p1), .val (.int p2), .val (.int p3), .val (.int (((p2 + (1 : Int32)) + (1 : Int32)) + (1 : Int32)))] [])) _
                    refine XS.iinc X0.here hx rfl (hb hby d3_20) rfl (l' := #[.val (.ref p0), .val (.int p1), .val (.int p2), .val (.int p3), .val (.int ((((p2 + (1 : Int32)) + (1 : Int32)) + (1 : Int32)) + (1 : Int32)))]) rfl ?_
                    show Steps p.tables e below (s₁.setTop (mkF m 23 #[.val (.ref p0), .val (.int p1), .val (.int p2), .val (.int p3), .val (.int ((((p2 + (1 : Int32)) + (1 : Int32)) + (1 : Int32)) + (1 : Int32)))] [])) _
                    refine XS.goto X0.here hx rfl (pc0 := 23) (pc' := 3) rfl (hb hby d3_23) (by decide) (by decide) ?_
                    show Steps p.tables e below (s₁.setTop (mkF m 3 #[.val (.ref p0), .val (.int p1), .val (.int p2), .val (.int p3), .val (.int ((((p2 + (1 : Int32)) + (1 : Int32)) + (1 : Int32)) + (1 : Int32)))] [])) _
                    refine XS.iload X0.here hx rfl (hb hby d3_3) rfl ?_
                    show Steps p.tables e below (s₁.setTop (mkF m 5 #[.val (.ref p0), .val (.int p1), .val (.int p2), .val (.int p3), .val (.int ((((p2 + (1 : Int32)) + (1 : Int32)) + (1 : Int32)) + (1 : Int32)))] [(.int ((((p2 + (1 : Int32)) + (1 : Int32)) + (1 : Int32)) + (1 : Int32)))])) _
                    refine XS.iloadN X0.here hx rfl (hb hby d3_5) rfl ?_
                    exact kont
                  by_cases hc6'''' : ((((p2 + (1 : Int32)) + (1 : Int32)) + (1 : Int32)) + (1 : Int32)) < p3
                  · exfalso
                    exact own_five hf ht hc6' hc6'' hc6''' hc6'''' hc6
                  · have pre42 : ∀ t, Steps p.tables e below (s₁.setTop (mkF m 27 #[.val (.ref p0), .val (.int p1), .val (.int p2), .val (.int p3), .val (.int ((((p2 + (1 : Int32)) + (1 : Int32)) + (1 : Int32)) + (1 : Int32)))] [(.int p3)])) t → Steps p.tables e below (s₁.setTop (entryFrame m #[(.ref p0), (.int p1), (.int p2), (.int p3)] 5)) t := by
                      intro t kont
                      refine pre41 t ?_
                      show Steps p.tables e below (s₁.setTop (mkF m 6 #[.val (.ref p0), .val (.int p1), .val (.int p2), .val (.int p3), .val (.int ((((p2 + (1 : Int32)) + (1 : Int32)) + (1 : Int32)) + (1 : Int32)))] [(.int p3), (.int ((((p2 + (1 : Int32)) + (1 : Int32)) + (1 : Int32)) + (1 : Int32)))])) _
                      refine XS.icmpYes X0.here hx rfl (pc0 := 6) (pc' := 26) rfl (hb hby d3_6) rfl (flt hc6'''').2.1 (by decide) (by decide) ?_
                      show Steps p.tables e below (s₁.setTop (mkF m 26 #[.val (.ref p0), .val (.int p1), .val (.int p2), .val (.int p3), .val (.int ((((p2 + (1 : Int32)) + (1 : Int32)) + (1 : Int32)) + (1 : Int32)))] [])) _
                      refine XS.iloadN X0.here hx rfl (hb hby d3_26) rfl ?_
                      exact kont
                    obtain ⟨fs, hr, hrun, hended, hW, hsame⟩ := X0.leave (v := some (.int p3)) (fun h => by rw [Bd.returns] at h; cases h)
                    refine ⟨_, _, pre42 _ ?_, hrun, hended, _, _, rfl, ?_, ⟨_, rfl⟩, hW, hsame.mono (by decide) (by decide)⟩
                    · exact retI X0 hx Bd.returns (hb hby d3_27) hr
                    · show Q3 Z p0 p1 p2 p3 g h0 n0 _ s₁.heap _
                      rw [e0]
                      refine ⟨?_, N0, rfl⟩
                      unfold own_ix; rw [if_pos hc6, if_neg hc14, if_pos hc6', if_neg hc14', if_pos hc6'', if_neg hc14'', if_pos hc6''', if_neg hc14''', if_neg hc6'''']
              · have pre43 : ∀ t, Steps p.tables e below (s₁.setTop (mkF m 27 #[.val (.ref p0), .val (.int p1), .val (.int p2), .val (.int p3), .val (.int (((p2 + (1 : Int32)) + (1 : Int32)) + (1 : Int32)))] [(.int p3)])) t → Steps p.tables e below (s₁.setTop (entryFrame m #[(.ref p0), (.int p1), (.int p2), (.int p3)] 5)) t := by
                  intro t kont
                  refine pre37 t ?_
                  show Steps p.tables e below (s₁.setTop (mkF m 6 #[.val (.ref p0), .val (.int p1), .val (.int p2), .val (.int p3), .val (.int (((p2 + (1 : Int32)) + (1 : Int32)) + (1 : Int32)))] [(.int p3), (.int (((p2 + (1 : Int32)) + (1 : Int32)) + (1 : Int32)))])) _
                  refine XS.icmpYes X0.here hx rfl (pc0 := 6) (pc' := 26) rfl (hb hby d3_6) rfl (flt hc6''').2.1 (by decide) (by decide) ?_
                  show Steps p.tables e below (s₁.setTop (mkF m 26 #[.val (.ref p0), .val (.int p1), .val (.int p2), .val (.int p3), .val (.int (((p2 + (1 : Int32)) + (1 : Int32)) + (1 : Int32)))] [])) _
                  refine XS.iloadN X0.here hx rfl (hb hby d3_26) rfl ?_
                  exact kont
                obtain ⟨fs, hr, hrun, hended, hW, hsame⟩ := X0.leave (v := some (.int p3)) (fun h => by rw [Bd.returns] at h; cases h)
                refine ⟨_, _, pre43 _ ?_, hrun, hended, _, _, rfl, ?_, ⟨_, rfl⟩, hW, hsame.mono (by decide) (by decide)⟩
                · exact retI X0 hx Bd.returns (hb hby d3_27) hr
                · show Q3 Z p0 p1 p2 p3 g h0 n0 _ s₁.heap _
                  rw [e0]
                  refine ⟨?_, N0, rfl⟩
                  unfold own_ix; rw [if_pos hc6, if_neg hc14, if_pos hc6', if_neg hc14', if_pos hc6'', if_neg hc14'', if_neg hc6''']
          · have pre44 : ∀ t, Steps p.tables e below (s₁.setTop (mkF m 27 #[.val (.ref p0), .val (.int p1), .val (.int p2), .val (.int p3), .val (.int ((p2 + (1 : Int32)) + (1 : Int32)))] [(.int p3)])) t → Steps p.tables e below (s₁.setTop (entryFrame m #[(.ref p0), (.int p1), (.int p2), (.int p3)] 5)) t := by
              intro t kont
              refine pre33 t ?_
              show Steps p.tables e below (s₁.setTop (mkF m 6 #[.val (.ref p0), .val (.int p1), .val (.int p2), .val (.int p3), .val (.int ((p2 + (1 : Int32)) + (1 : Int32)))] [(.int p3), (.int ((p2 + (1 : Int32)) + (1 : Int32)))])) _
              refine XS.icmpYes X0.here hx rfl (pc0 := 6) (pc' := 26) rfl (hb hby d3_6) rfl (flt hc6'').2.1 (by decide) (by decide) ?_
              show Steps p.tables e below (s₁.setTop (mkF m 26 #[.val (.ref p0), .val (.int p1), .val (.int p2), .val (.int p3), .val (.int ((p2 + (1 : Int32)) + (1 : Int32)))] [])) _
              refine XS.iloadN X0.here hx rfl (hb hby d3_26) rfl ?_
              exact kont
            obtain ⟨fs, hr, hrun, hended, hW, hsame⟩ := X0.leave (v := some (.int p3)) (fun h => by rw [Bd.returns] at h; cases h)
            refine ⟨_, _, pre44 _ ?_, hrun, hended, _, _, rfl, ?_, ⟨_, rfl⟩, hW, hsame.mono (by decide) (by decide)⟩
            · exact retI X0 hx Bd.returns (hb hby d3_27) hr
            · show Q3 Z p0 p1 p2 p3 g h0 n0 _ s₁.heap _
              rw [e0]
              refine ⟨?_, N0, rfl⟩
              unfold own_ix; rw [if_pos hc6, if_neg hc14, if_pos hc6', if_neg hc14', if_neg hc6'']
      · have pre45 : ∀ t, Steps p.tables e below (s₁.setTop (mkF m 27 #[.val (.ref p0), .val (.int p1), .val (.int p2), .val (.int p3), .val (.int (p2 + (1 : Int32)))] [(.int p3)])) t → Steps p.tables e below (s₁.setTop (entryFrame m #[(.ref p0), (.int p1), (.int p2), (.int p3)] 5)) t := by
          intro t kont
          refine pre29 t ?_
          show Steps p.tables e below (s₁.setTop (mkF m 6 #[.val (.ref p0), .val (.int p1), .val (.int p2), .val (.int p3), .val (.int (p2 + (1 : Int32)))] [(.int p3), (.int (p2 + (1 : Int32)))])) _
          refine XS.icmpYes X0.here hx rfl (pc0 := 6) (pc' := 26) rfl (hb hby d3_6) rfl (flt hc6').2.1 (by decide) (by decide) ?_
          show Steps p.tables e below (s₁.setTop (mkF m 26 #[.val (.ref p0), .val (.int p1), .val (.int p2), .val (.int p3), .val (.int (p2 + (1 : Int32)))] [])) _
          refine XS.iloadN X0.here hx rfl (hb hby d3_26) rfl ?_
          exact kont
        obtain ⟨fs, hr, hrun, hended, hW, hsame⟩ := X0.leave (v := some (.int p3)) (fun h => by rw [Bd.returns] at h; cases h)
        refine ⟨_, _, pre45 _ ?_, hrun, hended, _, _, rfl, ?_, ⟨_, rfl⟩, hW, hsame.mono (by decide) (by decide)⟩
        · exact retI X0 hx Bd.returns (hb hby d3_27) hr
        · show Q3 Z p0 p1 p2 p3 g h0 n0 _ s₁.heap _
          rw [e0]
          refine ⟨?_, N0, rfl⟩
          unfold own_ix; rw [if_pos hc6, if_neg hc14, if_neg hc6']
  · have pre46 : ∀ t, Steps p.tables e below (s₁.setTop (mkF m 27 #[.val (.ref p0), .val (.int p1), .val (.int p2), .val (.int p3), .val (.int p2)] [(.int p3)])) t → Steps p.tables e below (s₁.setTop (entryFrame m #[(.ref p0), (.int p1), (.int p2), (.int p3)] 5)) t := by
      intro t kont
      refine pre25 t ?_
      show Steps p.tables e below (s₁.setTop (mkF m 6 #[.val (.ref p0), .val (.int p1), .val (.int p2), .val (.int p3), .val (.int p2)] [(.int p3), (.int p2)])) _
      refine XS.icmpYes X0.here hx rfl (pc0 := 6) (pc' := 26) rfl (hb hby d3_6) rfl (flt hc6).2.1 (by decide) (by decide) ?_
      show Steps p.tables e below (s₁.setTop (mkF m 26 #[.val (.ref p0), .val (.int p1), .val (.int p2), .val (.int p3), .val (.int p2)] [])) _
      refine XS.iloadN X0.here hx rfl (hb hby d3_26) rfl ?_
      exact kont
    obtain ⟨fs, hr, hrun, hended, hW, hsame⟩ := X0.leave (v := some (.int p3)) (fun h => by rw [Bd.returns] at h; cases h)
    refine ⟨_, _, pre46 _ ?_, hrun, hended, _, _, rfl, ?_, ⟨_, rfl⟩, hW, hsame.mono (by decide) (by decide)⟩
    · exact retI X0 hx Bd.returns (hb hby d3_27) hr
    · show Q3 Z p0 p1 p2 p3 g h0 n0 _ s₁.heap _
      rw [e0]
      refine ⟨?_, N0, rfl⟩
      unfold own_ix; rw [if_neg hc6]
theorem own_r (x : Int32) : 0 ≤ ((x &&& (2147483647 : Int32)) % (5 : Int32)).toInt ∧ ((x &&& (2147483647 : Int32)) % (5 : Int32)).toInt < 5 := by
  have e := c_mask x 2147483647 31 (by decide) (by decide)
  have q := (c_irem (x &&& (2147483647 : Int32)) 5 5 (by decide)).1
  omega
theorem own_r5 (x : Int32) (h : 0 ≤ x.toInt ∧ x.toInt < 5) : x = 0 ∨ x = 1 ∨ x = 2 ∨ x = 3 ∨ x = 4 := by
  simp only [← Int32.toInt_inj, Int32.reduceToInt]; omega
theorem own_t0 : (0 : Int32).toNatClampNeg = 0 := by decide
theorem own_t1 : (1 : Int32).toNatClampNeg = 1 := by decide
theorem own_t2 : (2 : Int32).toNatClampNeg = 2 := by decide
theorem own_t3 : (3 : Int32).toNatClampNeg = 3 := by decide
theorem own_t4 : (4 : Int32).toNatClampNeg = 4 := by decide
theorem own_plain (g : Nat → Int32) (w f t : Int32) (hf : 0 ≤ f.toInt ∧ f.toInt < 5) (ht : 0 ≤ t.toInt ∧ t.toInt < 5) : own_ix g w f t = own_expd g w f t := by
  rcases own_r5 f hf with rfl | rfl | rfl | rfl | rfl <;> rcases own_r5 t ht with rfl | rfl | rfl | rfl | rfl
  all_goals
    unfold own_ix own_expd own_hit
    simp +decide only [own_t0, own_t1, own_t2, own_t3, own_t4, Int32.reduceAdd, Int32.reduceLT, if_true, if_false]
    try (repeat' split) <;> first | rfl | contradiction | (exfalso; simp_all; done)
theorem pd_1 : parseMethodDescriptor "([BBII)I" = some ⟨[(.array .byte), .byte, .int, .int], some .int⟩ := by decide +kernel
theorem ef_0 (m : MethodId) (x0 : Int32) (x1 : Int32) (x2 : Int32) (x3 : Int32) (x4 : Int32) : entryFrame m #[(.int x0), (.int x1), (.int x2), (.int x3), (.int x4)] maxLocals = mkF m 0 #[.val (.int x0), .val (.int x1), .val (.int x2), .val (.int x3), .val (.int x4), .unset, .unset, .unset, .unset, .unset, .unset] [] := by first | (simp [entryFrame, mkF, argsToLocals, Value.category, maxLocals]; done) | rfl
def Q0 (Z : State) (p0 : Int32) (p1 : Int32) (p2 : Int32) (p3 : Int32) (p4 : Int32) (h0 : Heap) (n0 : Nat) (v : Option Value) (h : Heap) (L : List Loc) : Prop := v = some (.int (1 : Int32)) ∧ Fr n0 L
set_option maxRecDepth 65536 in
set_option maxHeartbeats 40000000 in
theorem rm0 (l : Launch) (Z : State) (a0 : Array Value) (hw : ∀ d ∈ tables_1, d.before a0 Z = true) (ws : List Jvm.Cond) (p0 : Int32) (p1 : Int32) (p2 : Int32) (p3 : Int32) (p4 : Int32) (h0 : Heap) (n0 : Nat) (Z0 : n0 ≤ h0.size) :
    MetFree l x (head1 (Jvm.Cond.code x code maxLocals ret :: ws) room_1) (fun a U => a = #[(.int p0), (.int p1), (.int p2), (.int p3), (.int p4)] ∧ Z.Warmed39 U.vm ∧ U.heap = h0) (fun _ _ _ _ _ => True) (fun _ U o U' => ∃ v L, o = .returned v ∧ Q0 Z p0 p1 p2 p3 p4 h0 n0 v U'.heap L ∧ FrameEnd U o U' L room_1.cells room_1.slots) := by
  refine MetFree.of_bodySF (plainFor_of_name pn_2) hisR ?_
  intro p e s m args below meth c s₁ Bd hml0 hP hK
  obtain ⟨rfl, hZ, hh⟩ := hP
  have hx := Bd.exec
  have hby := Bd.bytes
  have hml : c.maxLocals = 11 := hml0
  have hown : s.vm.findClass "com/example/cribble/cribble/message/HeaderReaderIndexOfPinLaw" = some m.cls := findClass_of_methodNamed Bd.named
  have hnm := (name_of_methodNamed Bd.named Bd.method).1
  have X0 : Stand p l e room_1 s m #[(.int p0), (.int p1), (.int p2), (.int p3), (.int p4)] below meth c s₁ [] 0 0 := Stand.of_body Bd
  have e0 : s₁.heap = h0 := by rw [← hh, Bd.state]; rfl
  have N0 := Fr.nil n0
  have pre0 : ∀ t, Steps p.tables e below (s₁.setTop (mkF m 0 #[.val (.int p0), .val (.int p1), .val (.int p2), .val (.int p3), .val (.int p4), .unset, .unset, .unset, .unset, .unset, .unset] [])) t → Steps p.tables e below (s₁.setTop (entryFrame m #[(.int p0), (.int p1), (.int p2), (.int p3), (.int p4)] maxLocals)) t := fun t k => castTop (ef_0 m p0 p1 p2 p3 p4) k
  have pre47 : ∀ t, Steps p.tables e below (s₁.setTop (mkF m 5 #[.val (.int p0), .val (.int p1), .val (.int p2), .val (.int p3), .val (.int p4), .val (.int (p1.toInt8.toInt32)), .unset, .unset, .unset, .unset, .unset] [(.int (4 : Int32))])) t → Steps p.tables e below (s₁.setTop (entryFrame m #[(.int p0), (.int p1), (.int p2), (.int p3), (.int p4)] maxLocals)) t := by
    intro t kont
    refine pre0 t ?_
    show Steps p.tables e below (s₁.setTop (mkF m 0 #[.val (.int p0), .val (.int p1), .val (.int p2), .val (.int p3), .val (.int p4), .unset, .unset, .unset, .unset, .unset, .unset] [])) _
    refine XS.iloadN X0.here hx rfl (hb hby at_0) rfl ?_
    show Steps p.tables e below (s₁.setTop (mkF m 1 #[.val (.int p0), .val (.int p1), .val (.int p2), .val (.int p3), .val (.int p4), .unset, .unset, .unset, .unset, .unset, .unset] [(.int p1)])) _
    refine XS.i2b X0.here hx rfl (hb hby at_1) rfl ?_
    show Steps p.tables e below (s₁.setTop (mkF m 2 #[.val (.int p0), .val (.int p1), .val (.int p2), .val (.int p3), .val (.int p4), .unset, .unset, .unset, .unset, .unset, .unset] [(.int (p1.toInt8.toInt32))])) _
    refine XS.istore X0.here hx rfl (hb hby at_2) rfl (l' := #[.val (.int p0), .val (.int p1), .val (.int p2), .val (.int p3), .val (.int p4), .val (.int (p1.toInt8.toInt32)), .unset, .unset, .unset, .unset, .unset]) rfl ?_
    show Steps p.tables e below (s₁.setTop (mkF m 4 #[.val (.int p0), .val (.int p1), .val (.int p2), .val (.int p3), .val (.int p4), .val (.int (p1.toInt8.toInt32)), .unset, .unset, .unset, .unset, .unset] [])) _
    refine XS.iconst X0.here hx rfl (hb hby at_4) ?_
    exact kont
  obtain ⟨T48, h48, k48, X48, e48, E48, A48, st48⟩ := newP X0 hx hZ (hw _ (List.mem_of_getElem? (i := 0) rfl)) e0 (g := (mkF m 5 #[.val (.int p0), .val (.int p1), .val (.int p2), .val (.int p3), .val (.int p4), .val (.int (p1.toInt8.toInt32)), .unset, .unset, .unset, .unset, .unset] [(.int (4 : Int32))])) rfl (hb hby at_5) rfl (by decide) (cap := 4) (by decide) (by decide) (by decide) (by decide)
  obtain ⟨b5, g48⟩ : ∃ z, z = h0.size := ⟨_, rfl⟩
  rw [← g48] at A48 st48
  have g_b5 : n0 ≤ b5 := Nat.le_trans Z0 (Nat.le_of_eq g48.symm)
  have V48 := own_arr.newB A48 (i := 4) rfl
  have Z48 : n0 ≤ h48.size := Nat.le_trans Z0 E48.1
  have pre49 : ∀ t, Steps p.tables e below (T48.setTop (mkF m 7 #[.val (.int p0), .val (.int p1), .val (.int p2), .val (.int p3), .val (.int p4), .val (.int (p1.toInt8.toInt32)), .unset, .unset, .unset, .unset, .unset] [(.ref b5)])) t → Steps p.tables e below (s₁.setTop (entryFrame m #[(.int p0), (.int p1), (.int p2), (.int p3), (.int p4)] maxLocals)) t := fun t kont => pre47 t (st48 _ kont)
  have pre50 : ∀ t, Steps p.tables e below (T48.setTop (mkF m 15 #[.val (.int p0), .val (.int p1), .val (.int p2), .val (.int p3), .val (.int p4), .val (.int (p1.toInt8.toInt32)), .val (.ref b5), .unset, .unset, .unset, .unset] [(.int (p2 &&& (1 : Int32))), (.int (0 : Int32)), (.ref b5)])) t → Steps p.tables e below (s₁.setTop (entryFrame m #[(.int p0), (.int p1), (.int p2), (.int p3), (.int p4)] maxLocals)) t := by
    intro t kont
    refine pre49 t ?_
    show Steps p.tables e below (T48.setTop (mkF m 7 #[.val (.int p0), .val (.int p1), .val (.int p2), .val (.int p3), .val (.int p4), .val (.int (p1.toInt8.toInt32)), .unset, .unset, .unset, .unset, .unset] [(.ref b5)])) _
    refine XS.astore X48.here hx rfl (hb hby at_7) rfl rfl (l' := #[.val (.int p0), .val (.int p1), .val (.int p2), .val (.int p3), .val (.int p4), .val (.int (p1.toInt8.toInt32)), .val (.ref b5), .unset, .unset, .unset, .unset]) rfl ?_
    show Steps p.tables e below (T48.setTop (mkF m 9 #[.val (.int p0), .val (.int p1), .val (.int p2), .val (.int p3), .val (.int p4), .val (.int (p1.toInt8.toInt32)), .val (.ref b5), .unset, .unset, .unset, .unset] [])) _
    refine XS.aload X48.here hx rfl (hb hby at_9) rfl rfl ?_
    show Steps p.tables e below (T48.setTop (mkF m 11 #[.val (.int p0), .val (.int p1), .val (.int p2), .val (.int p3), .val (.int p4), .val (.int (p1.toInt8.toInt32)), .val (.ref b5), .unset, .unset, .unset, .unset] [(.ref b5)])) _
    refine XS.iconst X48.here hx rfl (hb hby at_11) ?_
    show Steps p.tables e below (T48.setTop (mkF m 12 #[.val (.int p0), .val (.int p1), .val (.int p2), .val (.int p3), .val (.int p4), .val (.int (p1.toInt8.toInt32)), .val (.ref b5), .unset, .unset, .unset, .unset] [(.int (0 : Int32)), (.ref b5)])) _
    refine XS.iloadN X48.here hx rfl (hb hby at_12) rfl ?_
    show Steps p.tables e below (T48.setTop (mkF m 13 #[.val (.int p0), .val (.int p1), .val (.int p2), .val (.int p3), .val (.int p4), .val (.int (p1.toInt8.toInt32)), .val (.ref b5), .unset, .unset, .unset, .unset] [(.int p2), (.int (0 : Int32)), (.ref b5)])) _
    refine XS.iconst X48.here hx rfl (hb hby at_13) ?_
    show Steps p.tables e below (T48.setTop (mkF m 14 #[.val (.int p0), .val (.int p1), .val (.int p2), .val (.int p3), .val (.int p4), .val (.int (p1.toInt8.toInt32)), .val (.ref b5), .unset, .unset, .unset, .unset] [(.int (1 : Int32)), (.int p2), (.int (0 : Int32)), (.ref b5)])) _
    refine XS.iand X48.here hx rfl (hb hby at_14) rfl ?_
    exact kont
  obtain ⟨v25, hv25⟩ : ∃ z : Int32, z = (if (p2 &&& (1 : Int32)) = (0 : Int32) then (p0.toInt8.toInt32) else (p1.toInt8.toInt32)) := ⟨_, rfl⟩
  have pre51 : ∀ t, Steps p.tables e below (T48.setTop (mkF m 25 #[.val (.int p0), .val (.int p1), .val (.int p2), .val (.int p3), .val (.int p4), .val (.int (p1.toInt8.toInt32)), .val (.ref b5), .unset, .unset, .unset, .unset] [(.int v25), (.int (0 : Int32)), (.ref b5)])) t → Steps p.tables e below (s₁.setTop (entryFrame m #[(.int p0), (.int p1), (.int p2), (.int p3), (.int p4)] maxLocals)) t := by
    intro t kont
    refine pre50 t ?_
    by_cases j_15 : (p2 &&& (1 : Int32)) = (0 : Int32)
    · rw [hv25, if_pos j_15] at kont
      show Steps p.tables e below (T48.setTop (mkF m 15 #[.val (.int p0), .val (.int p1), .val (.int p2), .val (.int p3), .val (.int p4), .val (.int (p1.toInt8.toInt32)), .val (.ref b5), .unset, .unset, .unset, .unset] [(.int (p2 &&& (1 : Int32))), (.int (0 : Int32)), (.ref b5)])) _
      refine XS.ifYes X48.here hx rfl (pc0 := 15) (pc' := 23) rfl (hb hby at_15) rfl ((if0 _ _).trans (teq j_15).1) (by decide) (by decide) ?_
      show Steps p.tables e below (T48.setTop (mkF m 23 #[.val (.int p0), .val (.int p1), .val (.int p2), .val (.int p3), .val (.int p4), .val (.int (p1.toInt8.toInt32)), .val (.ref b5), .unset, .unset, .unset, .unset] [(.int (0 : Int32)), (.ref b5)])) _
      refine XS.iloadN X48.here hx rfl (hb hby at_23) rfl ?_
      show Steps p.tables e below (T48.setTop (mkF m 24 #[.val (.int p0), .val (.int p1), .val (.int p2), .val (.int p3), .val (.int p4), .val (.int (p1.toInt8.toInt32)), .val (.ref b5), .unset, .unset, .unset, .unset] [(.int p0), (.int (0 : Int32)), (.ref b5)])) _
      refine XS.i2b X48.here hx rfl (hb hby at_24) rfl ?_
      exact kont
    · rw [hv25, if_neg j_15] at kont
      show Steps p.tables e below (T48.setTop (mkF m 15 #[.val (.int p0), .val (.int p1), .val (.int p2), .val (.int p3), .val (.int p4), .val (.int (p1.toInt8.toInt32)), .val (.ref b5), .unset, .unset, .unset, .unset] [(.int (p2 &&& (1 : Int32))), (.int (0 : Int32)), (.ref b5)])) _
      refine XS.ifNo X48.here hx rfl (hb hby at_15) rfl ((if0 _ _).trans (feq j_15).1) ?_
      show Steps p.tables e below (T48.setTop (mkF m 18 #[.val (.int p0), .val (.int p1), .val (.int p2), .val (.int p3), .val (.int p4), .val (.int (p1.toInt8.toInt32)), .val (.ref b5), .unset, .unset, .unset, .unset] [(.int (0 : Int32)), (.ref b5)])) _
      refine XS.iload X48.here hx rfl (hb hby at_18) rfl ?_
      show Steps p.tables e below (T48.setTop (mkF m 20 #[.val (.int p0), .val (.int p1), .val (.int p2), .val (.int p3), .val (.int p4), .val (.int (p1.toInt8.toInt32)), .val (.ref b5), .unset, .unset, .unset, .unset] [(.int (p1.toInt8.toInt32)), (.int (0 : Int32)), (.ref b5)])) _
      refine XS.goto X48.here hx rfl (pc0 := 20) (pc' := 25) rfl (hb hby at_20) (by decide) (by decide) ?_
      exact kont
  obtain ⟨T52, h52, X52, e52, W52, V52, st52⟩ := own_stB X48 hx hZ e48 V48 (k := 0) (by decide) (by decide) (by decide) (fr := (mkF m 25 #[.val (.int p0), .val (.int p1), .val (.int p2), .val (.int p3), .val (.int p4), .val (.int (p1.toInt8.toInt32)), .val (.ref b5), .unset, .unset, .unset, .unset] [(.int v25), (.int (0 : Int32)), (.ref b5)])) rfl rfl (hb hby at_25)
  obtain ⟨u25, hu25⟩ : ∃ z : Nat → Int32, z = fun i => if i = 0 then v25.toInt8.toInt32 else (fun _ => (0 : Int32)) i := ⟨_, rfl⟩
  replace V52 : own_arr Z h52 b5 .byte 4 (fun i => .int (u25 i)) := by rw [hu25]; exact V52
  have Z52 : n0 ≤ h52.size := Nat.le_trans Z48 (Keep.of_wr W52).1
  have N52 := Fr.snoc X52 N0 g_b5
  have pre53 : ∀ t, Steps p.tables e below (T52.setTop (mkF m 26 #[.val (.int p0), .val (.int p1), .val (.int p2), .val (.int p3), .val (.int p4), .val (.int (p1.toInt8.toInt32)), .val (.ref b5), .unset, .unset, .unset, .unset] [])) t → Steps p.tables e below (s₁.setTop (entryFrame m #[(.int p0), (.int p1), (.int p2), (.int p3), (.int p4)] maxLocals)) t := fun t kont => pre51 t (st52 _ kont)
  have pre54 : ∀ t, Steps p.tables e below (T52.setTop (mkF m 32 #[.val (.int p0), .val (.int p1), .val (.int p2), .val (.int p3), .val (.int p4), .val (.int (p1.toInt8.toInt32)), .val (.ref b5), .unset, .unset, .unset, .unset] [(.int (p2 &&& (2 : Int32))), (.int (1 : Int32)), (.ref b5)])) t → Steps p.tables e below (s₁.setTop (entryFrame m #[(.int p0), (.int p1), (.int p2), (.int p3), (.int p4)] maxLocals)) t := by
    intro t kont
    refine pre53 t ?_
    show Steps p.tables e below (T52.setTop (mkF m 26 #[.val (.int p0), .val (.int p1), .val (.int p2), .val (.int p3), .val (.int p4), .val (.int (p1.toInt8.toInt32)), .val (.ref b5), .unset, .unset, .unset, .unset] [])) _
    refine XS.aload X52.here hx rfl (hb hby at_26) rfl rfl ?_
    show Steps p.tables e below (T52.setTop (mkF m 28 #[.val (.int p0), .val (.int p1), .val (.int p2), .val (.int p3), .val (.int p4), .val (.int (p1.toInt8.toInt32)), .val (.ref b5), .unset, .unset, .unset, .unset] [(.ref b5)])) _
    refine XS.iconst X52.here hx rfl (hb hby at_28) ?_
    show Steps p.tables e below (T52.setTop (mkF m 29 #[.val (.int p0), .val (.int p1), .val (.int p2), .val (.int p3), .val (.int p4), .val (.int (p1.toInt8.toInt32)), .val (.ref b5), .unset, .unset, .unset, .unset] [(.int (1 : Int32)), (.ref b5)])) _
    refine XS.iloadN X52.here hx rfl (hb hby at_29) rfl ?_
    show Steps p.tables e below (T52.setTop (mkF m 30 #[.val (.int p0), .val (.int p1), .val (.int p2), .val (.int p3), .val (.int p4), .val (.int (p1.toInt8.toInt32)), .val (.ref b5), .unset, .unset, .unset, .unset] [(.int p2), (.int (1 : Int32)), (.ref b5)])) _
    refine XS.iconst X52.here hx rfl (hb hby at_30) ?_
    show Steps p.tables e below (T52.setTop (mkF m 31 #[.val (.int p0), .val (.int p1), .val (.int p2), .val (.int p3), .val (.int p4), .val (.int (p1.toInt8.toInt32)), .val (.ref b5), .unset, .unset, .unset, .unset] [(.int (2 : Int32)), (.int p2), (.int (1 : Int32)), (.ref b5)])) _
    refine XS.iand X52.here hx rfl (hb hby at_31) rfl ?_
    exact kont
  obtain ⟨v45, hv45⟩ : ∃ z : Int32, z = (if (p2 &&& (2 : Int32)) = (0 : Int32) then ((p0 >>> ((8 : Int32) &&& 31)).toInt8.toInt32) else (p1.toInt8.toInt32)) := ⟨_, rfl⟩
  have pre55 : ∀ t, Steps p.tables e below (T52.setTop (mkF m 45 #[.val (.int p0), .val (.int p1), .val (.int p2), .val (.int p3), .val (.int p4), .val (.int (p1.toInt8.toInt32)), .val (.ref b5), .unset, .unset, .unset, .unset] [(.int v45), (.int (1 : Int32)), (.ref b5)])) t → Steps p.tables e below (s₁.setTop (entryFrame m #[(.int p0), (.int p1), (.int p2), (.int p3), (.int p4)] maxLocals)) t := by
    intro t kont
    refine pre54 t ?_
    by_cases j_32 : (p2 &&& (2 : Int32)) = (0 : Int32)
    · rw [hv45, if_pos j_32] at kont
      show Steps p.tables e below (T52.setTop (mkF m 32 #[.val (.int p0), .val (.int p1), .val (.int p2), .val (.int p3), .val (.int p4), .val (.int (p1.toInt8.toInt32)), .val (.ref b5), .unset, .unset, .unset, .unset] [(.int (p2 &&& (2 : Int32))), (.int (1 : Int32)), (.ref b5)])) _
      refine XS.ifYes X52.here hx rfl (pc0 := 32) (pc' := 40) rfl (hb hby at_32) rfl ((if0 _ _).trans (teq j_32).1) (by decide) (by decide) ?_
      show Steps p.tables e below (T52.setTop (mkF m 40 #[.val (.int p0), .val (.int p1), .val (.int p2), .val (.int p3), .val (.int p4), .val (.int (p1.toInt8.toInt32)), .val (.ref b5), .unset, .unset, .unset, .unset] [(.int (1 : Int32)), (.ref b5)])) _
      refine XS.iloadN X52.here hx rfl (hb hby at_40) rfl ?_
      show Steps p.tables e below (T52.setTop (mkF m 41 #[.val (.int p0), .val (.int p1), .val (.int p2), .val (.int p3), .val (.int p4), .val (.int (p1.toInt8.toInt32)), .val (.ref b5), .unset, .unset, .unset, .unset] [(.int p0), (.int (1 : Int32)), (.ref b5)])) _
      refine XS.bipush X52.here hx rfl (hb hby at_41) ?_
      show Steps p.tables e below (T52.setTop (mkF m 43 #[.val (.int p0), .val (.int p1), .val (.int p2), .val (.int p3), .val (.int p4), .val (.int (p1.toInt8.toInt32)), .val (.ref b5), .unset, .unset, .unset, .unset] [(.int (8 : Int32)), (.int p0), (.int (1 : Int32)), (.ref b5)])) _
      refine XS.ishr X52.here hx rfl (hb hby at_43) rfl ?_
      show Steps p.tables e below (T52.setTop (mkF m 44 #[.val (.int p0), .val (.int p1), .val (.int p2), .val (.int p3), .val (.int p4), .val (.int (p1.toInt8.toInt32)), .val (.ref b5), .unset, .unset, .unset, .unset] [(.int (p0 >>> ((8 : Int32) &&& 31))), (.int (1 : Int32)), (.ref b5)])) _
      refine XS.i2b X52.here hx rfl (hb hby at_44) rfl ?_
      exact kont
    · rw [hv45, if_neg j_32] at kont
      show Steps p.tables e below (T52.setTop (mkF m 32 #[.val (.int p0), .val (.int p1), .val (.int p2), .val (.int p3), .val (.int p4), .val (.int (p1.toInt8.toInt32)), .val (.ref b5), .unset, .unset, .unset, .unset] [(.int (p2 &&& (2 : Int32))), (.int (1 : Int32)), (.ref b5)])) _
      refine XS.ifNo X52.here hx rfl (hb hby at_32) rfl ((if0 _ _).trans (feq j_32).1) ?_
      show Steps p.tables e below (T52.setTop (mkF m 35 #[.val (.int p0), .val (.int p1), .val (.int p2), .val (.int p3), .val (.int p4), .val (.int (p1.toInt8.toInt32)), .val (.ref b5), .unset, .unset, .unset, .unset] [(.int (1 : Int32)), (.ref b5)])) _
      refine XS.iload X52.here hx rfl (hb hby at_35) rfl ?_
      show Steps p.tables e below (T52.setTop (mkF m 37 #[.val (.int p0), .val (.int p1), .val (.int p2), .val (.int p3), .val (.int p4), .val (.int (p1.toInt8.toInt32)), .val (.ref b5), .unset, .unset, .unset, .unset] [(.int (p1.toInt8.toInt32)), (.int (1 : Int32)), (.ref b5)])) _
      refine XS.goto X52.here hx rfl (pc0 := 37) (pc' := 45) rfl (hb hby at_37) (by decide) (by decide) ?_
      exact kont
  obtain ⟨T56, h56, X56, e56, W56, V56, st56⟩ := own_stB X52 hx hZ e52 V52 (k := 1) (by decide) (by decide) (by decide) (fr := (mkF m 45 #[.val (.int p0), .val (.int p1), .val (.int p2), .val (.int p3), .val (.int p4), .val (.int (p1.toInt8.toInt32)), .val (.ref b5), .unset, .unset, .unset, .unset] [(.int v45), (.int (1 : Int32)), (.ref b5)])) rfl rfl (hb hby at_45)
  obtain ⟨u45, hu45⟩ : ∃ z : Nat → Int32, z = fun i => if i = 1 then v45.toInt8.toInt32 else u25 i := ⟨_, rfl⟩
  replace V56 : own_arr Z h56 b5 .byte 4 (fun i => .int (u45 i)) := by rw [hu45]; exact V56
  have Z56 : n0 ≤ h56.size := Nat.le_trans Z52 (Keep.of_wr W56).1
  have N56 := Fr.snoc X56 N52 g_b5
  have pre57 : ∀ t, Steps p.tables e below (T56.setTop (mkF m 46 #[.val (.int p0), .val (.int p1), .val (.int p2), .val (.int p3), .val (.int p4), .val (.int (p1.toInt8.toInt32)), .val (.ref b5), .unset, .unset, .unset, .unset] [])) t → Steps p.tables e below (s₁.setTop (entryFrame m #[(.int p0), (.int p1), (.int p2), (.int p3), (.int p4)] maxLocals)) t := fun t kont => pre55 t (st56 _ kont)
  have pre58 : ∀ t, Steps p.tables e below (T56.setTop (mkF m 52 #[.val (.int p0), .val (.int p1), .val (.int p2), .val (.int p3), .val (.int p4), .val (.int (p1.toInt8.toInt32)), .val (.ref b5), .unset, .unset, .unset, .unset] [(.int (p2 &&& (4 : Int32))), (.int (2 : Int32)), (.ref b5)])) t → Steps p.tables e below (s₁.setTop (entryFrame m #[(.int p0), (.int p1), (.int p2), (.int p3), (.int p4)] maxLocals)) t := by
    intro t kont
    refine pre57 t ?_
    show Steps p.tables e below (T56.setTop (mkF m 46 #[.val (.int p0), .val (.int p1), .val (.int p2), .val (.int p3), .val (.int p4), .val (.int (p1.toInt8.toInt32)), .val (.ref b5), .unset, .unset, .unset, .unset] [])) _
    refine XS.aload X56.here hx rfl (hb hby at_46) rfl rfl ?_
    show Steps p.tables e below (T56.setTop (mkF m 48 #[.val (.int p0), .val (.int p1), .val (.int p2), .val (.int p3), .val (.int p4), .val (.int (p1.toInt8.toInt32)), .val (.ref b5), .unset, .unset, .unset, .unset] [(.ref b5)])) _
    refine XS.iconst X56.here hx rfl (hb hby at_48) ?_
    show Steps p.tables e below (T56.setTop (mkF m 49 #[.val (.int p0), .val (.int p1), .val (.int p2), .val (.int p3), .val (.int p4), .val (.int (p1.toInt8.toInt32)), .val (.ref b5), .unset, .unset, .unset, .unset] [(.int (2 : Int32)), (.ref b5)])) _
    refine XS.iloadN X56.here hx rfl (hb hby at_49) rfl ?_
    show Steps p.tables e below (T56.setTop (mkF m 50 #[.val (.int p0), .val (.int p1), .val (.int p2), .val (.int p3), .val (.int p4), .val (.int (p1.toInt8.toInt32)), .val (.ref b5), .unset, .unset, .unset, .unset] [(.int p2), (.int (2 : Int32)), (.ref b5)])) _
    refine XS.iconst X56.here hx rfl (hb hby at_50) ?_
    show Steps p.tables e below (T56.setTop (mkF m 51 #[.val (.int p0), .val (.int p1), .val (.int p2), .val (.int p3), .val (.int p4), .val (.int (p1.toInt8.toInt32)), .val (.ref b5), .unset, .unset, .unset, .unset] [(.int (4 : Int32)), (.int p2), (.int (2 : Int32)), (.ref b5)])) _
    refine XS.iand X56.here hx rfl (hb hby at_51) rfl ?_
    exact kont
  obtain ⟨v65, hv65⟩ : ∃ z : Int32, z = (if (p2 &&& (4 : Int32)) = (0 : Int32) then ((p0 >>> ((16 : Int32) &&& 31)).toInt8.toInt32) else (p1.toInt8.toInt32)) := ⟨_, rfl⟩
  have pre59 : ∀ t, Steps p.tables e below (T56.setTop (mkF m 65 #[.val (.int p0), .val (.int p1), .val (.int p2), .val (.int p3), .val (.int p4), .val (.int (p1.toInt8.toInt32)), .val (.ref b5), .unset, .unset, .unset, .unset] [(.int v65), (.int (2 : Int32)), (.ref b5)])) t → Steps p.tables e below (s₁.setTop (entryFrame m #[(.int p0), (.int p1), (.int p2), (.int p3), (.int p4)] maxLocals)) t := by
    intro t kont
    refine pre58 t ?_
    by_cases j_52 : (p2 &&& (4 : Int32)) = (0 : Int32)
    · rw [hv65, if_pos j_52] at kont
      show Steps p.tables e below (T56.setTop (mkF m 52 #[.val (.int p0), .val (.int p1), .val (.int p2), .val (.int p3), .val (.int p4), .val (.int (p1.toInt8.toInt32)), .val (.ref b5), .unset, .unset, .unset, .unset] [(.int (p2 &&& (4 : Int32))), (.int (2 : Int32)), (.ref b5)])) _
      refine XS.ifYes X56.here hx rfl (pc0 := 52) (pc' := 60) rfl (hb hby at_52) rfl ((if0 _ _).trans (teq j_52).1) (by decide) (by decide) ?_
      show Steps p.tables e below (T56.setTop (mkF m 60 #[.val (.int p0), .val (.int p1), .val (.int p2), .val (.int p3), .val (.int p4), .val (.int (p1.toInt8.toInt32)), .val (.ref b5), .unset, .unset, .unset, .unset] [(.int (2 : Int32)), (.ref b5)])) _
      refine XS.iloadN X56.here hx rfl (hb hby at_60) rfl ?_
      show Steps p.tables e below (T56.setTop (mkF m 61 #[.val (.int p0), .val (.int p1), .val (.int p2), .val (.int p3), .val (.int p4), .val (.int (p1.toInt8.toInt32)), .val (.ref b5), .unset, .unset, .unset, .unset] [(.int p0), (.int (2 : Int32)), (.ref b5)])) _
      refine XS.bipush X56.here hx rfl (hb hby at_61) ?_
      show Steps p.tables e below (T56.setTop (mkF m 63 #[.val (.int p0), .val (.int p1), .val (.int p2), .val (.int p3), .val (.int p4), .val (.int (p1.toInt8.toInt32)), .val (.ref b5), .unset, .unset, .unset, .unset] [(.int (16 : Int32)), (.int p0), (.int (2 : Int32)), (.ref b5)])) _
      refine XS.ishr X56.here hx rfl (hb hby at_63) rfl ?_
      show Steps p.tables e below (T56.setTop (mkF m 64 #[.val (.int p0), .val (.int p1), .val (.int p2), .val (.int p3), .val (.int p4), .val (.int (p1.toInt8.toInt32)), .val (.ref b5), .unset, .unset, .unset, .unset] [(.int (p0 >>> ((16 : Int32) &&& 31))), (.int (2 : Int32)), (.ref b5)])) _
      refine XS.i2b X56.here hx rfl (hb hby at_64) rfl ?_
      exact kont
    · rw [hv65, if_neg j_52] at kont
      show Steps p.tables e below (T56.setTop (mkF m 52 #[.val (.int p0), .val (.int p1), .val (.int p2), .val (.int p3), .val (.int p4), .val (.int (p1.toInt8.toInt32)), .val (.ref b5), .unset, .unset, .unset, .unset] [(.int (p2 &&& (4 : Int32))), (.int (2 : Int32)), (.ref b5)])) _
      refine XS.ifNo X56.here hx rfl (hb hby at_52) rfl ((if0 _ _).trans (feq j_52).1) ?_
      show Steps p.tables e below (T56.setTop (mkF m 55 #[.val (.int p0), .val (.int p1), .val (.int p2), .val (.int p3), .val (.int p4), .val (.int (p1.toInt8.toInt32)), .val (.ref b5), .unset, .unset, .unset, .unset] [(.int (2 : Int32)), (.ref b5)])) _
      refine XS.iload X56.here hx rfl (hb hby at_55) rfl ?_
      show Steps p.tables e below (T56.setTop (mkF m 57 #[.val (.int p0), .val (.int p1), .val (.int p2), .val (.int p3), .val (.int p4), .val (.int (p1.toInt8.toInt32)), .val (.ref b5), .unset, .unset, .unset, .unset] [(.int (p1.toInt8.toInt32)), (.int (2 : Int32)), (.ref b5)])) _
      refine XS.goto X56.here hx rfl (pc0 := 57) (pc' := 65) rfl (hb hby at_57) (by decide) (by decide) ?_
      exact kont
  obtain ⟨T60, h60, X60, e60, W60, V60, st60⟩ := own_stB X56 hx hZ e56 V56 (k := 2) (by decide) (by decide) (by decide) (fr := (mkF m 65 #[.val (.int p0), .val (.int p1), .val (.int p2), .val (.int p3), .val (.int p4), .val (.int (p1.toInt8.toInt32)), .val (.ref b5), .unset, .unset, .unset, .unset] [(.int v65), (.int (2 : Int32)), (.ref b5)])) rfl rfl (hb hby at_65)
  obtain ⟨u65, hu65⟩ : ∃ z : Nat → Int32, z = fun i => if i = 2 then v65.toInt8.toInt32 else u45 i := ⟨_, rfl⟩
  replace V60 : own_arr Z h60 b5 .byte 4 (fun i => .int (u65 i)) := by rw [hu65]; exact V60
  have Z60 : n0 ≤ h60.size := Nat.le_trans Z56 (Keep.of_wr W60).1
  have N60 := Fr.snoc X60 N56 g_b5
  have pre61 : ∀ t, Steps p.tables e below (T60.setTop (mkF m 66 #[.val (.int p0), .val (.int p1), .val (.int p2), .val (.int p3), .val (.int p4), .val (.int (p1.toInt8.toInt32)), .val (.ref b5), .unset, .unset, .unset, .unset] [])) t → Steps p.tables e below (s₁.setTop (entryFrame m #[(.int p0), (.int p1), (.int p2), (.int p3), (.int p4)] maxLocals)) t := fun t kont => pre59 t (st60 _ kont)
  have pre62 : ∀ t, Steps p.tables e below (T60.setTop (mkF m 73 #[.val (.int p0), .val (.int p1), .val (.int p2), .val (.int p3), .val (.int p4), .val (.int (p1.toInt8.toInt32)), .val (.ref b5), .unset, .unset, .unset, .unset] [(.int (p2 &&& (8 : Int32))), (.int (3 : Int32)), (.ref b5)])) t → Steps p.tables e below (s₁.setTop (entryFrame m #[(.int p0), (.int p1), (.int p2), (.int p3), (.int p4)] maxLocals)) t := by
    intro t kont
    refine pre61 t ?_
    show Steps p.tables e below (T60.setTop (mkF m 66 #[.val (.int p0), .val (.int p1), .val (.int p2), .val (.int p3), .val (.int p4), .val (.int (p1.toInt8.toInt32)), .val (.ref b5), .unset, .unset, .unset, .unset] [])) _
    refine XS.aload X60.here hx rfl (hb hby at_66) rfl rfl ?_
    show Steps p.tables e below (T60.setTop (mkF m 68 #[.val (.int p0), .val (.int p1), .val (.int p2), .val (.int p3), .val (.int p4), .val (.int (p1.toInt8.toInt32)), .val (.ref b5), .unset, .unset, .unset, .unset] [(.ref b5)])) _
    refine XS.iconst X60.here hx rfl (hb hby at_68) ?_
    show Steps p.tables e below (T60.setTop (mkF m 69 #[.val (.int p0), .val (.int p1), .val (.int p2), .val (.int p3), .val (.int p4), .val (.int (p1.toInt8.toInt32)), .val (.ref b5), .unset, .unset, .unset, .unset] [(.int (3 : Int32)), (.ref b5)])) _
    refine XS.iloadN X60.here hx rfl (hb hby at_69) rfl ?_
    show Steps p.tables e below (T60.setTop (mkF m 70 #[.val (.int p0), .val (.int p1), .val (.int p2), .val (.int p3), .val (.int p4), .val (.int (p1.toInt8.toInt32)), .val (.ref b5), .unset, .unset, .unset, .unset] [(.int p2), (.int (3 : Int32)), (.ref b5)])) _
    refine XS.bipush X60.here hx rfl (hb hby at_70) ?_
    show Steps p.tables e below (T60.setTop (mkF m 72 #[.val (.int p0), .val (.int p1), .val (.int p2), .val (.int p3), .val (.int p4), .val (.int (p1.toInt8.toInt32)), .val (.ref b5), .unset, .unset, .unset, .unset] [(.int (8 : Int32)), (.int p2), (.int (3 : Int32)), (.ref b5)])) _
    refine XS.iand X60.here hx rfl (hb hby at_72) rfl ?_
    exact kont
  obtain ⟨v86, hv86⟩ : ∃ z : Int32, z = (if (p2 &&& (8 : Int32)) = (0 : Int32) then ((p0 >>> ((24 : Int32) &&& 31)).toInt8.toInt32) else (p1.toInt8.toInt32)) := ⟨_, rfl⟩
  have pre63 : ∀ t, Steps p.tables e below (T60.setTop (mkF m 86 #[.val (.int p0), .val (.int p1), .val (.int p2), .val (.int p3), .val (.int p4), .val (.int (p1.toInt8.toInt32)), .val (.ref b5), .unset, .unset, .unset, .unset] [(.int v86), (.int (3 : Int32)), (.ref b5)])) t → Steps p.tables e below (s₁.setTop (entryFrame m #[(.int p0), (.int p1), (.int p2), (.int p3), (.int p4)] maxLocals)) t := by
    intro t kont
    refine pre62 t ?_
    by_cases j_73 : (p2 &&& (8 : Int32)) = (0 : Int32)
    · rw [hv86, if_pos j_73] at kont
      show Steps p.tables e below (T60.setTop (mkF m 73 #[.val (.int p0), .val (.int p1), .val (.int p2), .val (.int p3), .val (.int p4), .val (.int (p1.toInt8.toInt32)), .val (.ref b5), .unset, .unset, .unset, .unset] [(.int (p2 &&& (8 : Int32))), (.int (3 : Int32)), (.ref b5)])) _
      refine XS.ifYes X60.here hx rfl (pc0 := 73) (pc' := 81) rfl (hb hby at_73) rfl ((if0 _ _).trans (teq j_73).1) (by decide) (by decide) ?_
      show Steps p.tables e below (T60.setTop (mkF m 81 #[.val (.int p0), .val (.int p1), .val (.int p2), .val (.int p3), .val (.int p4), .val (.int (p1.toInt8.toInt32)), .val (.ref b5), .unset, .unset, .unset, .unset] [(.int (3 : Int32)), (.ref b5)])) _
      refine XS.iloadN X60.here hx rfl (hb hby at_81) rfl ?_
      show Steps p.tables e below (T60.setTop (mkF m 82 #[.val (.int p0), .val (.int p1), .val (.int p2), .val (.int p3), .val (.int p4), .val (.int (p1.toInt8.toInt32)), .val (.ref b5), .unset, .unset, .unset, .unset] [(.int p0), (.int (3 : Int32)), (.ref b5)])) _
      refine XS.bipush X60.here hx rfl (hb hby at_82) ?_
      show Steps p.tables e below (T60.setTop (mkF m 84 #[.val (.int p0), .val (.int p1), .val (.int p2), .val (.int p3), .val (.int p4), .val (.int (p1.toInt8.toInt32)), .val (.ref b5), .unset, .unset, .unset, .unset] [(.int (24 : Int32)), (.int p0), (.int (3 : Int32)), (.ref b5)])) _
      refine XS.ishr X60.here hx rfl (hb hby at_84) rfl ?_
      show Steps p.tables e below (T60.setTop (mkF m 85 #[.val (.int p0), .val (.int p1), .val (.int p2), .val (.int p3), .val (.int p4), .val (.int (p1.toInt8.toInt32)), .val (.ref b5), .unset, .unset, .unset, .unset] [(.int (p0 >>> ((24 : Int32) &&& 31))), (.int (3 : Int32)), (.ref b5)])) _
      refine XS.i2b X60.here hx rfl (hb hby at_85) rfl ?_
      exact kont
    · rw [hv86, if_neg j_73] at kont
      show Steps p.tables e below (T60.setTop (mkF m 73 #[.val (.int p0), .val (.int p1), .val (.int p2), .val (.int p3), .val (.int p4), .val (.int (p1.toInt8.toInt32)), .val (.ref b5), .unset, .unset, .unset, .unset] [(.int (p2 &&& (8 : Int32))), (.int (3 : Int32)), (.ref b5)])) _
      refine XS.ifNo X60.here hx rfl (hb hby at_73) rfl ((if0 _ _).trans (feq j_73).1) ?_
      show Steps p.tables e below (T60.setTop (mkF m 76 #[.val (.int p0), .val (.int p1), .val (.int p2), .val (.int p3), .val (.int p4), .val (.int (p1.toInt8.toInt32)), .val (.ref b5), .unset, .unset, .unset, .unset] [(.int (3 : Int32)), (.ref b5)])) _
      refine XS.iload X60.here hx rfl (hb hby at_76) rfl ?_
      show Steps p.tables e below (T60.setTop (mkF m 78 #[.val (.int p0), .val (.int p1), .val (.int p2), .val (.int p3), .val (.int p4), .val (.int (p1.toInt8.toInt32)), .val (.ref b5), .unset, .unset, .unset, .unset] [(.int (p1.toInt8.toInt32)), (.int (3 : Int32)), (.ref b5)])) _
      refine XS.goto X60.here hx rfl (pc0 := 78) (pc' := 86) rfl (hb hby at_78) (by decide) (by decide) ?_
      exact kont
  obtain ⟨T64, h64, X64, e64, W64, V64, st64⟩ := own_stB X60 hx hZ e60 V60 (k := 3) (by decide) (by decide) (by decide) (fr := (mkF m 86 #[.val (.int p0), .val (.int p1), .val (.int p2), .val (.int p3), .val (.int p4), .val (.int (p1.toInt8.toInt32)), .val (.ref b5), .unset, .unset, .unset, .unset] [(.int v86), (.int (3 : Int32)), (.ref b5)])) rfl rfl (hb hby at_86)
  obtain ⟨u86, hu86⟩ : ∃ z : Nat → Int32, z = fun i => if i = 3 then v86.toInt8.toInt32 else u65 i := ⟨_, rfl⟩
  replace V64 : own_arr Z h64 b5 .byte 4 (fun i => .int (u86 i)) := by rw [hu86]; exact V64
  have Z64 : n0 ≤ h64.size := Nat.le_trans Z60 (Keep.of_wr W64).1
  have N64 := Fr.snoc X64 N60 g_b5
  have pre65 : ∀ t, Steps p.tables e below (T64.setTop (mkF m 87 #[.val (.int p0), .val (.int p1), .val (.int p2), .val (.int p3), .val (.int p4), .val (.int (p1.toInt8.toInt32)), .val (.ref b5), .unset, .unset, .unset, .unset] [])) t → Steps p.tables e below (s₁.setTop (entryFrame m #[(.int p0), (.int p1), (.int p2), (.int p3), (.int p4)] maxLocals)) t := fun t kont => pre63 t (st64 _ kont)
  have pre66 : ∀ t, Steps p.tables e below (T64.setTop (mkF m 104 #[.val (.int p0), .val (.int p1), .val (.int p2), .val (.int p3), .val (.int p4), .val (.int (p1.toInt8.toInt32)), .val (.ref b5), .val (.int ((p3 &&& (2147483647 : Int32)) % (5 : Int32))), .val (.int ((p4 &&& (2147483647 : Int32)) % (5 : Int32))), .unset, .unset] [])) t → Steps p.tables e below (s₁.setTop (entryFrame m #[(.int p0), (.int p1), (.int p2), (.int p3), (.int p4)] maxLocals)) t := by
    intro t kont
    refine pre65 t ?_
    show Steps p.tables e below (T64.setTop (mkF m 87 #[.val (.int p0), .val (.int p1), .val (.int p2), .val (.int p3), .val (.int p4), .val (.int (p1.toInt8.toInt32)), .val (.ref b5), .unset, .unset, .unset, .unset] [])) _
    refine XS.iloadN X64.here hx rfl (hb hby at_87) rfl ?_
    show Steps p.tables e below (T64.setTop (mkF m 88 #[.val (.int p0), .val (.int p1), .val (.int p2), .val (.int p3), .val (.int p4), .val (.int (p1.toInt8.toInt32)), .val (.ref b5), .unset, .unset, .unset, .unset] [(.int p3)])) _
    refine X64.ldcInt hx hown (mvT hZ (hw _ (List.mem_of_getElem? (i := 1) rfl))) (g := (mkF m 88 #[.val (.int p0), .val (.int p1), .val (.int p2), .val (.int p3), .val (.int p4), .val (.int (p1.toInt8.toInt32)), .val (.ref b5), .unset, .unset, .unset, .unset] [(.int p3)])) rfl (hb hby at_88) _ ?_
    show Steps p.tables e below (T64.setTop (mkF m 90 #[.val (.int p0), .val (.int p1), .val (.int p2), .val (.int p3), .val (.int p4), .val (.int (p1.toInt8.toInt32)), .val (.ref b5), .unset, .unset, .unset, .unset] [(.int (2147483647 : Int32)), (.int p3)])) _
    refine XS.iand X64.here hx rfl (hb hby at_90) rfl ?_
    show Steps p.tables e below (T64.setTop (mkF m 91 #[.val (.int p0), .val (.int p1), .val (.int p2), .val (.int p3), .val (.int p4), .val (.int (p1.toInt8.toInt32)), .val (.ref b5), .unset, .unset, .unset, .unset] [(.int (p3 &&& (2147483647 : Int32)))])) _
    refine XS.iconst X64.here hx rfl (hb hby at_91) ?_
    show Steps p.tables e below (T64.setTop (mkF m 92 #[.val (.int p0), .val (.int p1), .val (.int p2), .val (.int p3), .val (.int p4), .val (.int (p1.toInt8.toInt32)), .val (.ref b5), .unset, .unset, .unset, .unset] [(.int (5 : Int32)), (.int (p3 &&& (2147483647 : Int32)))])) _
    refine iremM X64 hx rfl (hb hby at_92) rfl (by decide) ?_
    show Steps p.tables e below (T64.setTop (mkF m 93 #[.val (.int p0), .val (.int p1), .val (.int p2), .val (.int p3), .val (.int p4), .val (.int (p1.toInt8.toInt32)), .val (.ref b5), .unset, .unset, .unset, .unset] [(.int ((p3 &&& (2147483647 : Int32)) % (5 : Int32)))])) _
    refine XS.istore X64.here hx rfl (hb hby at_93) rfl (l' := #[.val (.int p0), .val (.int p1), .val (.int p2), .val (.int p3), .val (.int p4), .val (.int (p1.toInt8.toInt32)), .val (.ref b5), .val (.int ((p3 &&& (2147483647 : Int32)) % (5 : Int32))), .unset, .unset, .unset]) rfl ?_
    show Steps p.tables e below (T64.setTop (mkF m 95 #[.val (.int p0), .val (.int p1), .val (.int p2), .val (.int p3), .val (.int p4), .val (.int (p1.toInt8.toInt32)), .val (.ref b5), .val (.int ((p3 &&& (2147483647 : Int32)) % (5 : Int32))), .unset, .unset, .unset] [])) _
    refine XS.iload X64.here hx rfl (hb hby at_95) rfl ?_
    show Steps p.tables e below (T64.setTop (mkF m 97 #[.val (.int p0), .val (.int p1), .val (.int p2), .val (.int p3), .val (.int p4), .val (.int (p1.toInt8.toInt32)), .val (.ref b5), .val (.int ((p3 &&& (2147483647 : Int32)) % (5 : Int32))), .unset, .unset, .unset] [(.int p4)])) _
    refine X64.ldcInt hx hown (mvT hZ (hw _ (List.mem_of_getElem? (i := 1) rfl))) (g := (mkF m 97 #[.val (.int p0), .val (.int p1), .val (.int p2), .val (.int p3), .val (.int p4), .val (.int (p1.toInt8.toInt32)), .val (.ref b5), .val (.int ((p3 &&& (2147483647 : Int32)) % (5 : Int32))), .unset, .unset, .unset] [(.int p4)])) rfl (hb hby at_97) _ ?_
    show Steps p.tables e below (T64.setTop (mkF m 99 #[.val (.int p0), .val (.int p1), .val (.int p2), .val (.int p3), .val (.int p4), .val (.int (p1.toInt8.toInt32)), .val (.ref b5), .val (.int ((p3 &&& (2147483647 : Int32)) % (5 : Int32))), .unset, .unset, .unset] [(.int (2147483647 : Int32)), (.int p4)])) _
    refine XS.iand X64.here hx rfl (hb hby at_99) rfl ?_
    show Steps p.tables e below (T64.setTop (mkF m 100 #[.val (.int p0), .val (.int p1), .val (.int p2), .val (.int p3), .val (.int p4), .val (.int (p1.toInt8.toInt32)), .val (.ref b5), .val (.int ((p3 &&& (2147483647 : Int32)) % (5 : Int32))), .unset, .unset, .unset] [(.int (p4 &&& (2147483647 : Int32)))])) _
    refine XS.iconst X64.here hx rfl (hb hby at_100) ?_
    show Steps p.tables e below (T64.setTop (mkF m 101 #[.val (.int p0), .val (.int p1), .val (.int p2), .val (.int p3), .val (.int p4), .val (.int (p1.toInt8.toInt32)), .val (.ref b5), .val (.int ((p3 &&& (2147483647 : Int32)) % (5 : Int32))), .unset, .unset, .unset] [(.int (5 : Int32)), (.int (p4 &&& (2147483647 : Int32)))])) _
    refine iremM X64 hx rfl (hb hby at_101) rfl (by decide) ?_
    show Steps p.tables e below (T64.setTop (mkF m 102 #[.val (.int p0), .val (.int p1), .val (.int p2), .val (.int p3), .val (.int p4), .val (.int (p1.toInt8.toInt32)), .val (.ref b5), .val (.int ((p3 &&& (2147483647 : Int32)) % (5 : Int32))), .unset, .unset, .unset] [(.int ((p4 &&& (2147483647 : Int32)) % (5 : Int32)))])) _
    refine XS.istore X64.here hx rfl (hb hby at_102) rfl (l' := #[.val (.int p0), .val (.int p1), .val (.int p2), .val (.int p3), .val (.int p4), .val (.int (p1.toInt8.toInt32)), .val (.ref b5), .val (.int ((p3 &&& (2147483647 : Int32)) % (5 : Int32))), .val (.int ((p4 &&& (2147483647 : Int32)) % (5 : Int32))), .unset, .unset]) rfl ?_
    exact kont
  obtain ⟨fr, hfr⟩ : ∃ z : Int32, z = ((p3 &&& (2147483647 : Int32)) % (5 : Int32)) := ⟨_, rfl⟩
  rw [← hfr] at pre66
  obtain ⟨to, hto⟩ : ∃ z : Int32, z = ((p4 &&& (2147483647 : Int32)) % (5 : Int32)) := ⟨_, rfl⟩
  rw [← hto] at pre66
  have qf := own_r p3
  have qt := own_r p4
  rw [← hfr] at qf
  rw [← hto] at qt
  have pre67 : ∀ t, Steps p.tables e below (T64.setTop (mkF m 112 #[.val (.int p0), .val (.int p1), .val (.int p2), .val (.int p3), .val (.int p4), .val (.int (p1.toInt8.toInt32)), .val (.ref b5), .val (.int fr), .val (.int to), .unset, .unset] [(.int to), (.int fr), (.int (p1.toInt8.toInt32)), (.ref b5)])) t → Steps p.tables e below (s₁.setTop (entryFrame m #[(.int p0), (.int p1), (.int p2), (.int p3), (.int p4)] maxLocals)) t := by
    intro t kont
    refine pre66 t ?_
    show Steps p.tables e below (T64.setTop (mkF m 104 #[.val (.int p0), .val (.int p1), .val (.int p2), .val (.int p3), .val (.int p4), .val (.int (p1.toInt8.toInt32)), .val (.ref b5), .val (.int fr), .val (.int to), .unset, .unset] [])) _
    refine XS.aload X64.here hx rfl (hb hby at_104) rfl rfl ?_
    show Steps p.tables e below (T64.setTop (mkF m 106 #[.val (.int p0), .val (.int p1), .val (.int p2), .val (.int p3), .val (.int p4), .val (.int (p1.toInt8.toInt32)), .val (.ref b5), .val (.int fr), .val (.int to), .unset, .unset] [(.ref b5)])) _
    refine XS.iload X64.here hx rfl (hb hby at_106) rfl ?_
    show Steps p.tables e below (T64.setTop (mkF m 108 #[.val (.int p0), .val (.int p1), .val (.int p2), .val (.int p3), .val (.int p4), .val (.int (p1.toInt8.toInt32)), .val (.ref b5), .val (.int fr), .val (.int to), .unset, .unset] [(.int (p1.toInt8.toInt32)), (.ref b5)])) _
    refine XS.iload X64.here hx rfl (hb hby at_108) rfl ?_
    show Steps p.tables e below (T64.setTop (mkF m 110 #[.val (.int p0), .val (.int p1), .val (.int p2), .val (.int p3), .val (.int p4), .val (.int (p1.toInt8.toInt32)), .val (.ref b5), .val (.int fr), .val (.int to), .unset, .unset] [(.int fr), (.int (p1.toInt8.toInt32)), (.ref b5)])) _
    refine XS.iload X64.here hx rfl (hb hby at_110) rfl ?_
    exact kont
  obtain ⟨_, _, ⟨T68, L68, k68, n68⟩, -, X68, ⟨Lc68, hQ68, l68, y68, z68⟩, st68⟩ := Jvm.LawKit.callS X64 hx (y := (⟨"com/example/cribble/cribble/message/HeaderReaderIndexOfPinLaw", "expected", "([BBII)I"⟩ : MethodName)) hown (mvT hZ (hw _ (List.mem_of_getElem? (i := 2) rfl))) (mvT hZ (hw _ (List.mem_of_getElem? (i := 3) rfl))) (mvT hZ (hw _ (List.mem_of_getElem? (i := 4) rfl))) (mvT hZ (hw _ (List.mem_of_getElem? (i := 5) rfl))) (by decide) (backOf (W := 0) (rm1 l Z a0 hw [] b5 (p1.toInt8.toInt32) fr to u86  h64 n0 Z64 V64) hZ (hw _ (List.mem_of_getElem? (i := 5) rfl)) (hw _ (List.mem_of_getElem? (i := 4) rfl)) (by decide) (by decide)) (g := (mkF m 112 #[.val (.int p0), .val (.int p1), .val (.int p2), .val (.int p3), .val (.int p4), .val (.int (p1.toInt8.toInt32)), .val (.ref b5), .val (.int fr), .val (.int to), .unset, .unset] [(.int to), (.int fr), (.int (p1.toInt8.toInt32)), (.ref b5)])) rfl (by rw [hml]; rfl) (argsL := [(.ref b5), (.int (p1.toInt8.toInt32)), (.int fr), (.int to)]) (rest := []) (lenOf pd_1 rfl) rfl (by show 2 * 0 + _ ≤ _; exact Nat.le_of_eq rfl) (hb hby at_112) (fun _ _ => ⟨rfl, e64, (by decide : 1 + 0 ≤ _), (by decide : 4 + 0 ≤ _)⟩)
  dsimp only [Pt.U, Pt.locs, Pt.cells, Pt.slots] at X68 l68 y68 z68 st68 hQ68
  subst l68 y68 z68
  obtain ⟨rfl, N68q, e68⟩ := hQ68
  have N68 := Fr.app N64 N68q
  have pre69 : ∀ t, Steps p.tables e below (T68.setTop (mkF m 115 #[.val (.int p0), .val (.int p1), .val (.int p2), .val (.int p3), .val (.int p4), .val (.int (p1.toInt8.toInt32)), .val (.ref b5), .val (.int fr), .val (.int to), .unset, .unset] [(.int (own_expd u86 (p1.toInt8.toInt32) fr to))])) t → Steps p.tables e below (s₁.setTop (entryFrame m #[(.int p0), (.int p1), (.int p2), (.int p3), (.int p4)] maxLocals)) t := fun t kont => pre67 t (st68 _ kont)
  have pre70 : ∀ t, Steps p.tables e below (T68.setTop (mkF m 125 #[.val (.int p0), .val (.int p1), .val (.int p2), .val (.int p3), .val (.int p4), .val (.int (p1.toInt8.toInt32)), .val (.ref b5), .val (.int fr), .val (.int to), .val (.int (own_expd u86 (p1.toInt8.toInt32) fr to)), .unset] [(.int to), (.int fr), (.int (p1.toInt8.toInt32)), (.ref b5)])) t → Steps p.tables e below (s₁.setTop (entryFrame m #[(.int p0), (.int p1), (.int p2), (.int p3), (.int p4)] maxLocals)) t := by
    intro t kont
    refine pre69 t ?_
    show Steps p.tables e below (T68.setTop (mkF m 115 #[.val (.int p0), .val (.int p1), .val (.int p2), .val (.int p3), .val (.int p4), .val (.int (p1.toInt8.toInt32)), .val (.ref b5), .val (.int fr), .val (.int to), .unset, .unset] [(.int (own_expd u86 (p1.toInt8.toInt32) fr to))])) _
    refine XS.istore X68.here hx rfl (hb hby at_115) rfl (l' := #[.val (.int p0), .val (.int p1), .val (.int p2), .val (.int p3), .val (.int p4), .val (.int (p1.toInt8.toInt32)), .val (.ref b5), .val (.int fr), .val (.int to), .val (.int (own_expd u86 (p1.toInt8.toInt32) fr to)), .unset]) rfl ?_
    show Steps p.tables e below (T68.setTop (mkF m 117 #[.val (.int p0), .val (.int p1), .val (.int p2), .val (.int p3), .val (.int p4), .val (.int (p1.toInt8.toInt32)), .val (.ref b5), .val (.int fr), .val (.int to), .val (.int (own_expd u86 (p1.toInt8.toInt32) fr to)), .unset] [])) _
    refine XS.aload X68.here hx rfl (hb hby at_117) rfl rfl ?_
    show Steps p.tables e below (T68.setTop (mkF m 119 #[.val (.int p0), .val (.int p1), .val (.int p2), .val (.int p3), .val (.int p4), .val (.int (p1.toInt8.toInt32)), .val (.ref b5), .val (.int fr), .val (.int to), .val (.int (own_expd u86 (p1.toInt8.toInt32) fr to)), .unset] [(.ref b5)])) _
    refine XS.iload X68.here hx rfl (hb hby at_119) rfl ?_
    show Steps p.tables e below (T68.setTop (mkF m 121 #[.val (.int p0), .val (.int p1), .val (.int p2), .val (.int p3), .val (.int p4), .val (.int (p1.toInt8.toInt32)), .val (.ref b5), .val (.int fr), .val (.int to), .val (.int (own_expd u86 (p1.toInt8.toInt32) fr to)), .unset] [(.int (p1.toInt8.toInt32)), (.ref b5)])) _
    refine XS.iload X68.here hx rfl (hb hby at_121) rfl ?_
    show Steps p.tables e below (T68.setTop (mkF m 123 #[.val (.int p0), .val (.int p1), .val (.int p2), .val (.int p3), .val (.int p4), .val (.int (p1.toInt8.toInt32)), .val (.ref b5), .val (.int fr), .val (.int to), .val (.int (own_expd u86 (p1.toInt8.toInt32) fr to)), .unset] [(.int fr), (.int (p1.toInt8.toInt32)), (.ref b5)])) _
    refine XS.iload X68.here hx rfl (hb hby at_123) rfl ?_
    exact kont
  obtain ⟨_, _, ⟨T71, L71, k71, n71⟩, -, X71, ⟨Lc71, hQ71, l71, y71, z71⟩, st71⟩ := Jvm.LawKit.callS X68 hx (y := (⟨"com/example/cribble/cribble/message/HeaderReader", "indexOf", "([BBII)I"⟩ : MethodName)) hown (mvT hZ (hw _ (List.mem_of_getElem? (i := 9) rfl))) (mvT hZ (hw _ (List.mem_of_getElem? (i := 10) rfl))) (mvT hZ (hw _ (List.mem_of_getElem? (i := 11) rfl))) (mvT hZ (hw _ (List.mem_of_getElem? (i := 12) rfl))) (by decide) (backOf (W := 0) (rm3 l Z a0 hw [] b5 (p1.toInt8.toInt32) fr to u86  h64 n0 Z64 V64 qf.1 (by omega)) hZ (hw _ (List.mem_of_getElem? (i := 12) rfl)) (hw _ (List.mem_of_getElem? (i := 11) rfl)) (by decide) (by decide)) (g := (mkF m 125 #[.val (.int p0), .val (.int p1), .val (.int p2), .val (.int p3), .val (.int p4), .val (.int (p1.toInt8.toInt32)), .val (.ref b5), .val (.int fr), .val (.int to), .val (.int (own_expd u86 (p1.toInt8.toInt32) fr to)), .unset] [(.int to), (.int fr), (.int (p1.toInt8.toInt32)), (.ref b5)])) rfl (by rw [hml]; rfl) (argsL := [(.ref b5), (.int (p1.toInt8.toInt32)), (.int fr), (.int to)]) (rest := []) (lenOf pd_1 rfl) rfl (by show 2 * 0 + _ ≤ _; exact Nat.le_of_eq rfl) (hb hby at_125) (fun _ _ => ⟨rfl, e68, (by decide : 1 + 0 ≤ _), (by decide : 4 + 0 ≤ _)⟩)
  dsimp only [Pt.U, Pt.locs, Pt.cells, Pt.slots] at X71 l71 y71 z71 st71 hQ71
  subst l71 y71 z71
  obtain ⟨rfl, N71q, e71⟩ := hQ71
  have N71 := Fr.app N68 N71q
  have pre72 : ∀ t, Steps p.tables e below (T71.setTop (mkF m 128 #[.val (.int p0), .val (.int p1), .val (.int p2), .val (.int p3), .val (.int p4), .val (.int (p1.toInt8.toInt32)), .val (.ref b5), .val (.int fr), .val (.int to), .val (.int (own_expd u86 (p1.toInt8.toInt32) fr to)), .unset] [(.int (own_ix u86 (p1.toInt8.toInt32) fr to))])) t → Steps p.tables e below (s₁.setTop (entryFrame m #[(.int p0), (.int p1), (.int p2), (.int p3), (.int p4)] maxLocals)) t := fun t kont => pre70 t (st71 _ kont)
  have pre73 : ∀ t, Steps p.tables e below (T71.setTop (mkF m 134 #[.val (.int p0), .val (.int p1), .val (.int p2), .val (.int p3), .val (.int p4), .val (.int (p1.toInt8.toInt32)), .val (.ref b5), .val (.int fr), .val (.int to), .val (.int (own_expd u86 (p1.toInt8.toInt32) fr to)), .val (.int (own_ix u86 (p1.toInt8.toInt32) fr to))] [(.int (own_expd u86 (p1.toInt8.toInt32) fr to)), (.int (own_ix u86 (p1.toInt8.toInt32) fr to))])) t → Steps p.tables e below (s₁.setTop (entryFrame m #[(.int p0), (.int p1), (.int p2), (.int p3), (.int p4)] maxLocals)) t := by
    intro t kont
    refine pre72 t ?_
    show Steps p.tables e below (T71.setTop (mkF m 128 #[.val (.int p0), .val (.int p1), .val (.int p2), .val (.int p3), .val (.int p4), .val (.int (p1.toInt8.toInt32)), .val (.ref b5), .val (.int fr), .val (.int to), .val (.int (own_expd u86 (p1.toInt8.toInt32) fr to)), .unset] [(.int (own_ix u86 (p1.toInt8.toInt32) fr to))])) _
    refine XS.istore X71.here hx rfl (hb hby at_128) rfl (l' := #[.val (.int p0), .val (.int p1), .val (.int p2), .val (.int p3), .val (.int p4), .val (.int (p1.toInt8.toInt32)), .val (.ref b5), .val (.int fr), .val (.int to), .val (.int (own_expd u86 (p1.toInt8.toInt32) fr to)), .val (.int (own_ix u86 (p1.toInt8.toInt32) fr to))]) rfl ?_
    show Steps p.tables e below (T71.setTop (mkF m 130 #[.val (.int p0), .val (.int p1), .val (.int p2), .val (.int p3), .val (.int p4), .val (.int (p1.toInt8.toInt32)), .val (.ref b5), .val (.int fr), .val (.int to), .val (.int (own_expd u86 (p1.toInt8.toInt32) fr to)), .val (.int (own_ix u86 (p1.toInt8.toInt32) fr to))] [])) _
    refine XS.iload X71.here hx rfl (hb hby at_130) rfl ?_
    show Steps p.tables e below (T71.setTop (mkF m 132 #[.val (.int p0), .val (.int p1), .val (.int p2), .val (.int p3), .val (.int p4), .val (.int (p1.toInt8.toInt32)), .val (.ref b5), .val (.int fr), .val (.int to), .val (.int (own_expd u86 (p1.toInt8.toInt32) fr to)), .val (.int (own_ix u86 (p1.toInt8.toInt32) fr to))] [(.int (own_ix u86 (p1.toInt8.toInt32) fr to))])) _
    refine XS.iload X71.here hx rfl (hb hby at_132) rfl ?_
    exact kont
  by_cases hc134 : (own_ix u86 (p1.toInt8.toInt32) fr to) = (own_expd u86 (p1.toInt8.toInt32) fr to)
  · have pre74 : ∀ t, Steps p.tables e below (T71.setTop (mkF m 142 #[.val (.int p0), .val (.int p1), .val (.int p2), .val (.int p3), .val (.int p4), .val (.int (p1.toInt8.toInt32)), .val (.ref b5), .val (.int fr), .val (.int to), .val (.int (own_expd u86 (p1.toInt8.toInt32) fr to)), .val (.int (own_ix u86 (p1.toInt8.toInt32) fr to))] [(.int (1 : Int32))])) t → Steps p.tables e below (s₁.setTop (entryFrame m #[(.int p0), (.int p1), (.int p2), (.int p3), (.int p4)] maxLocals)) t := by
      intro t kont
      refine pre73 t ?_
      show Steps p.tables e below (T71.setTop (mkF m 134 #[.val (.int p0), .val (.int p1), .val (.int p2), .val (.int p3), .val (.int p4), .val (.int (p1.toInt8.toInt32)), .val (.ref b5), .val (.int fr), .val (.int to), .val (.int (own_expd u86 (p1.toInt8.toInt32) fr to)), .val (.int (own_ix u86 (p1.toInt8.toInt32) fr to))] [(.int (own_expd u86 (p1.toInt8.toInt32) fr to)), (.int (own_ix u86 (p1.toInt8.toInt32) fr to))])) _
      refine XS.icmpNo X71.here hx rfl (hb hby at_134) rfl (teq hc134).2 ?_
      show Steps p.tables e below (T71.setTop (mkF m 137 #[.val (.int p0), .val (.int p1), .val (.int p2), .val (.int p3), .val (.int p4), .val (.int (p1.toInt8.toInt32)), .val (.ref b5), .val (.int fr), .val (.int to), .val (.int (own_expd u86 (p1.toInt8.toInt32) fr to)), .val (.int (own_ix u86 (p1.toInt8.toInt32) fr to))] [])) _
      refine XS.iconst X71.here hx rfl (hb hby at_137) ?_
      show Steps p.tables e below (T71.setTop (mkF m 138 #[.val (.int p0), .val (.int p1), .val (.int p2), .val (.int p3), .val (.int p4), .val (.int (p1.toInt8.toInt32)), .val (.ref b5), .val (.int fr), .val (.int to), .val (.int (own_expd u86 (p1.toInt8.toInt32) fr to)), .val (.int (own_ix u86 (p1.toInt8.toInt32) fr to))] [(.int (1 : Int32))])) _
      refine XS.goto X71.here hx rfl (pc0 := 138) (pc' := 142) rfl (hb hby at_138) (by decide) (by decide) ?_
      exact kont
    obtain ⟨fs, hr, hrun, hended, hW, hsame⟩ := X71.leave (v := some (.int (1 : Int32))) (fun h => by rw [Bd.returns] at h; cases h)
    refine ⟨_, _, pre74 _ ?_, hrun, hended, _, _, rfl, ?_, ⟨_, rfl⟩, hW, hsame.mono (by decide) (by decide)⟩
    · exact retN X71 hx (t := .boolean) Bd.returns (by simp) (hb hby at_142) hr
    · show Q0 Z p0 p1 p2 p3 p4 h0 n0 _ T71.heap _
      rw [e71]
      exact ⟨rfl, N71⟩
  · exfalso
    exact hc134 (own_plain _ _ _ _ qf qt)
set_option maxRecDepth 65536 in
set_option maxHeartbeats 40000000 in
theorem comes_1 {Post : Tables → Env → Array Value → State → Outcome → State → Prop} (hpost : ∀ tb e args s v u, (limb_1_1.after args s (.returned v) u = true ∧ limb_1_2.after args s (.returned v) u = true ∧ True) → FrameEnd s (.returned v) u (Jvm.fieldLocs frame_1_writes args s ++ Jvm.arrayLocs frame_1_arrays args s ++ Jvm.staticLocs frame_1_statics s) 16 128 → Post tb e args s (.returned v) u) :
    ArmFor flags0 classFile x code maxLocals ret World_1 tables_1 room_1 Calls_1 rest_1 Pre_1 Post := by
  intro l hfl _ _ p e ha hc hk s m args below hf hA hF happ hP
  obtain ⟨hcalls, hrest, hpre⟩ := hP
  obtain ⟨-, -, -, hnamed, -, -, -, hat⟩ := (Spec.applies_iff hf).mp happ
  obtain ⟨hg, hn⟩ := and_e (Cond.before_iff.mp (show (Jvm.Cond.and given_1 narrow_1).before args s = true from hpre))
  obtain ⟨g1, g2⟩ := and_e hg
  obtain ⟨g3, g4⟩ := and_e g2
  obtain ⟨g5, g6⟩ := and_e g4
  obtain ⟨g7, g8⟩ := and_e g6
  obtain ⟨g9, g10⟩ := and_e g8
  obtain ⟨w0, w1, w2, w3, w4, rfl⟩ : ∃ w0 w1 w2 w3 w4 : Value, args = #[w0, w1, w2, w3, w4] := by
    have hs : args.size = 5 := by simpa [Cond.value, given_1] using g1
    obtain ⟨L⟩ := args
    match L, hs with
    | [w0, w1, w2, w3, w4], _ => exact ⟨w0, w1, w2, w3, w4, rfl⟩
  have hw := fun d (hd : d ∈ tables_1) => atoms_spec (ws := Jvm.Cond.code x code maxLocals ret :: tables_1) hat d (List.mem_cons_of_mem _ hd)
  have hfit : Fit s := fun {y c} hc i hi => by
    obtain ⟨ha, rfl⟩ := Array.getElem?_eq_some_iff.mp hc
    have q := List.all_eq_true.mp ((Array.all_eq_true_iff_forall_mem.mp hF) _ (Array.getElem_mem ha)) i (List.mem_range.mpr hi)
    simpa [Array.getElem?_eq_getElem hi] using q
  obtain ⟨i0, ei0⟩ := is_v g3
  obtain rfl : w0 = (.int i0) := Option.some.inj ei0
  obtain ⟨i1, ei1⟩ := is_v g5
  obtain rfl : w1 = (.int i1) := Option.some.inj ei1
  obtain ⟨i2, ei2⟩ := is_v g7
  obtain rfl : w2 = (.int i2) := Option.some.inj ei2
  obtain ⟨i3, ei3⟩ := is_v g9
  obtain rfl : w3 = (.int i3) := Option.some.inj ei3
  obtain ⟨i4, ei4⟩ := is_v g10
  obtain rfl : w4 = (.int i4) := Option.some.inj ei4
  obtain ⟨n, o, h1, h2, h3, _, L, rfl, ⟨rfl, N⟩, hq⟩ := rm0 l s _ hw tables_1 i0 i1 i2 i3 i4 s.heap s.heap.size (Nat.le_refl _) p e ha hc hk s m _ below hf ((Spec.applies_iff_loose hf).mp happ).1 ⟨rfl, State.Warmed39.refl s, rfl⟩ trivial
  refine ⟨n, _, h1, h2, h3, hpost _ _ _ _ _ _ ⟨Cond.after_iff.mpr rfl, Cond.after_iff.mpr (eq_i res_at (Term.int_eval (1)) rfl), trivial⟩ ⟨hq.1, hq.2.1, (hq.2.2.sift fun y hy => Or.inr (N y hy)).mono (by decide) (by decide)⟩⟩
theorem main_1_1 : Claimed_1_1 := comes_1 fun _ _ _ _ _ _ h hF => ⟨h.1, hF⟩
theorem main_1_2 : Claimed_1_2 := comes_1 fun _ _ _ _ _ _ h hF => ⟨h.2.1, hF⟩
end Jvm.Pilot.@@N@@
namespace Jvm.Pilot.@@N@@
open Jvm Jvm.ClassFile Sem Op Lib Jvm.Free Jvm.Stand Jvm.Pilot.@@N@@.Jvm.D
/-! MADE BY PROGRAM (witnessworld.py) out of the Statement's table words and the real class files: 9 classes; the members and pool entries that the words name. The judged class is class 1, her method 1. -/
namespace start1
open Jvm.ClassFile
def u (s : String) : CpInfo := .utf8 (stringToUtf16 s)
/-- a pool by its gaps: so many unusable entries, then the entry; so many at the end -/
def gap : Nat → List CpInfo → List CpInfo
  | 0, r => r
  | n + 1, r => .unusable :: gap n r
def poolList (es : List (Nat × CpInfo)) (last : Nat) : List CpInfo := es.foldr (fun e r => gap e.1 (e.2 :: r)) (gap last [])
def pool (es : List (Nat × CpInfo)) (last : Nat) : Array CpInfo := ⟨poolList es last⟩
def fileOf (pool : Array CpInfo) (this : Nat) (attrs : Array Attribute := #[]) (ms : Array MethodInfo := #[]) (fl : Nat := 33) (sup : Nat := 0) (ifs : Array Nat := #[]) (fds : Array FieldInfo := #[]) : ClassFile where
  minorVersion := 0
  majorVersion := 65
  constantPool := pool
  accessFlags := fl
  thisClass := this
  superClass := sup
  interfaces := ifs
  fields := fds
  methods := ms
  attributes := attrs
def plain (name : String) (sup : Option ClassId) : Class where
  name := name
  kind := .ordinary
  loader := none
  accessFlags := 33
  super := sup
  interfaces := #[]
  cf := none
  fields := #[]
  methods := #[]
  instanceTypes := #[]
  staticTypes := #[]
  resolved := #[]
  callSites := []
  init := .initialized
  statics := none
  mirror := none

def pool0 : Array CpInfo := pool [(5, u "<init>"), (0, u "()V"), (1, .class_ 10), (1, u "java/lang/Object")] 113

def k0m0 : Method := { name := "<init>", desc := "()V", sig := { parameters := [], returnType := none }, accessFlags := 1, code := none }
/-- java/lang/Object -/
def k0 : Class := { plain "java/lang/Object" none with
  accessFlags := 33
  interfaces := #[]
  cf := some (fileOf pool0 8 #[] #[{ accessFlags := 1, nameIndex := 5, descriptorIndex := 6, attributes := #[] }] 33 0 #[] #[])
  fields := #[]
  methods := #[k0m0]
  instanceTypes := #[]
  staticTypes := #[]
  resolved := Array.replicate 124 none
  statics := none }

def pool1 : Array CpInfo := pool [(2, .class_ 4), (1, u "java/lang/Object"), (0, u "<init>"), (0, u "()V"), (0, .integer 2147483647), (0, .methodref 9 10), (0, .class_ 11), (0, .nameAndType 12 13), (0, u "com/example/cribble/cribble/message/HeaderReaderIndexOfPinLaw"), (0, u "expected"), (0, u "([BBII)I"), (0, .methodref 15 16), (0, .class_ 17), (0, .nameAndType 18 13), (0, u "com/example/cribble/cribble/message/HeaderReader"), (0, u "indexOf"), (0, .methodref 9 20), (0, .nameAndType 21 22), (0, u "hit"), (0, u "([BBIII)Z"), (2, u "law"), (0, u "(IIIII)Z")] 5

def k1m0 : Method := { name := "<init>", desc := "()V", sig := { parameters := [], returnType := none }, accessFlags := 1, code := none }
def k1c1 : Code := { maxStack := 4, maxLocals := 11, code := code, exceptionTable := #[], attributes := #[] }
def k1m1 : Method := { name := "law", desc := "(IIIII)Z", sig := { parameters := [.int, .int, .int, .int, .int], returnType := some .boolean }, accessFlags := 9, code := some k1c1 }
def k1c2 : Code := { maxStack := 2, maxLocals := 5, code := method_3_code, exceptionTable := #[], attributes := #[] }
def k1m2 : Method := { name := "hit", desc := "([BBIII)Z", sig := { parameters := [(.array .byte), .byte, .int, .int, .int], returnType := some .boolean }, accessFlags := 10, code := some k1c2 }
def k1c3 : Code := { maxStack := 5, maxLocals := 4, code := method_4_code, exceptionTable := #[], attributes := #[] }
def k1m3 : Method := { name := "expected", desc := "([BBII)I", sig := { parameters := [(.array .byte), .byte, .int, .int], returnType := some .int }, accessFlags := 10, code := some k1c3 }
/-- com/example/cribble/cribble/message/HeaderReaderIndexOfPinLaw -/
def k1 : Class := { plain "com/example/cribble/cribble/message/HeaderReaderIndexOfPinLaw" (some 0) with
  accessFlags := 49
  interfaces := #[]
  cf := some (fileOf pool1 9 #[] #[{ accessFlags := 1, nameIndex := 5, descriptorIndex := 6, attributes := #[] }, { accessFlags := 9, nameIndex := 25, descriptorIndex := 26, attributes := #[] }, { accessFlags := 10, nameIndex := 21, descriptorIndex := 22, attributes := #[] }, { accessFlags := 10, nameIndex := 12, descriptorIndex := 13, attributes := #[] }] 49 2 #[] #[])
  fields := #[]
  methods := #[k1m0, k1m1, k1m2, k1m3]
  instanceTypes := #[]
  staticTypes := #[]
  resolved := Array.replicate 32 none
  statics := none }

def pool2 : Array CpInfo := pool [(2, .class_ 4), (1, u "java/lang/Object"), (3, .class_ 10), (1, u "com/example/cribble/cribble/message/HeaderReader"), (0, u "bytes"), (0, u "[B"), (2, u "limit"), (0, u "I"), (7, u "lines"), (0, u "Lcom/example/cribble/cribble/message/Lines;"), (2, u "reads"), (0, u "Lcom/example/cribble/cribble/message/Reads;"), (0, .class_ 31), (0, u "com/example/cribble/cribble/message/HeaderReader$1"), (17, u "done"), (0, u "Z"), (13, u "linesEnd"), (5, u "bodyStart"), (2, u "indexOf"), (0, u "([BBII)I"), (2, u "nameEnd"), (9, u "fieldStart"), (2, u "fieldEnd"), (21, u "valueStart"), (51, u "held")] 25

def k2c0 : Code := { maxStack := 2, maxLocals := 5, code := prog_61_method_17_code, exceptionTable := #[], attributes := #[] }
def k2m0 : Method := { name := "indexOf", desc := "([BBII)I", sig := { parameters := [(.array .byte), .byte, .int, .int], returnType := some .int }, accessFlags := 8, code := some k2c0 }
/-- com/example/cribble/cribble/message/HeaderReader -/
def k2 : Class := { plain "com/example/cribble/cribble/message/HeaderReader" (some 0) with
  accessFlags := 48
  interfaces := #[]
  cf := some (fileOf pool2 8 #[.nestMembers #[30]] #[{ accessFlags := 8, nameIndex := 73, descriptorIndex := 74, attributes := #[] }] 48 2 #[] #[{ accessFlags := 18, nameIndex := 11, descriptorIndex := 12, attributes := #[] }, { accessFlags := 18, nameIndex := 15, descriptorIndex := 16, attributes := #[] }, { accessFlags := 18, nameIndex := 24, descriptorIndex := 25, attributes := #[] }, { accessFlags := 18, nameIndex := 28, descriptorIndex := 29, attributes := #[] }, { accessFlags := 2, nameIndex := 164, descriptorIndex := 50, attributes := #[] }, { accessFlags := 2, nameIndex := 49, descriptorIndex := 50, attributes := #[] }, { accessFlags := 2, nameIndex := 64, descriptorIndex := 16, attributes := #[] }, { accessFlags := 2, nameIndex := 70, descriptorIndex := 16, attributes := #[] }, { accessFlags := 2, nameIndex := 87, descriptorIndex := 16, attributes := #[] }, { accessFlags := 2, nameIndex := 77, descriptorIndex := 16, attributes := #[] }, { accessFlags := 2, nameIndex := 112, descriptorIndex := 16, attributes := #[] }, { accessFlags := 2, nameIndex := 90, descriptorIndex := 16, attributes := #[] }])
  fields := #[{ name := "bytes", type := (.array .byte), accessFlags := 18, slot := 0, constantValue := 0 }, { name := "limit", type := .int, accessFlags := 18, slot := 1, constantValue := 0 }, { name := "lines", type := (.object "com/example/cribble/cribble/message/Lines"), accessFlags := 18, slot := 2, constantValue := 0 }, { name := "reads", type := (.object "com/example/cribble/cribble/message/Reads"), accessFlags := 18, slot := 3, constantValue := 0 }, { name := "held", type := .boolean, accessFlags := 2, slot := 4, constantValue := 0 }, { name := "done", type := .boolean, accessFlags := 2, slot := 5, constantValue := 0 }, { name := "linesEnd", type := .int, accessFlags := 2, slot := 6, constantValue := 0 }, { name := "bodyStart", type := .int, accessFlags := 2, slot := 7, constantValue := 0 }, { name := "fieldStart", type := .int, accessFlags := 2, slot := 8, constantValue := 0 }, { name := "nameEnd", type := .int, accessFlags := 2, slot := 9, constantValue := 0 }, { name := "valueStart", type := .int, accessFlags := 2, slot := 10, constantValue := 0 }, { name := "fieldEnd", type := .int, accessFlags := 2, slot := 11, constantValue := 0 }]
  methods := #[k2m0]
  instanceTypes := #[(.array .byte), .int, (.object "com/example/cribble/cribble/message/Lines"), (.object "com/example/cribble/cribble/message/Reads"), .boolean, .boolean, .int, .int, .int, .int, .int, .int]
  staticTypes := #[]
  resolved := Array.replicate 190 none
  statics := none }

def pool3 : Array CpInfo := pool [(1, u "java/lang/Cloneable"), (0, .class_ 1), (0, u "java/lang/Object"), (0, .class_ 3)] 3

/-- java/lang/Cloneable -/
def k3 : Class := { plain "java/lang/Cloneable" (some 0) with
  accessFlags := 1537
  interfaces := #[]
  cf := some (fileOf pool3 2 #[] #[] 1537 4 #[] #[])
  fields := #[]
  methods := #[]
  instanceTypes := #[]
  staticTypes := #[]
  resolved := Array.replicate 8 none
  statics := none }

def pool4 : Array CpInfo := pool [(1, u "java/io/Serializable"), (0, .class_ 1), (0, u "java/lang/Object"), (0, .class_ 3)] 3

/-- java/io/Serializable -/
def k4 : Class := { plain "java/io/Serializable" (some 0) with
  accessFlags := 1537
  interfaces := #[]
  cf := some (fileOf pool4 2 #[] #[] 1537 4 #[] #[])
  fields := #[]
  methods := #[]
  instanceTypes := #[]
  staticTypes := #[]
  resolved := Array.replicate 8 none
  statics := none }

/-- the primitive byte -/
def k5 : Class := { plain "byte" none with kind := .primitive 'B', accessFlags := 0x411 }
/-- [B -/
def k6 : Class := { plain "[B" (some 0) with kind := .array 5 .byte, interfaces := #[3, 4], accessFlags := 1041 }

/-- the primitive int -/
def k7 : Class := { plain "int" none with kind := .primitive 'I', accessFlags := 0x411 }
/-- [I -/
def k8 : Class := { plain "[I" (some 0) with kind := .array 7 .int, interfaces := #[3, 4], accessFlags := 1041 }

def heap : Heap := #[]
def classes : Array Class := #[k0, k1, k2, k3, k4, k5, k6, k7, k8]
def interned : List (Array UInt16 × Addr) := []
def slotsUsed : Nat := 0
def theMethod : MethodId := ⟨1, 1⟩
def args0 : Array Value := #[.int 9, .int 10, .int 5, .int 1, .int 3]
def aboutOver (below : List Frame) : State where
  vm := { classes := classes, interned := interned.toArray }
  heap := heap
  slotsUsed := slotsUsed
  threads := #[{ frames := .invoking theMethod args0 :: below }]
def below0 : List Frame := [.native { method := ⟨0, 0⟩, args := #[] }]
def about1 : State := aboutOver below0
def p0 : Program := .bare "" "" ""
def e0 : Env := launch0.env 0 0 0
theorem w_frames : about1.frames = Frame.invoking theMethod args0 :: below0 := rfl
set_option maxRecDepth 65536 in
theorem w_args : argsFit about1.vm theMethod args0 = true := by decide +kernel
set_option maxRecDepth 65536 in
theorem w_heap : heapFits about1 = true := by decide +kernel
set_option maxRecDepth 65536 in
theorem w_runnable : about1.curStatus? = some .runnable := by decide +kernel
set_option maxRecDepth 65536 in
theorem w_alone : about1.alone = true := by decide +kernel
set_option maxRecDepth 65536 in
theorem w_named : about1.methodNamed? x = some theMethod := by decide +kernel
set_option maxRecDepth 65536 in
theorem w_hears : about1.hears theMethod below0 = true := by decide +kernel
set_option maxRecDepth 65536 in
theorem w_ripe : about1.ripe theMethod args0 below0 = true := by decide +kernel
theorem w_running : about1.status = .running := rfl
set_option maxRecDepth 65536 in
theorem w_room : about1.hasRoom e0.platform room_1 = true :=
  launch0.hasRoom_least _ room_1 (by decide +kernel) (by decide +kernel) (by decide +kernel) (by decide +kernel) (by decide +kernel) (by decide +kernel)
theorem allAtoms_all (ts : List Jvm.Cond) (a : Array Jvm.Value) (st : Jvm.State) : (allAtoms ts).before a st = ts.all (fun c => c.before a st) := by
  induction ts with
  | nil => rfl
  | cons c t ih =>
    show (Jvm.Cond.and c (allAtoms t)).before a st = _
    rw [Jvm.Cond.before_and, ih, List.all_cons]
def words1 : List Jvm.Cond := Jvm.Cond.code x code maxLocals ret :: tables_1
/-- a 'code' word, met by the world's own term for the bytes: nothing is compared byte by byte -/
theorem code_word {y : MethodName} {bytes : ByteArray} {mx : Nat} {rt : Option FieldType} {a : Array Value} {s : State} {m : MethodId} {meth : Method} {c : Code} (h1 : s.methodNamed? y = some m) (h2 : s.vm.method? m = some meth) (h3 : meth.code = some c) (h4 : c.code = bytes)
    (h5 : (c.maxLocals == mx && c.exceptionTable.isEmpty && decide (c.maxStack ≤ mostOperands) && decide (meth.sig.returnType = rt) && !meth.locks && decide (parseMethodDescriptor y.desc = some meth.sig)) = true) : (Jvm.Cond.code y bytes mx rt).before a s = true := by
  simp only [Bool.and_eq_true, beq_iff_eq, Bool.not_eq_true', decide_eq_true_eq] at h5
  obtain ⟨⟨⟨⟨⟨g1, g2⟩, g3⟩, g4⟩, g5⟩, g6⟩ := h5
  simp [Cond.before, Cond.holds, Cond.value, h1, h2, h3, h4, g1, g2, g3, g4, g5, g6]
def isCode : Jvm.Cond → Bool
  | .code _ _ _ _ => true
  | _ => false
theorem all_split {L : List Jvm.Cond} {P : Jvm.Cond → Bool} (h1 : L.all (fun c => isCode c || P c) = true) (h2 : ∀ c ∈ L.filter isCode, P c = true) : L.all P = true := by
  refine List.all_eq_true.mpr fun c hc => ?_
  have h := List.all_eq_true.mp h1 c hc
  rcases Bool.eq_false_or_eq_true (isCode c) with hi | hi
  · exact h2 c (List.mem_filter.mpr ⟨hc, hi⟩)
  · simpa [hi] using h
set_option maxRecDepth 65536 in
theorem w_c0 : (Jvm.Cond.code x code maxLocals ret).before args0 about1 = true := code_word (m := ⟨1, 1⟩) (meth := k1m1) (c := k1c1) (by decide +kernel) rfl rfl rfl (by decide +kernel)
set_option maxRecDepth 65536 in
theorem w_c1 : (Jvm.Cond.code ({ cls := "com/example/cribble/cribble/message/HeaderReaderIndexOfPinLaw", name := "expected", desc := "([BBII)I" } : Jvm.MethodName) method_4_code (4 : Nat) (Option.some Jvm.ClassFile.FieldType.int)).before args0 about1 = true := code_word (m := ⟨1, 3⟩) (meth := k1m3) (c := k1c3) (by decide +kernel) rfl rfl rfl (by decide +kernel)
set_option maxRecDepth 65536 in
theorem w_c2 : (Jvm.Cond.code ({ cls := "com/example/cribble/cribble/message/HeaderReaderIndexOfPinLaw", name := "hit", desc := "([BBIII)Z" } : Jvm.MethodName) method_3_code (5 : Nat) (Option.some Jvm.ClassFile.FieldType.boolean)).before args0 about1 = true := code_word (m := ⟨1, 2⟩) (meth := k1m2) (c := k1c2) (by decide +kernel) rfl rfl rfl (by decide +kernel)
set_option maxRecDepth 65536 in
theorem w_c3 : (Jvm.Cond.code ({ cls := "com/example/cribble/cribble/message/HeaderReader", name := "indexOf", desc := "([BBII)I" } : Jvm.MethodName) prog_61_method_17_code (5 : Nat) (Option.some Jvm.ClassFile.FieldType.int)).before args0 about1 = true := code_word (m := ⟨2, 0⟩) (meth := k2m0) (c := k2c0) (by decide +kernel) rfl rfl rfl (by decide +kernel)
def codes1 : List Jvm.Cond := [Jvm.Cond.code x code maxLocals ret, Jvm.Cond.code ({ cls := "com/example/cribble/cribble/message/HeaderReaderIndexOfPinLaw", name := "expected", desc := "([BBII)I" } : Jvm.MethodName) method_4_code (4 : Nat) (Option.some Jvm.ClassFile.FieldType.int), Jvm.Cond.code ({ cls := "com/example/cribble/cribble/message/HeaderReaderIndexOfPinLaw", name := "hit", desc := "([BBIII)Z" } : Jvm.MethodName) method_3_code (5 : Nat) (Option.some Jvm.ClassFile.FieldType.boolean), Jvm.Cond.code ({ cls := "com/example/cribble/cribble/message/HeaderReader", name := "indexOf", desc := "([BBII)I" } : Jvm.MethodName) prog_61_method_17_code (5 : Nat) (Option.some Jvm.ClassFile.FieldType.int)]
set_option maxRecDepth 65536 in
theorem codes_eq : words1.filter isCode = codes1 := rfl
theorem w_codes : ∀ c ∈ words1.filter isCode, c.before args0 about1 = true := by
  rw [codes_eq]
  intro c hc
  simp only [codes1, List.mem_cons, List.not_mem_nil, or_false] at hc
  rcases hc with rfl | rfl | rfl | rfl
  · exact w_c0
  · exact w_c1
  · exact w_c2
  · exact w_c3
set_option maxRecDepth 65536 in
theorem w_t1 : words1.all (fun c => isCode c || c.before args0 about1) = true := by decide +kernel
theorem w_tables : (allAtoms (Jvm.Cond.code x code maxLocals ret :: tables_1)).before args0 about1 = true := by
  rw [allAtoms_all]
  show words1.all (fun c => c.before args0 about1) = true
  refine all_split ?_ w_codes
  rw [w_t1]
set_option maxRecDepth 65536 in
theorem w_case : (Jvm.Cond.and given_1 narrow_1).before args0 about1 = true := by decide +kernel
theorem w_applies : (headSpec (Jvm.Cond.code x code maxLocals ret :: tables_1) room_1).applies x e0.platform about1 = true :=
  (Spec.applies_iff w_frames).mpr ⟨w_running, w_runnable, w_alone, w_named, w_hears, w_ripe, w_room, w_tables⟩
theorem atStart : AtStart classFile x code maxLocals ret World_1 tables_1 room_1 Calls_1 rest_1 Pre_1 launch0 p0 e0 about1 theMethod args0 below0 :=
  ⟨lists_1, trivial, launch0.admits_env _ _ _, launch0.least_env, fairChoices_fair.cas, fairChoices_fair.clock, w_frames, w_args, w_heap, w_applies, trivial, trivial, w_case⟩
end start1
theorem witness_1 : WitnessClaimed_1 := ⟨start1.p0, start1.e0, start1.about1, start1.theMethod, start1.args0, start1.below0, start1.atStart⟩
end Jvm.Pilot.@@N@@
